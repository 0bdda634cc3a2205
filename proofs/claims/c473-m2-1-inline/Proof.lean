import JvmDerived
import JvmDerived.Pilot.@@N@@Statement
import JvmDerived.Pilot.@@N@@Code
set_option linter.unusedVariables false
set_option linter.unusedSimpArgs false
namespace Jvm.RoadKit
open Sem ClassFile Op Lib Jvm.Stand Jvm.Free Jvm.LawKit
section New
variable {p : Program} {l : Launch} {e : Env} {R : Room} {s : State} {m : MethodId} {args : Array Value} {below : List Frame} {meth : Method} {c : Code} {T : State} {locs : List Loc} {cells slots : Nat}
theorem retI (X : Stand p l e R s m args below meth c T locs cells slots) (hx : p.tables.exec = Jvm.exec) {pc : Nat} {Ls : Array Slot} {z : Int32} {rest : List Value} (hret : meth.sig.returnType = some .int) (hd : decode c.code pc = .ok (.ireturn, 1)) {fs : List Frame}
    (hl : ∀ (f : JFrame) (acts : List Action), f.method = m → f.locked = none → f.entered = [] → (doReturn e (T.setTop f) acts (some (.int z))).1 = T.setFrames fs) : Steps p.tables e below (T.setTop (mkF m pc Ls (.int z :: rest))) (T.setFrames fs) :=
  retOut X hx hret rfl (Or.inl ⟨rfl, Or.inl rfl, z, rfl⟩) hd hl
end New
end Jvm.RoadKit
/- laws to paste: Road.backV (cut by pick.py; bodies as the Statement names them) -/
namespace Jvm.Pilot.@@N@@
namespace StrChars
open Jvm Sem ClassFile Op Lib Jvm.Stand Jvm.Free.XT Jvm.Free.ALB Jvm.Free.JM Jvm.Free
open Jvm.Lib.Cold (StaticIs)
/-- a char array whose places are chars -/
def Ch (a : Addr) (A : Cell) (U : State) : Prop := Arr .char a A U ∧ Typed .char A
theorem Ch.mv {a : Addr} {A : Cell} {U U' : State} (h : Ch a A U) (hal : U.vm.Alike U'.vm) (hh : U'.heap = U.heap) : Ch a A U' := ⟨h.1.mv hal hh, h.2⟩
theorem Ch.keep {a : Addr} {A : Cell} {U U' : State} (h : Ch a A U) (hal : U.vm.Alike U'.vm) (hk : U'.heap[a]? = some A) : Ch a A U' := ⟨h.1.keep hal hk, h.2⟩
/-- what place i of a char[]'s cell holds -/
def cv (A : Cell) (i : Nat) : Int32 := match A.slots[i]? with | some (.int x) => x | _ => 0
theorem Ch.get {a : Addr} {A : Cell} {U : State} (h : Ch a A U) {i : Nat} (hi : i < A.slots.size) : A.slots[i]? = some (.int (cv A i)) := by
  have e := Array.getElem?_eq_getElem hi
  have f := h.2 i _ e
  unfold cv; rw [e]
  generalize A.slots[i] = v at f
  cases v <;> simp [fits] at f ⊢
/-- the byte that i2b leaves of a char -/
def lo8 (x : Int32) : Int32 := x.toInt8.toInt32
theorem fits_lo8 (y : Int32) : fits .byte (.int (lo8 y)) = true := by
  have h1 := y.toInt8.le_toInt
  have h2 := y.toInt8.toInt_lt
  simp only [lo8, fits, Bool.and_eq_true, decide_eq_true_eq, Int32.le_iff_toInt_le, Int8.toInt_toInt32, show (-128 : Int32).toInt = -128 from by decide, show (127 : Int32).toInt = 127 from by decide]
  omega
/-- A' is A but that each place j of lo .. hi - 1 holds f j -/
def Laid (A A' : Cell) (lo hi : Nat) (f : Nat → Value) : Prop := A'.cls = A.cls ∧ A'.vm = A.vm ∧ A'.slots.size = A.slots.size ∧ ∀ i, A'.slots[i]? = if lo ≤ i ∧ i < hi then some (f i) else A.slots[i]?
theorem Laid.zero (A : Cell) (lo : Nat) (f : Nat → Value) : Laid A A lo (lo + 0) f := ⟨rfl, rfl, rfl, fun i => by rw [if_neg (by omega)]⟩
theorem Laid.step {A Ak : Cell} {lo k : Nat} {f : Nat → Value} {v : Value} (h : Laid A Ak lo k f) (hlo : lo ≤ k) (hk : k < Ak.slots.size) (hv : v = f k) : Laid A (Ak.setSlot k v) lo (k + 1) f := by
  refine ⟨h.1, h.2.1, by simpa [Cell.setSlot] using h.2.2.1, fun i => ?_⟩
  by_cases e : k = i
  · subst e; rw [Cell.slots_setSlot_self v hk, if_pos (by omega), hv]
  · rw [Cell.slots_setSlot_ne v e, h.2.2.2 i]
    by_cases q : lo ≤ i ∧ i < k
    · rw [if_pos q, if_pos (by omega)]
    · rw [if_neg q, if_neg (by omega)]
def U16 : String := "java/lang/StringUTF16"
namespace Cmp5
def yN : MethodName := ⟨"java/lang/StringUTF16", "compress", "([CI[BII)I"⟩
abbrev yB : ByteArray := jdk_52_method_21_code
theorem d0 : decode yB 0 = .ok (.iconst 0, 1) := by decide +kernel
theorem d1 : decode yB 1 = .ok (.istore 5, 2) := by decide +kernel
theorem d3 : decode yB 3 = .ok (.iload 5, 2) := by decide +kernel
theorem d5 : decode yB 5 = .ok (.iload 4, 2) := by decide +kernel
theorem d7 : decode yB 7 = .ok (.if_icmp (.ge) 37, 3) := by decide +kernel
theorem d10 : decode yB 10 = .ok (.aload_n 0, 1) := by decide +kernel
theorem d11 : decode yB 11 = .ok (.iload_n 1, 1) := by decide +kernel
theorem d12 : decode yB 12 = .ok (.caload, 1) := by decide +kernel
theorem d13 : decode yB 13 = .ok (.istore 6, 2) := by decide +kernel
theorem d15 : decode yB 15 = .ok (.iload 6, 2) := by decide +kernel
theorem d17 : decode yB 17 = .ok (.sipush 255, 3) := by decide +kernel
theorem d20 : decode yB 20 = .ok (.if_icmp (.le) 6, 3) := by decide +kernel
theorem d26 : decode yB 26 = .ok (.aload_n 2, 1) := by decide +kernel
theorem d27 : decode yB 27 = .ok (.iload_n 3, 1) := by decide +kernel
theorem d28 : decode yB 28 = .ok (.iload 6, 2) := by decide +kernel
theorem d30 : decode yB 30 = .ok (.i2b, 1) := by decide +kernel
theorem d31 : decode yB 31 = .ok (.bastore, 1) := by decide +kernel
theorem d32 : decode yB 32 = .ok (.iinc 1 1, 3) := by decide +kernel
theorem d35 : decode yB 35 = .ok (.iinc 3 1, 3) := by decide +kernel
theorem d38 : decode yB 38 = .ok (.iinc 5 1, 3) := by decide +kernel
theorem d41 : decode yB 41 = .ok (.goto (-38), 3) := by decide +kernel
theorem d44 : decode yB 44 = .ok (.iload 4, 2) := by decide +kernel
theorem d46 : decode yB 46 = .ok (.ireturn, 1) := by decide +kernel
def site : List Cond := []
def tab : Cond := tabOf yN yB 7 (some .int) site
def P (b : Addr) (A : Cell) (d : Addr) (B : Cell) (o q len : Nat) (args : Array Value) (s : State) : Prop := args = #[.ref b, .int (Int32.ofNat o), .ref d, .int (Int32.ofNat q), .int (Int32.ofNat len)] ∧ Ch b A s ∧ Arr .byte d B s ∧ b ≠ d ∧ o + len ≤ A.slots.size ∧ q + len ≤ B.slots.size ∧ ∀ i, i < len → ¬ 255 < cv A (o + i)
def E (b : Addr) (A : Cell) (d : Addr) (B : Cell) (o q len : Nat) (r : Option Value) (s u : State) : Prop := r = some (.int (Int32.ofNat len)) ∧ ∃ B', Put d B' s u ∧ Laid B B' q (q + len) (fun j => Value.int (lo8 (cv A (o + (j - q)))))
/-- no char of the range above 255: len; the places written hold each char's low byte -/
theorem law (l : Launch) (b : Addr) (A : Cell) (d : Addr) (B : Cell) (o q len : Nat) : Law l yN 5 5 0 0 yB 7 (some .int) site (P b A d B o q len) (E b A d B o q len) (copyLocs d q len) 0 0 := by
  refine Law.of_walk (plainFor_of_name (by decide +kernel)) (by decide +kernel) (by decide +kernel) (by decide) (fun _ _ h => by rw [h.1]; rfl) (fun _ U U' hal hh h => ⟨h.1, h.2.1.mv hal hh, h.2.2.1.mv hal hh, h.2.2.2⟩) (fun r U U' V V' h1 hal h2 h => ⟨h.1, h.2.elim fun B' q => ⟨B', q.1.mv h1 h2, q.2⟩⟩) ?_
  intro p e s m args below meth c s₁ X0 hexec hbytes hml hret hlk hnm hown hh0 W hP
  obtain ⟨rfl, hA, hB, hne, l1, l2, hp⟩ := hP
  have c1 : Steps p.tables e below (s₁.setTop (entryFrame m #[.ref b, .int (Int32.ofNat o), .ref d, .int (Int32.ofNat q), .int (Int32.ofNat len)] 7)) (s₁.setTop (mkF m 0 #[.val (.ref b), .val (.int (Int32.ofNat o)), .val (.ref d), .val (.int (Int32.ofNat q)), .val (.int (Int32.ofNat len)), .unset, .unset] [])) := entry rfl
  have hA0 := hA.1.mv X0.warmed.alike hh0
  have hB0 := hB.mv X0.warmed.alike hh0
  have a31 := hA.1.2.2.2
  have c2 : Steps p.tables e below (s₁.setTop (entryFrame m #[.ref b, .int (Int32.ofNat o), .ref d, .int (Int32.ofNat q), .int (Int32.ofNat len)] 7)) (s₁.setTop (mkF m 3 #[.val (.ref b), .val (.int (Int32.ofNat o)), .val (.ref d), .val (.int (Int32.ofNat q)), .val (.int (Int32.ofNat len)), .val (.int 0), .unset] [])) := c1.trans (by
    refine iconstV X0.here hexec rfl 0 (hb hbytes d0) (by decide) ?_
    refine XS.istore X0.here hexec rfl (hb hbytes d1) rfl rfl ?_
    exact Steps.refl _)
  have loop : ∀ (r i : Nat), i + r = len → ∀ (z : Slot), (z = .unset ∨ ∃ w, z = .val w ∧ w.category = 1) → ∀ (Tl : State) (Bk : Cell), Stand p l e { frames := 0, locals := 0, cells := 0, slots := 0 } s m #[.ref b, .int (Int32.ofNat o), .ref d, .int (Int32.ofNat q), .int (Int32.ofNat len)] below meth c Tl ([] ++ copyLocs d q i) 0 0 → Put d Bk s₁ Tl → Laid B Bk q (q + i) (fun j => Value.int (lo8 (cv A (o + (j - q))))) →
      Steps p.tables e below (s₁.setTop (entryFrame m #[.ref b, .int (Int32.ofNat o), .ref d, .int (Int32.ofNat q), .int (Int32.ofNat len)] 7)) (Tl.setTop (mkF m 3 #[.val (.ref b), .val (.int (Int32.ofNat (o + i))), .val (.ref d), .val (.int (Int32.ofNat (q + i))), .val (.int (Int32.ofNat len)), .val (.int (Int32.ofNat i)), z] [])) → ∃ (T' : State) (B' : Cell) (z' : Slot), Stand p l e { frames := 0, locals := 0, cells := 0, slots := 0 } s m #[.ref b, .int (Int32.ofNat o), .ref d, .int (Int32.ofNat q), .int (Int32.ofNat len)] below meth c T' ([] ++ copyLocs d q len) 0 0 ∧ Put d B' s₁ T' ∧ Laid B B' q (q + len) (fun j => Value.int (lo8 (cv A (o + (j - q))))) ∧
      Steps p.tables e below (s₁.setTop (entryFrame m #[.ref b, .int (Int32.ofNat o), .ref d, .int (Int32.ofNat q), .int (Int32.ofNat len)] 7)) (T'.setTop (mkF m 3 #[.val (.ref b), .val (.int (Int32.ofNat (o + len))), .val (.ref d), .val (.int (Int32.ofNat (q + len))), .val (.int (Int32.ofNat len)), .val (.int (Int32.ofNat len)), z'] [])) := by
    intro r
    induction r with
    | zero =>
      intro i hi z hz Tl Bk Xl pl fl cl
      have hil : i = len := by omega
      rw [hil] at Xl fl cl
      exact ⟨Tl, Bk, z, Xl, pl, fl, cl⟩
    | succ r ih =>
      intro i hi z hz Tl Bk Xl pl fl cl
      have all := X0.warmed.alike.symm.trans Xl.warmed.alike
      have hAl := hA0.keep all (pl.other hne hA0.1)
      have hBk := hB0.like all pl.1 fl.1 fl.2.1 fl.2.2.1
      have hlt : q + i < Bk.slots.size := by rw [fl.2.2.1]; omega
      have c3 : Steps p.tables e below (s₁.setTop (entryFrame m #[.ref b, .int (Int32.ofNat o), .ref d, .int (Int32.ofNat q), .int (Int32.ofNat len)] 7)) (Tl.setTop (mkF m 12 #[.val (.ref b), .val (.int (Int32.ofNat (o + i))), .val (.ref d), .val (.int (Int32.ofNat (q + i))), .val (.int (Int32.ofNat len)), .val (.int (Int32.ofNat i)), z] [.int (Int32.ofNat (o + i)), .ref b])) := cl.trans (by
        refine XS.iload Xl.here hexec rfl (hb hbytes d3) rfl ?_
        refine XS.iload Xl.here hexec rfl (hb hbytes d5) rfl ?_
        refine XS.icmpNo Xl.here hexec rfl (hb hbytes d7) rfl (ii_ge_f (lt32 (by omega) (by omega))) ?_
        refine XS.aloadN Xl.here hexec rfl (hb hbytes d10) rfl rfl ?_
        refine XS.iloadN Xl.here hexec rfl (hb hbytes d11) rfl ?_
        exact Steps.refl _)
      have c4 : Steps p.tables e below (s₁.setTop (entryFrame m #[.ref b, .int (Int32.ofNat o), .ref d, .int (Int32.ofNat q), .int (Int32.ofNat len)] 7)) (Tl.setTop (mkF m 13 #[.val (.ref b), .val (.int (Int32.ofNat (o + i))), .val (.ref d), .val (.int (Int32.ofNat (q + i))), .val (.int (Int32.ofNat len)), .val (.int (Int32.ofNat i)), z] [.int (cv A (o + i))])) := c3.trans (by
        refine Xl.aget hexec hAl rfl (hA.get (i := o + i) (by omega)) rfl rfl (hb hbytes d12) ?_
        exact Steps.refl _)
      have c5 : Steps p.tables e below (s₁.setTop (entryFrame m #[.ref b, .int (Int32.ofNat o), .ref d, .int (Int32.ofNat q), .int (Int32.ofNat len)] 7)) (Tl.setTop (mkF m 15 #[.val (.ref b), .val (.int (Int32.ofNat (o + i))), .val (.ref d), .val (.int (Int32.ofNat (q + i))), .val (.int (Int32.ofNat len)), .val (.int (Int32.ofNat i)), .val (.int (cv A (o + i)))] [])) := c4.trans (by
        refine XS.istoreS Xl.here hexec rfl (hb hbytes d13) rfl rfl hz ?_
        exact Steps.refl _)
      have c6 : Steps p.tables e below (s₁.setTop (entryFrame m #[.ref b, .int (Int32.ofNat o), .ref d, .int (Int32.ofNat q), .int (Int32.ofNat len)] 7)) (Tl.setTop (mkF m 31 #[.val (.ref b), .val (.int (Int32.ofNat (o + i))), .val (.ref d), .val (.int (Int32.ofNat (q + i))), .val (.int (Int32.ofNat len)), .val (.int (Int32.ofNat i)), .val (.int (cv A (o + i)))] [.int (lo8 (cv A (o + i))), .int (Int32.ofNat (q + i)), .ref d])) := c5.trans (by
        refine XS.iload Xl.here hexec rfl (hb hbytes d15) rfl ?_
        refine sipushV Xl.here hexec rfl 255 (hb hbytes d17) (by decide) ?_
        refine XS.icmpYes Xl.here hexec rfl (pc0 := 20) rfl (hb hbytes d20) rfl (ii_le_t (hp i (by omega))) (by decide) rfl ?_
        refine XS.aloadN Xl.here hexec rfl (hb hbytes d26) rfl rfl ?_
        refine XS.iloadN Xl.here hexec rfl (hb hbytes d27) rfl ?_
        refine XS.iload Xl.here hexec rfl (hb hbytes d28) rfl ?_
        refine i2b Xl.here hexec rfl (hb hbytes d30) rfl ?_
        exact Steps.refl _)
      obtain ⟨T7, X7, p7, st7⟩ := Xl.aput hexec hBk rfl hlt rfl (fits_lo8 (cv A (o + i))) (g := (mkF m 31 #[.val (.ref b), .val (.int (Int32.ofNat (o + i))), .val (.ref d), .val (.int (Int32.ofNat (q + i))), .val (.int (Int32.ofNat len)), .val (.int (Int32.ofNat i)), .val (.int (cv A (o + i)))] [.int (lo8 (cv A (o + i))), .int (Int32.ofNat (q + i)), .ref d])) rfl (rest := []) rfl (hb hbytes d31)
      have c8 : Steps p.tables e below (s₁.setTop (entryFrame m #[.ref b, .int (Int32.ofNat o), .ref d, .int (Int32.ofNat q), .int (Int32.ofNat len)] 7)) (T7.setTop (mkF m 32 #[.val (.ref b), .val (.int (Int32.ofNat (o + i))), .val (.ref d), .val (.int (Int32.ofNat (q + i))), .val (.int (Int32.ofNat len)), .val (.int (Int32.ofNat i)), .val (.int (cv A (o + i)))] [])) := c6.trans (st7 _ (Steps.refl _))
      have c9 : Steps p.tables e below (s₁.setTop (entryFrame m #[.ref b, .int (Int32.ofNat o), .ref d, .int (Int32.ofNat q), .int (Int32.ofNat len)] 7)) (T7.setTop (mkF m 3 #[.val (.ref b), .val (.int (Int32.ofNat (o + i) + 1)), .val (.ref d), .val (.int (Int32.ofNat (q + i) + 1)), .val (.int (Int32.ofNat len)), .val (.int (Int32.ofNat i + 1)), .val (.int (cv A (o + i)))] [])) := c8.trans (by
        refine iincV X7.here hexec rfl 1 (hb hbytes d32) (by decide) rfl rfl ?_
        refine iincV X7.here hexec rfl 1 (hb hbytes d35) (by decide) rfl rfl ?_
        refine iincV X7.here hexec rfl 1 (hb hbytes d38) (by decide) rfl rfl ?_
        refine XS.goto X7.here hexec rfl (pc0 := 41) rfl (hb hbytes d41) (by decide) rfl ?_
        exact Steps.refl _)
      have c10 : Steps p.tables e below (s₁.setTop (entryFrame m #[.ref b, .int (Int32.ofNat o), .ref d, .int (Int32.ofNat q), .int (Int32.ofNat len)] 7)) (T7.setTop (mkF m 3 #[.val (.ref b), .val (.int (Int32.ofNat (o + (i + 1)))), .val (.ref d), .val (.int (Int32.ofNat (q + (i + 1)))), .val (.int (Int32.ofNat len)), .val (.int (Int32.ofNat (i + 1))), .val (.int (cv A (o + i)))] [])) := by
        have := c9
        rw [succ32, succ32, succ32] at this
        exact this
      exact ih (i + 1) (by omega) _ (Or.inr ⟨_, rfl, rfl⟩) T7 _ (by rw [copyLocs_step, ← List.append_assoc]; exact X7) (pl.trans p7) (fl.step (by omega) hlt (by simp)) c10
  obtain ⟨T9, B9, z9, X9, p9, f9, g9⟩ := loop len 0 (by omega) .unset (Or.inl rfl) s₁ B (by simpa [copyLocs] using X0) ⟨hB0.1, fun _ _ => rfl, rfl⟩ (Laid.zero _ _ _) c2
  have c11 : Steps p.tables e below (s₁.setTop (entryFrame m #[.ref b, .int (Int32.ofNat o), .ref d, .int (Int32.ofNat q), .int (Int32.ofNat len)] 7)) (T9.setTop (mkF m 46 #[.val (.ref b), .val (.int (Int32.ofNat (o + len))), .val (.ref d), .val (.int (Int32.ofNat (q + len))), .val (.int (Int32.ofNat len)), .val (.int (Int32.ofNat len)), z9] [.int (Int32.ofNat len)])) := g9.trans (by
    refine XS.iload X9.here hexec rfl (hb hbytes d3) rfl ?_
    refine XS.iload X9.here hexec rfl (hb hbytes d5) rfl ?_
    refine XS.icmpYes X9.here hexec rfl (pc0 := 7) rfl (hb hbytes d7) rfl (ii_ge_t (nlt32 (by omega) (Nat.le_refl _))) (by decide) rfl ?_
    refine XS.iload X9.here hexec rfl (hb hbytes d44) rfl ?_
    exact Steps.refl _)
  exact ⟨T9, some (.int (Int32.ofNat len)), _, _, _, X9, by simp, rfl, rfl, (fun h => by cases h), ⟨rfl, B9, p9.from hh0, f9⟩, fun fs hl => c11.trans (X9.ireturnOut hexec hret rfl (Or.inl rfl) (hb hbytes d46) hl)⟩
end Cmp5
namespace Cmp3
def yN : MethodName := ⟨"java/lang/StringUTF16", "compress", "([CII)[B"⟩
abbrev yB : ByteArray := jdk_52_method_16_code
theorem d0 : decode yB 0 = .ok (.iload_n 2, 1) := by decide +kernel
theorem d1 : decode yB 1 = .ok (.newarray .byte, 2) := by decide +kernel
theorem d3 : decode yB 3 = .ok (.astore_n 3, 1) := by decide +kernel
theorem d4 : decode yB 4 = .ok (.aload_n 0, 1) := by decide +kernel
theorem d5 : decode yB 5 = .ok (.iload_n 1, 1) := by decide +kernel
theorem d6 : decode yB 6 = .ok (.aload_n 3, 1) := by decide +kernel
theorem d7 : decode yB 7 = .ok (.iconst 0, 1) := by decide +kernel
theorem d8 : decode yB 8 = .ok (.iload_n 2, 1) := by decide +kernel
theorem d9 : decode yB 9 = .ok (.invokestatic 115, 3) := by decide +kernel
theorem d12 : decode yB 12 = .ok (.istore 4, 2) := by decide +kernel
theorem d14 : decode yB 14 = .ok (.iload 4, 2) := by decide +kernel
theorem d16 : decode yB 16 = .ok (.iload_n 2, 1) := by decide +kernel
theorem d17 : decode yB 17 = .ok (.if_icmp (.eq) 40, 3) := by decide +kernel
theorem d57 : decode yB 57 = .ok (.aload_n 3, 1) := by decide +kernel
theorem d58 : decode yB 58 = .ok (.areturn, 1) := by decide +kernel
def site : List Cond := [.arrayClass .byte, Cmp5.tab] ++ staticW U16 115 Cmp5.yN
def tab : Cond := tabOf yN yB 6 (some (.array .byte)) site
def P (b : Addr) (A : Cell) (o len : Nat) (args : Array Value) (s : State) : Prop := args = #[.ref b, .int (Int32.ofNat o), .int (Int32.ofNat len)] ∧ Ch b A s ∧ o + len ≤ A.slots.size ∧ len ≤ 536870912 ∧ ∀ i, i < len → ¬ 255 < cv A (o + i)
def E (b : Addr) (A : Cell) (o len : Nat) (r : Option Value) (s u : State) : Prop := NewArr .byte "[B" len (fun j => .int (lo8 (cv A (o + j)))) r s u ∧ u.heap.size = s.heap.size + 1
/-- no char of the range above 255: a new byte[] of their low bytes -/
theorem law (l : Launch) (b : Addr) (A : Cell) (o len : Nat) : Law l yN 3 3 1 18 yB 6 (some (.array .byte)) site (P b A o len) (E b A o len) [] 1 len := by
  refine Law.of_walk (plainFor_of_name (by decide +kernel)) (by decide +kernel) (by decide +kernel) (by decide) (fun _ _ h => by rw [h.1]; rfl) (fun _ U U' hal hh h => ⟨h.1, h.2.1.mv hal hh, h.2.2⟩) (fun r U U' V V' h1 hal h2 h => ⟨NewArr.mv r U U' V V' h1 hal h2 h.1, by rw [h1, h2]; exact h.2⟩) ?_
  intro p e s m args below meth c s₁ X0 hexec hbytes hml hret hlk hnm hown hh0 W hP
  obtain ⟨rfl, hA, l1, l2, hp⟩ := hP
  have a31 := hA.1.2.2.2
  have c1 : Steps p.tables e below (s₁.setTop (entryFrame m #[.ref b, .int (Int32.ofNat o), .int (Int32.ofNat len)] 6)) (s₁.setTop (mkF m 0 #[.val (.ref b), .val (.int (Int32.ofNat o)), .val (.int (Int32.ofNat len)), .unset, .unset, .unset] [])) := entry rfl
  have c2 : Steps p.tables e below (s₁.setTop (entryFrame m #[.ref b, .int (Int32.ofNat o), .int (Int32.ofNat len)] 6)) (s₁.setTop (mkF m 1 #[.val (.ref b), .val (.int (Int32.ofNat o)), .val (.int (Int32.ofNat len)), .unset, .unset, .unset] [.int (Int32.ofNat len)])) := c1.trans (by
    refine XS.iloadN X0.here hexec rfl (hb hbytes d0) rfl ?_
    exact Steps.refl _)
  obtain ⟨T3, B3, X3, ba3, bs3, bv3, bh3, bf3, st3⟩ := X0.anew hexec (atype := .byte) (wk W (.arrayClass .byte)) rfl (by show len * 1 ≤ _; omega) (by omega) (g := (mkF m 1 #[.val (.ref b), .val (.int (Int32.ofNat o)), .val (.int (Int32.ofNat len)), .unset, .unset, .unset] [.int (Int32.ofNat len)])) rfl (hb hbytes d1) (rest := []) rfl (Nat.le_refl _) (by show 0 + len ≤ len; omega)
  rw [hh0] at ba3 st3
  have kp3 : XT.Kept s T3 := (XT.Kept.of_eq hh0).push bh3
  have hA3 := hA.keep X3.warmed.alike (kp3 _ _ hA.1.1)
  have hne : b ≠ s.heap.size := hA.1.ne
  have c4 : Steps p.tables e below (s₁.setTop (entryFrame m #[.ref b, .int (Int32.ofNat o), .int (Int32.ofNat len)] 6)) (T3.setTop (mkF m 3 #[.val (.ref b), .val (.int (Int32.ofNat o)), .val (.int (Int32.ofNat len)), .unset, .unset, .unset] [.ref s.heap.size])) := c2.trans (st3 _ (Steps.refl _))
  have c5 : Steps p.tables e below (s₁.setTop (entryFrame m #[.ref b, .int (Int32.ofNat o), .int (Int32.ofNat len)] 6)) (T3.setTop (mkF m 9 #[.val (.ref b), .val (.int (Int32.ofNat o)), .val (.int (Int32.ofNat len)), .val (.ref s.heap.size), .unset, .unset] [.int (Int32.ofNat len), .int 0, .ref s.heap.size, .int (Int32.ofNat o), .ref b])) := c4.trans (by
    refine XS.astoreN X3.here hexec rfl (hb hbytes d3) rfl rfl rfl ?_
    refine XS.aloadN X3.here hexec rfl (hb hbytes d4) rfl rfl ?_
    refine XS.iloadN X3.here hexec rfl (hb hbytes d5) rfl ?_
    refine XS.aloadN X3.here hexec rfl (hb hbytes d6) rfl rfl ?_
    refine iconstV X3.here hexec rfl 0 (hb hbytes d7) (by decide) ?_
    refine XS.iloadN X3.here hexec rfl (hb hbytes d8) rfl ?_
    exact Steps.refl _)
  obtain ⟨v6, T6, X6, E6, g6⟩ := X3.callS hexec (Cmp5.law l b A s.heap.size B3 o 0 len) hown (wks W (staticW U16 115 Cmp5.yN)) (wk W Cmp5.tab) (W := 0) (Nat.le_of_ble_eq_true rfl) (Nat.le_of_ble_eq_true rfl) (Nat.le_refl _) (by show 0 + len + 0 ≤ len; omega) (g := (mkF m 9 #[.val (.ref b), .val (.int (Int32.ofNat o)), .val (.int (Int32.ofNat len)), .val (.ref s.heap.size), .unset, .unset] [.int (Int32.ofNat len), .int (Int32.ofNat 0), .ref s.heap.size, .int (Int32.ofNat o), .ref b])) rfl (by rw [hml]; rfl) c5 (argsL := [.ref b, .int (Int32.ofNat o), .ref s.heap.size, .int (Int32.ofNat 0), .int (Int32.ofNat len)]) (rest := []) rfl rfl (by show 2 * 0 + 0 ≤ _; decide) (hb hbytes d9) (⟨rfl, hA3, ba3, hne, l1, by rw [bs3]; simp, hp⟩)
  obtain ⟨rfl, B6, p6, f6⟩ := E6
  have c7 : Steps p.tables e below (s₁.setTop (entryFrame m #[.ref b, .int (Int32.ofNat o), .int (Int32.ofNat len)] 6)) (T6.setTop (mkF m 12 #[.val (.ref b), .val (.int (Int32.ofNat o)), .val (.int (Int32.ofNat len)), .val (.ref s.heap.size), .unset, .unset] [.int (Int32.ofNat len)])) := g6
  have c8 : Steps p.tables e below (s₁.setTop (entryFrame m #[.ref b, .int (Int32.ofNat o), .int (Int32.ofNat len)] 6)) (T6.setTop (mkF m 58 #[.val (.ref b), .val (.int (Int32.ofNat o)), .val (.int (Int32.ofNat len)), .val (.ref s.heap.size), .val (.int (Int32.ofNat len)), .unset] [.ref s.heap.size])) := c7.trans (by
    refine XS.istore X6.here hexec rfl (hb hbytes d12) rfl rfl ?_
    refine XS.iload X6.here hexec rfl (hb hbytes d14) rfl ?_
    refine XS.iloadN X6.here hexec rfl (hb hbytes d16) rfl ?_
    refine XS.icmpYes X6.here hexec rfl (pc0 := 17) rfl (hb hbytes d17) rfl (ii_eq_t rfl) (by decide) rfl ?_
    refine XS.aloadN X6.here hexec rfl (hb hbytes d57) rfl rfl ?_
    exact Steps.refl _)
  have X8 := X6.wide (L' := []) (cells' := 1) (slots' := len) (fun x hx hlt => by
    simp only [List.nil_append, copyLocs, List.mem_map, List.mem_range] at hx
    obtain ⟨i, -, rfl⟩ := hx
    exact absurd hlt (Nat.lt_irrefl _)) (Nat.le_refl _) (by omega)
  exact ⟨T6, some (.ref s.heap.size), _, _, _, X8, rfl, rfl, rfl, (fun h => by cases h), ⟨⟨rfl, B6, ba3.like (X3.warmed.alike.symm.trans X6.warmed.alike) p6.1 f6.1 f6.2.1 f6.2.2.1, f6.2.1.trans bv3, by rw [X6.warmed.alike.findClass, f6.1]; exact bf3, by rw [f6.2.2.1, bs3]; simp, fun j hj => by rw [f6.2.2.2 j, if_pos (by omega)]; rfl, kp3.put p6 (Nat.le_refl _)⟩, by rw [p6.2.2, bh3, hh0]; simp⟩, fun fs hl => c8.trans (X8.areturnOut hexec rfl hret rfl (hb hbytes d58) hl)⟩
end Cmp3
namespace CodL
def yN : MethodName := ⟨"java/lang/StringUTF16", "coderFromArrayLen", "([BI)B"⟩
abbrev yB : ByteArray := jdk_52_method_15_code
theorem d0 : decode yB 0 = .ok (.iload_n 1, 1) := by decide +kernel
theorem d1 : decode yB 1 = .ok (.aload_n 0, 1) := by decide +kernel
theorem d2 : decode yB 2 = .ok (.arraylength, 1) := by decide +kernel
theorem d3 : decode yB 3 = .ok (.isub, 1) := by decide +kernel
theorem d4 : decode yB 4 = .ok (.bipush 31, 2) := by decide +kernel
theorem d6 : decode yB 6 = .ok (.iushr, 1) := by decide +kernel
theorem d7 : decode yB 7 = .ok (.i2b, 1) := by decide +kernel
theorem d8 : decode yB 8 = .ok (.ireturn, 1) := by decide +kernel
def site : List Cond := []
def tab : Cond := tabOf yN yB 2 (some .byte) site
def P (d : Addr) (B : Cell) (args : Array Value) (s : State) : Prop := args = #[.ref d, .int (Int32.ofNat B.slots.size)] ∧ Arr .byte d B s
def E (r : Option Value) (s u : State) : Prop := XT.PureE (some (.int 0)) r s u
/-- an array as long as the number of chars: LATIN1 -/
theorem law (l : Launch) (d : Addr) (B : Cell) : Law l yN 2 2 0 0 yB 2 (some .byte) site (P d B) E [] 0 0 := by
  refine Law.of_walk (plainFor_of_name (by decide +kernel)) (by decide +kernel) (by decide +kernel) (by decide) (fun _ _ h => by rw [h.1]; rfl) (fun _ U U' hal hh h => ⟨h.1, h.2.mv hal hh⟩) (fun r U U' V V' h1 hal h2 h => XT.PureE.mv r U U' V V' h1 hal h2 h) ?_
  intro p e s m args below meth c s₁ X0 hexec hbytes hml hret hlk hnm hown hh0 W hP
  obtain ⟨rfl, hB⟩ := hP
  have hB0 := hB.mv X0.warmed.alike hh0
  have c1 : Steps p.tables e below (s₁.setTop (entryFrame m #[.ref d, .int (Int32.ofNat B.slots.size)] 2)) (s₁.setTop (mkF m 0 #[.val (.ref d), .val (.int (Int32.ofNat B.slots.size))] [])) := entry rfl
  have c2 : Steps p.tables e below (s₁.setTop (entryFrame m #[.ref d, .int (Int32.ofNat B.slots.size)] 2)) (s₁.setTop (mkF m 2 #[.val (.ref d), .val (.int (Int32.ofNat B.slots.size))] [.ref d, .int (Int32.ofNat B.slots.size)])) := c1.trans (by
    refine XS.iloadN X0.here hexec rfl (hb hbytes d0) rfl ?_
    refine XS.aloadN X0.here hexec rfl (hb hbytes d1) rfl rfl ?_
    exact Steps.refl _)
  have c3 : Steps p.tables e below (s₁.setTop (entryFrame m #[.ref d, .int (Int32.ofNat B.slots.size)] 2)) (s₁.setTop (mkF m 8 #[.val (.ref d), .val (.int (Int32.ofNat B.slots.size))] [.int (lo8 (ushr (Int32.ofNat B.slots.size - Int32.ofNat B.slots.size) 31))])) := c2.trans (by
    refine X0.alen hexec hB0 rfl rfl (hb hbytes d2) ?_
    refine XS.isub X0.here hexec rfl (hb hbytes d3) rfl ?_
    refine bipushV X0.here hexec rfl 31 (hb hbytes d4) (by decide) ?_
    refine iushr X0.here hexec rfl (hb hbytes d6) rfl ?_
    refine i2b X0.here hexec rfl (hb hbytes d7) rfl ?_
    exact Steps.refl _)
  have e0 : lo8 (ushr (Int32.ofNat B.slots.size - Int32.ofNat B.slots.size) 31) = 0 := by rw [Int32.sub_self]; decide
  rw [e0] at c3
  exact ⟨s₁, some (.int 0), _, _, _, X0, rfl, rfl, rfl, (fun h => by cases h), ⟨rfl, hh0⟩, fun fs hl => c3.trans (X0.ireturnOut hexec hret rfl (Or.inr (Or.inr (Or.inl rfl))) (hb hbytes d8) hl)⟩
end CodL
/-- the String at a is Latin-1 over a new byte[] (the heap's one new cell): the low bytes of the len chars of A from o on; every cell but a is kept -/
def Got (a : Addr) (D : Cell) (fV fC : Field) (A : Cell) (o len : Nat) (r : Option Value) (s u : State) : Prop := r = none ∧ ∃ D' V : Cell, Blank "java/lang/String" a D' u ∧ Same D D' [fV.slot, fC.slot] ∧ D'.slots[fV.slot]? = some (.ref s.heap.size) ∧ D'.slots[fC.slot]? = some (.int 0) ∧ Arr .byte s.heap.size V u ∧ V.vm = .none ∧ u.vm.findClass "[B" = some V.cls ∧ V.slots.size = len ∧ (∀ j, j < len → V.slots[j]? = some (.int (lo8 (cv A (o + j))))) ∧ (∀ (y : Addr) (c : Cell), y ≠ a → s.heap[y]? = some c → u.heap[y]? = some c) ∧ u.heap.size = s.heap.size + 1
theorem Got.mv {a : Addr} {D A : Cell} {fV fC : Field} {o len : Nat} : ∀ r (U U' V V' : State), U'.heap = U.heap → V.vm.Alike V'.vm → V'.heap = V.heap → Got a D fV fC A o len r U V → Got a D fV fC A o len r U' V' :=
  fun r U U' V V' h1 hal h2 ⟨e0, D', X, a1, a2, a3, a4, a5, a6, a7, a8, a9, a10, a11⟩ => ⟨e0, D', X, a1.mv hal h2, a2, by rw [h1]; exact a3, a4, by rw [h1]; exact a5.mv hal h2, a6, by rw [hal.findClass]; exact a7, a8, a9, by rw [h1, h2]; exact a10, by rw [h1, h2]; exact a11⟩
namespace New4
def yN : MethodName := ⟨"java/lang/String", "<init>", "([CIILjava/lang/Void;)V"⟩
abbrev yB : ByteArray := jdk_42_method_149_code
theorem d0 : decode yB 0 = .ok (.aload_n 0, 1) := by decide +kernel
theorem d1 : decode yB 1 = .ok (.invokespecial 1, 3) := by decide +kernel
theorem d4 : decode yB 4 = .ok (.iload_n 3, 1) := by decide +kernel
theorem d5 : decode yB 5 = .ok (.ifCond (.ne) 22, 3) := by decide +kernel
theorem d27 : decode yB 27 = .ok (.getstatic 38, 3) := by decide +kernel
theorem d30 : decode yB 30 = .ok (.ifCond (.eq) 28, 3) := by decide +kernel
theorem d33 : decode yB 33 = .ok (.aload_n 1, 1) := by decide +kernel
theorem d34 : decode yB 34 = .ok (.iload_n 2, 1) := by decide +kernel
theorem d35 : decode yB 35 = .ok (.iload_n 3, 1) := by decide +kernel
theorem d36 : decode yB 36 = .ok (.invokestatic 177, 3) := by decide +kernel
theorem d39 : decode yB 39 = .ok (.astore 5, 2) := by decide +kernel
theorem d41 : decode yB 41 = .ok (.aload_n 0, 1) := by decide +kernel
theorem d42 : decode yB 42 = .ok (.aload 5, 2) := by decide +kernel
theorem d44 : decode yB 44 = .ok (.iload_n 3, 1) := by decide +kernel
theorem d45 : decode yB 45 = .ok (.invokestatic 47, 3) := by decide +kernel
theorem d48 : decode yB 48 = .ok (.putfield 15, 3) := by decide +kernel
theorem d51 : decode yB 51 = .ok (.aload_n 0, 1) := by decide +kernel
theorem d52 : decode yB 52 = .ok (.aload 5, 2) := by decide +kernel
theorem d54 : decode yB 54 = .ok (.putfield 9, 3) := by decide +kernel
theorem d57 : decode yB 57 = .ok (.return_, 1) := by decide +kernel
def site : List Cond := [.fieldLink "java/lang/String" 38 "java/lang/String" "COMPACT_STRINGS" "Z", Cmp3.tab, CodL.tab, .laysFinal "java/lang/String" "java/lang/String" "value" "[B", .fieldLink "java/lang/String" 9 "java/lang/String" "value" "[B", .laysFinal "java/lang/String" "java/lang/String" "coder" "B", .fieldLink "java/lang/String" 15 "java/lang/String" "coder" "B"] ++ objW "java/lang/String" 1 ++ staticW "java/lang/String" 177 Cmp3.yN ++ staticW "java/lang/String" 47 CodL.yN
def tab : Cond := tabOf yN yB 6 none site
def P (a : Addr) (D : Cell) (fV fC : Field) (b : Addr) (A : Cell) (z : Int32) (o len : Nat) (args : Array Value) (s : State) : Prop := args = #[.ref a, .ref b, .int (Int32.ofNat o), .int (Int32.ofNat len), .null] ∧ Blank "java/lang/String" a D s ∧ Found "java/lang/String" "value" "[B" fV s ∧ Found "java/lang/String" "coder" "B" fC s ∧ Ch b A s ∧ StaticIs s "java/lang/String" "COMPACT_STRINGS" "Z" (.int z) ∧ ¬ z = 0 ∧ 0 < len ∧ o + len ≤ A.slots.size ∧ len ≤ 536870912 ∧ ∀ i, i < len → ¬ 255 < cv A (o + i)
def E (a : Addr) (D : Cell) (fV fC : Field) (A : Cell) (o len : Nat) (r : Option Value) (s u : State) : Prop := Got a D fV fC A o len r s u
/-- len > 0, no char of the range above 255: a Latin-1 String of their low bytes -/
theorem law (l : Launch) (a : Addr) (D : Cell) (fV fC : Field) (b : Addr) (A : Cell) (z : Int32) (o len : Nat) : Law l yN 5 4 2 35 yB 6 none site (P a D fV fC b A z o len) (E a D fV fC A o len) [⟨a, fC.slot⟩, ⟨a, fV.slot⟩] 1 len := by
  refine Law.of_walk (plainFor_of_name (by decide +kernel)) (by decide +kernel) (by decide +kernel) (by decide) (fun _ _ h => by rw [h.1]; rfl) (fun _ U U' hal hh h => ⟨h.1, h.2.1.mv hal hh, h.2.2.1.al hal, h.2.2.2.1.al hal, h.2.2.2.2.1.mv hal hh, h.2.2.2.2.2.1.there hal hh, h.2.2.2.2.2.2⟩) (fun r U U' V V' h1 hal h2 h => Got.mv r U U' V V' h1 hal h2 h) ?_
  intro p e s m args below meth c s₁ X0 hexec hbytes hml hret hlk hnm hown hh0 W hP
  obtain ⟨rfl, hB, f1, f2, hA, s1, hz, l0, l1, l2, hp⟩ := hP
  have a31 := hA.1.2.2.2
  have c1 : Steps p.tables e below (s₁.setTop (entryFrame m #[.ref a, .ref b, .int (Int32.ofNat o), .int (Int32.ofNat len), .null] 6)) (s₁.setTop (mkF m 0 #[.val (.ref a), .val (.ref b), .val (.int (Int32.ofNat o)), .val (.int (Int32.ofNat len)), .val .null, .unset] [])) := entry rfl
  have c2 : Steps p.tables e below (s₁.setTop (entryFrame m #[.ref a, .ref b, .int (Int32.ofNat o), .int (Int32.ofNat len), .null] 6)) (s₁.setTop (mkF m 1 #[.val (.ref a), .val (.ref b), .val (.int (Int32.ofNat o)), .val (.int (Int32.ofNat len)), .val .null, .unset] [.ref a])) := c1.trans (by
    refine XS.aloadN X0.here hexec rfl (hb hbytes d0) rfl rfl ?_
    exact Steps.refl _)
  obtain ⟨T3, X3, q3, st3⟩ := X0.oinit hexec hown (wks W (objW "java/lang/String" 1)) (g := (mkF m 1 #[.val (.ref a), .val (.ref b), .val (.int (Int32.ofNat o)), .val (.int (Int32.ofNat len)), .val .null, .unset] [.ref a])) rfl (by rw [hml]; rfl) (rest := []) rfl (hb hbytes d1) (W := 0) (by show 2 * 0 + 0 ≤ _; decide) (Nat.le_of_ble_eq_true rfl) (Nat.le_of_ble_eq_true rfl)
  have hh3 := q3.trans hh0
  have c4 : Steps p.tables e below (s₁.setTop (entryFrame m #[.ref a, .ref b, .int (Int32.ofNat o), .int (Int32.ofNat len), .null] 6)) (T3.setTop (mkF m 27 #[.val (.ref a), .val (.ref b), .val (.int (Int32.ofNat o)), .val (.int (Int32.ofNat len)), .val .null, .unset] [])) := (c2.trans (st3 _ (Steps.refl _))).trans (by
    refine XS.iloadN X3.here hexec rfl (hb hbytes d4) rfl ?_
    refine XS.ifYes X3.here hexec rfl (pc0 := 5) rfl (hb hbytes d5) rfl (i0_ne_t (nz32 (by omega) l0)) (by decide) rfl ?_
    exact Steps.refl _)
  obtain ⟨T5, X5, q5, st5⟩ := X3.sget hexec hown (wk W (.fieldLink "java/lang/String" 38 "java/lang/String" "COMPACT_STRINGS" "Z")) s1 (fun _ _ h => by rw [hh3]; exact h) (g := (mkF m 27 #[.val (.ref a), .val (.ref b), .val (.int (Int32.ofNat o)), .val (.int (Int32.ofNat len)), .val .null, .unset] [])) rfl (hb hbytes d27)
  have hh5 := q5.trans hh3
  have c6 : Steps p.tables e below (s₁.setTop (entryFrame m #[.ref a, .ref b, .int (Int32.ofNat o), .int (Int32.ofNat len), .null] 6)) (T5.setTop (mkF m 30 #[.val (.ref a), .val (.ref b), .val (.int (Int32.ofNat o)), .val (.int (Int32.ofNat len)), .val .null, .unset] [.int z])) := c4.trans (st5 _ (Steps.refl _))
  have c7 : Steps p.tables e below (s₁.setTop (entryFrame m #[.ref a, .ref b, .int (Int32.ofNat o), .int (Int32.ofNat len), .null] 6)) (T5.setTop (mkF m 36 #[.val (.ref a), .val (.ref b), .val (.int (Int32.ofNat o)), .val (.int (Int32.ofNat len)), .val .null, .unset] [.int (Int32.ofNat len), .int (Int32.ofNat o), .ref b])) := c6.trans (by
    refine XS.ifNo X5.here hexec rfl (hb hbytes d30) rfl (i0_eq_f hz) ?_
    refine XS.aloadN X5.here hexec rfl (hb hbytes d33) rfl rfl ?_
    refine XS.iloadN X5.here hexec rfl (hb hbytes d34) rfl ?_
    refine XS.iloadN X5.here hexec rfl (hb hbytes d35) rfl ?_
    exact Steps.refl _)
  obtain ⟨v8, T8, X8, E8, g8⟩ := X5.callS hexec (Cmp3.law l b A o len) hown (wks W (staticW "java/lang/String" 177 Cmp3.yN)) (wk W Cmp3.tab) (W := 0) (Nat.le_of_ble_eq_true rfl) (Nat.le_of_ble_eq_true rfl) (Nat.le_refl _) (by show 0 + len ≤ len; omega) (g := (mkF m 36 #[.val (.ref a), .val (.ref b), .val (.int (Int32.ofNat o)), .val (.int (Int32.ofNat len)), .val .null, .unset] [.int (Int32.ofNat len), .int (Int32.ofNat o), .ref b])) rfl (by rw [hml]; rfl) c7 (argsL := [.ref b, .int (Int32.ofNat o), .int (Int32.ofNat len)]) (rest := []) rfl rfl (by show 2 * 0 + 0 ≤ _; decide) (hb hbytes d36) (⟨rfl, hA.mv X5.warmed.alike hh5, l1, l2, hp⟩)
  obtain ⟨e8, z8⟩ := E8
  obtain ⟨rfl, N, n1, n2, n3, n4, n5, n6⟩ := NewArr.mv _ T5 s _ _ hh5.symm (Vm.Alike.refl _) rfl e8
  rw [hh5] at z8
  have hB1 := hB.keep X8.warmed.alike (n6 _ _ hB.1)
  have hne : s.heap.size ≠ a := (Nat.ne_of_lt (Array.getElem?_eq_some_iff.mp hB.1).1).symm
  have c9 : Steps p.tables e below (s₁.setTop (entryFrame m #[.ref a, .ref b, .int (Int32.ofNat o), .int (Int32.ofNat len), .null] 6)) (T8.setTop (mkF m 39 #[.val (.ref a), .val (.ref b), .val (.int (Int32.ofNat o)), .val (.int (Int32.ofNat len)), .val .null, .unset] [.ref s.heap.size])) := g8
  have c10 : Steps p.tables e below (s₁.setTop (entryFrame m #[.ref a, .ref b, .int (Int32.ofNat o), .int (Int32.ofNat len), .null] 6)) (T8.setTop (mkF m 45 #[.val (.ref a), .val (.ref b), .val (.int (Int32.ofNat o)), .val (.int (Int32.ofNat len)), .val .null, .val (.ref s.heap.size)] [.int (Int32.ofNat N.slots.size), .ref s.heap.size, .ref a])) := by
    have hc : Steps p.tables e below (s₁.setTop (entryFrame m #[.ref a, .ref b, .int (Int32.ofNat o), .int (Int32.ofNat len), .null] 6)) (T8.setTop (mkF m 45 #[.val (.ref a), .val (.ref b), .val (.int (Int32.ofNat o)), .val (.int (Int32.ofNat len)), .val .null, .val (.ref s.heap.size)] [.int (Int32.ofNat len), .ref s.heap.size, .ref a])) := c9.trans (by
      refine XS.astore X8.here hexec rfl (hb hbytes d39) rfl rfl rfl ?_
      refine XS.aloadN X8.here hexec rfl (hb hbytes d41) rfl rfl ?_
      refine XS.aload X8.here hexec rfl (hb hbytes d42) rfl rfl ?_
      refine XS.iloadN X8.here hexec rfl (hb hbytes d44) rfl ?_
      exact Steps.refl _)
    rw [n4]; exact hc
  obtain ⟨v11, T11, X11, E11, g11⟩ := X8.callS hexec (CodL.law l s.heap.size N) hown (wks W (staticW "java/lang/String" 47 CodL.yN)) (wk W CodL.tab) (W := 1) (Nat.le_of_ble_eq_true rfl) (Nat.le_of_ble_eq_true rfl) (Nat.le_refl _) (by show 0 + len + 0 ≤ len; omega) (g := (mkF m 45 #[.val (.ref a), .val (.ref b), .val (.int (Int32.ofNat o)), .val (.int (Int32.ofNat len)), .val .null, .val (.ref s.heap.size)] [.int (Int32.ofNat N.slots.size), .ref s.heap.size, .ref a])) rfl (by rw [hml]; rfl) c10 (argsL := [.ref s.heap.size, .int (Int32.ofNat N.slots.size)]) (rest := [.ref a]) rfl rfl (by show 2 * 0 + (1 + 0) ≤ _; decide) (hb hbytes d45) (⟨rfl, n1⟩)
  obtain ⟨rfl, q11⟩ := E11
  have hB11 := hB1.mv (X8.warmed.alike.symm.trans X11.warmed.alike) q11
  have c12 : Steps p.tables e below (s₁.setTop (entryFrame m #[.ref a, .ref b, .int (Int32.ofNat o), .int (Int32.ofNat len), .null] 6)) (T11.setTop (mkF m 48 #[.val (.ref a), .val (.ref b), .val (.int (Int32.ofNat o)), .val (.int (Int32.ofNat len)), .val .null, .val (.ref s.heap.size)] [.int 0, .ref a])) := g11
  obtain ⟨T13, X13, p13, bl13, sl13, st13⟩ := X11.finit hexec hown (wk W (.fieldLink "java/lang/String" 15 "java/lang/String" "coder" "B")) (Or.inr ⟨_, (wk W (.laysFinal "java/lang/String" "java/lang/String" "coder" "B"))⟩) (Or.inl ⟨rfl, hnm⟩) f2 (Or.inl rfl) hB11 (t := .byte) (by decide +kernel) rfl (g := (mkF m 48 #[.val (.ref a), .val (.ref b), .val (.int (Int32.ofNat o)), .val (.int (Int32.ofNat len)), .val .null, .val (.ref s.heap.size)] [.int 0, .ref a])) rfl (rest := []) rfl (hb hbytes d48)
  have c14 : Steps p.tables e below (s₁.setTop (entryFrame m #[.ref a, .ref b, .int (Int32.ofNat o), .int (Int32.ofNat len), .null] 6)) (T13.setTop (mkF m 54 #[.val (.ref a), .val (.ref b), .val (.int (Int32.ofNat o)), .val (.int (Int32.ofNat len)), .val .null, .val (.ref s.heap.size)] [.ref s.heap.size, .ref a])) := (c12.trans (st13 _ (Steps.refl _))).trans (by
    refine XS.aloadN X13.here hexec rfl (hb hbytes d51) rfl rfl ?_
    refine XS.aload X13.here hexec rfl (hb hbytes d52) rfl rfl ?_
    exact Steps.refl _)
  obtain ⟨T15, X15, p15, bl15, sl15, st15⟩ := X13.finit hexec hown (wk W (.fieldLink "java/lang/String" 9 "java/lang/String" "value" "[B")) (Or.inr ⟨_, (wk W (.laysFinal "java/lang/String" "java/lang/String" "value" "[B"))⟩) (Or.inl ⟨rfl, hnm⟩) f1 (Or.inl rfl) bl13 (t := (.array .byte)) (by decide +kernel) rfl (g := (mkF m 54 #[.val (.ref a), .val (.ref b), .val (.int (Int32.ofNat o)), .val (.int (Int32.ofNat len)), .val .null, .val (.ref s.heap.size)] [.ref s.heap.size, .ref a])) rfl (rest := []) rfl (hb hbytes d54)
  have c16 : Steps p.tables e below (s₁.setTop (entryFrame m #[.ref a, .ref b, .int (Int32.ofNat o), .int (Int32.ofNat len), .null] 6)) (T15.setTop (mkF m 57 #[.val (.ref a), .val (.ref b), .val (.int (Int32.ofNat o)), .val (.int (Int32.ofNat len)), .val .null, .val (.ref s.heap.size)] [])) := c14.trans (st15 _ (Steps.refl _))
  have ap := apart (Or.inr ⟨_, (wk W (.laysFinal "java/lang/String" "java/lang/String" "value" "[B"))⟩) (Or.inr ⟨_, (wk W (.laysFinal "java/lang/String" "java/lang/String" "coder" "B"))⟩) f1 f2 (t₁ := .array .byte) (t₂ := .byte) (by decide +kernel) (by decide +kernel) (by decide)
  have al := X8.warmed.alike.symm.trans X15.warmed.alike
  have n7 : T11.heap[s.heap.size]? = some N := by rw [q11]; exact n1.1
  exact ⟨T15, none, _, _, _, X15, by simp, rfl, by omega, (fun _ => rfl), ⟨rfl, _, N, bl15, ((Same.refl D _).set _ (by simp)).set _ (by simp), sl15, (Cell.slots_setSlot_ne _ ap).trans sl13, n1.keep al (p15.other hne (p13.other hne n7)), n2, by rw [al.findClass]; exact n3, n4, n5, fun y c h1 h2 => p15.other h1 (p13.other h1 (by rw [q11]; exact n6 y c h2)), by rw [p15.2.2, p13.2.2, q11]; exact z8⟩, fun fs hl => c16.trans (X15.returnOut hexec hret (hb hbytes d57) hl)⟩
end New4
namespace New1
def yN : MethodName := ⟨"java/lang/String", "<init>", "([C)V"⟩
abbrev yB : ByteArray := jdk_42_method_3_code
theorem d0 : decode yB 0 = .ok (.aload_n 0, 1) := by decide +kernel
theorem d1 : decode yB 1 = .ok (.aload_n 1, 1) := by decide +kernel
theorem d2 : decode yB 2 = .ok (.iconst 0, 1) := by decide +kernel
theorem d3 : decode yB 3 = .ok (.aload_n 1, 1) := by decide +kernel
theorem d4 : decode yB 4 = .ok (.arraylength, 1) := by decide +kernel
theorem d5 : decode yB 5 = .ok (.aconst_null, 1) := by decide +kernel
theorem d6 : decode yB 6 = .ok (.invokespecial 27, 3) := by decide +kernel
theorem d9 : decode yB 9 = .ok (.return_, 1) := by decide +kernel
def site : List Cond := [New4.tab] ++ initW "java/lang/String" 27 New4.yN
def tab : Cond := tabOf yN yB 2 none site
def P (a : Addr) (D : Cell) (fV fC : Field) (b : Addr) (A : Cell) (z : Int32) (args : Array Value) (s : State) : Prop := args = #[.ref a, .ref b] ∧ Blank "java/lang/String" a D s ∧ Found "java/lang/String" "value" "[B" fV s ∧ Found "java/lang/String" "coder" "B" fC s ∧ Ch b A s ∧ StaticIs s "java/lang/String" "COMPACT_STRINGS" "Z" (.int z) ∧ ¬ z = 0 ∧ 0 < A.slots.size ∧ A.slots.size ≤ 536870912 ∧ ∀ i, i < A.slots.size → ¬ 255 < cv A i
def E (a : Addr) (D : Cell) (fV fC : Field) (A : Cell) (r : Option Value) (s u : State) : Prop := Got a D fV fC A 0 A.slots.size r s u
/-- new String(chars), not empty, no char above 255: a Latin-1 String of their low bytes -/
theorem law (l : Launch) (a : Addr) (D : Cell) (fV fC : Field) (b : Addr) (A : Cell) (z : Int32) : Law l yN 2 1 3 52 yB 2 none site (P a D fV fC b A z) (E a D fV fC A) [⟨a, fC.slot⟩, ⟨a, fV.slot⟩] 1 A.slots.size := by
  refine Law.of_walk (plainFor_of_name (by decide +kernel)) (by decide +kernel) (by decide +kernel) (by decide) (fun _ _ h => by rw [h.1]; rfl) (fun _ U U' hal hh h => ⟨h.1, h.2.1.mv hal hh, h.2.2.1.al hal, h.2.2.2.1.al hal, h.2.2.2.2.1.mv hal hh, h.2.2.2.2.2.1.there hal hh, h.2.2.2.2.2.2⟩) (fun r U U' V V' h1 hal h2 h => Got.mv r U U' V V' h1 hal h2 h) ?_
  intro p e s m args below meth c s₁ X0 hexec hbytes hml hret hlk hnm hown hh0 W hP
  obtain ⟨rfl, hB, f1, f2, hA, s1, hz, l0, l2, hp⟩ := hP
  have c1 : Steps p.tables e below (s₁.setTop (entryFrame m #[.ref a, .ref b] 2)) (s₁.setTop (mkF m 0 #[.val (.ref a), .val (.ref b)] [])) := entry rfl
  have c2 : Steps p.tables e below (s₁.setTop (entryFrame m #[.ref a, .ref b] 2)) (s₁.setTop (mkF m 6 #[.val (.ref a), .val (.ref b)] [.null, .int (Int32.ofNat A.slots.size), .int 0, .ref b, .ref a])) := c1.trans (by
    refine XS.aloadN X0.here hexec rfl (hb hbytes d0) rfl rfl ?_
    refine XS.aloadN X0.here hexec rfl (hb hbytes d1) rfl rfl ?_
    refine iconstV X0.here hexec rfl 0 (hb hbytes d2) (by decide) ?_
    refine XS.aloadN X0.here hexec rfl (hb hbytes d3) rfl rfl ?_
    refine X0.alen hexec (hA.1.mv X0.warmed.alike hh0) rfl rfl (hb hbytes d4) ?_
    refine XS.aconstNull X0.here hexec rfl (hb hbytes d5) ?_
    exact Steps.refl _)
  obtain ⟨v3, T3, X3, E3, g3⟩ := X0.callN hexec (New4.law l a D fV fC b A z 0 A.slots.size) rfl hown (wks W (initW "java/lang/String" 27 New4.yN)) (W New4.tab (by simp only [site, List.mem_cons, List.mem_append, true_or, or_true])) (W := 0) (Nat.le_of_ble_eq_true rfl) (Nat.le_of_ble_eq_true rfl) (Nat.le_refl _) (by show 0 + A.slots.size ≤ A.slots.size; omega) (g := (mkF m 6 #[.val (.ref a), .val (.ref b)] [.null, .int (Int32.ofNat A.slots.size), .int (Int32.ofNat 0), .ref b, .ref a])) rfl (by rw [hml]; rfl) c2 (argsL := [.ref b, .int (Int32.ofNat 0), .int (Int32.ofNat A.slots.size), .null]) (rest := []) rfl rfl (by show 2 * 0 + 0 ≤ _; decide) (hb hbytes d6) (⟨rfl, hB.mv X0.warmed.alike hh0, f1.al X0.warmed.alike, f2.al X0.warmed.alike, hA.mv X0.warmed.alike hh0, s1.there X0.warmed.alike hh0, hz, l0, by omega, l2, fun i hi => by rw [Nat.zero_add]; exact hp i hi⟩)
  have e0 := Got.mv _ s₁ s _ _ hh0.symm (Vm.Alike.refl _) rfl E3
  obtain rfl := e0.1
  have c4 : Steps p.tables e below (s₁.setTop (entryFrame m #[.ref a, .ref b] 2)) (T3.setTop (mkF m 9 #[.val (.ref a), .val (.ref b)] [])) := g3
  exact ⟨T3, none, _, _, _, X3, by simp, rfl, by omega, (fun _ => rfl), e0, fun fs hl => c4.trans (X3.returnOut hexec hret (hb hbytes d9) hl)⟩
theorem pays {l : Launch} {R : Room} {p : Program} {e : Env} {below : List Frame} {s : State} {sargs : Array Value} {len W : Nat} (a : Addr) (D : Cell) (fV fC : Field) (b : Addr) (A : Cell) (z : Int32) (htab : tab.before sargs s = true) (hfr : 4 ≤ R.frames) (hlo : W + 65 ≤ R.locals) :
    Back l R p e below s sargs yN len W (fun A₁ a₁ => A₁.cells + 1 ≤ R.cells ∧ A₁.slots + A.slots.size ≤ R.slots ∧ P a D fV fC b A z a₁ A₁.U) (fun A₁ _ v₁ B₁ => E a D fV fC A v₁ A₁.U B₁.U ∧ B₁.locs = A₁.locs ++ [⟨a, fC.slot⟩, ⟨a, fV.slot⟩] ∧ B₁.cells = A₁.cells + 1 ∧ B₁.slots = A₁.slots + A.slots.size) :=
  (law l a D fV fC b A z).pays htab hfr (by omega)
end New1
end StrChars
namespace StrChars.Road
open Jvm Sem ClassFile Op Lib Jvm.Stand Jvm.Free Jvm.Free.XT
open Jvm.Lib.Cold (StaticIs)
abbrev ST : String := "java/lang/String"
/-- every table word that New1's law asks, flat -/
abbrev words : List Jvm.Cond := [.code New1.yN New1.yB 2 none, .initialized ST, .methodLink ST 27 New4.yN, .instanceMethod New4.yN,
  .code New4.yN New4.yB 6 none, .fieldLink ST 38 ST "COMPACT_STRINGS" "Z", .laysFinal ST ST "value" "[B", .fieldLink ST 9 ST "value" "[B", .laysFinal ST ST "coder" "B", .fieldLink ST 15 ST "coder" "B",
  .methodLink ST 1 Lib.objectInit, .instanceMethod Lib.objectInit, .code Lib.objectInit ⟨#[0xb1]⟩ 1 none, .methodLink ST 177 Cmp3.yN, .static Cmp3.yN, .methodLink ST 47 CodL.yN, .static CodL.yN,
  .code Cmp3.yN Cmp3.yB 6 (some (.array .byte)), .initialized U16, .arrayClass .byte, .methodLink U16 115 Cmp5.yN, .static Cmp5.yN, .code Cmp5.yN Cmp5.yB 7 (some .int), .code CodL.yN CodL.yB 2 (some .byte)]
theorem tab_of {a : Array Value} {s : State} (h : ∀ w ∈ words, w.before a s = true) : New1.tab.before a s = true := by
  have h5 : Cmp5.tab.before a s = true := unparts (wk h (.code Cmp5.yN Cmp5.yB 7 (some .int))) (wks h (.initialized Cmp5.yN.cls :: Cmp5.site))
  have hc : CodL.tab.before a s = true := unparts (wk h (.code CodL.yN CodL.yB 2 (some .byte))) (wks h (.initialized CodL.yN.cls :: CodL.site))
  have q5 : ∀ w ∈ Cmp5.tab :: words, w.before a s = true := fun w hw => (List.mem_cons.mp hw).elim (fun e => e ▸ h5) (h w)
  have h3 : Cmp3.tab.before a s = true := unparts (wk q5 (.code Cmp3.yN Cmp3.yB 6 (some (.array .byte)))) (wks q5 (.initialized Cmp3.yN.cls :: Cmp3.site))
  have q3 : ∀ w ∈ Cmp3.tab :: CodL.tab :: words, w.before a s = true := fun w hw => (List.mem_cons.mp hw).elim (fun e => e ▸ h3) fun hw => (List.mem_cons.mp hw).elim (fun e => e ▸ hc) (h w)
  have h4 : New4.tab.before a s = true := unparts (wk q3 (.code New4.yN New4.yB 6 none)) (wks q3 (.initialized New4.yN.cls :: New4.site))
  have q4 : ∀ w ∈ New4.tab :: words, w.before a s = true := fun w hw => (List.mem_cons.mp hw).elim (fun e => e ▸ h4) (h w)
  exact unparts (wk q4 (.code New1.yN New1.yB 2 none)) (wks q4 (.initialized New1.yN.cls :: New1.site))
/-- the words ride from the start Z to the walk's own state -/
theorem moved {Z s : State} {a0 args : Array Value} (hZ : Z.Warmed39 s.vm) (hw : ∀ d ∈ words, d.before a0 Z = true) : ∀ d ∈ words, d.before args s = true := fun d hd => by
  have q := hw d hd
  have t : ∀ d ∈ words, d = .arrayClass .byte ∨ (d.onTables && d.keepsFace) = true := by decide +kernel
  rcases t d hd with rfl | t
  · exact RoadKit.mvA hZ q
  · exact RoadKit.mv hZ q t
/-- WHAT COMES BACK, over the tables of the start Z: h the heap at the call, h' behind it -/
def Q (Z : State) (x : Addr) (A : Cell) (h : Heap) (v : Option Value) (h' : Heap) (L : List Loc) : Prop := v = none ∧ (∀ y ∈ L, y.base = x) ∧ RoadKit.Keep h h' [x] ∧ h'.size = h.size + 1 ∧ RoadKit.Exa Z h' x ST ∧ RoadKit.Fld Z h' x ST "value" "[B" (.ref h.size) ∧ RoadKit.Fld Z h' x ST "coder" "B" (.int 0) ∧
  (∃ V : Cell, RoadKit.Arr Z h' h.size V .byte ∧ V.vm = .none ∧ Z.vm.findClass "[B" = some V.cls ∧ V.slots.size = A.slots.size ∧ ∀ j, j < A.slots.size → V.slots[j]? = some (.int (lo8 (cv A j)))) ∧
  ∀ (O n d : String) (w : Value), RoadKit.Fld Z h x O n d w → RoadKit.slotOf Z O n d ≠ RoadKit.slotOf Z ST "value" "[B" → RoadKit.slotOf Z O n d ≠ RoadKit.slotOf Z ST "coder" "B" → RoadKit.Fld Z h' x O n d w
/-- **new String(chars) AT A CALL, IN THE ROAD'S FORM**: for specialBack behind newO: x the fresh String, b the char[] with the cell A -/
theorem back {p : Program} {l : Launch} {e : Env} {R : Room} {s : State} {args : Array Value} {below : List Frame} {len W : Nat} {Z : State} {a0 : Array Value} {h : Heap} (hZ : Z.Warmed39 s.vm) (hw : ∀ d ∈ words, d.before a0 Z = true) {kI : Nat} (wi : (Jvm.Cond.instantiable ST kI).before a0 Z = true)
    {x b : Addr} {A : Cell} {z : Int32} {v0 c0 : Value} (E : RoadKit.Exa Z h x ST) (V : RoadKit.Fld Z h x ST "value" "[B" v0) (C : RoadKit.Fld Z h x ST "coder" "B" c0) (K : RoadKit.Arr Z h b A .char) (hty : Typed .char A) (S : RoadKit.Sta Z h ST "COMPACT_STRINGS" "Z" (.int z)) (hz : ¬ z = 0)
    (l0 : 0 < A.slots.size) (l2 : A.slots.size ≤ 536870912) (hp : ∀ i, i < A.slots.size → ¬ 255 < cv A i) (hfr : 4 ≤ R.frames) (hlo : W + 65 ≤ R.locals) :
    Back l R p e below s args New1.yN len W (fun P a => a = #[.ref x, .ref b] ∧ P.U.heap = h ∧ P.cells + 1 ≤ R.cells ∧ P.slots + A.slots.size ≤ R.slots)
      (fun P _ v B => ∃ L, Q Z x A h v B.U.heap L ∧ B.locs = P.locs ++ L ∧ B.cells = P.cells + 1 ∧ B.slots = P.slots + A.slots.size) := by
  intro m meth c P g ig mk a X hg hsize hdg hW hn hp'
  obtain ⟨rfl, rfl, r1, r2⟩ := hp'
  have al : Z.vm.Alike P.U.vm := hZ.alike.trans X.warmed.alike
  obtain ⟨D, cfV, kV, iV, fV, hD, gV, stV, knV, obV, asV, slV⟩ := id V
  obtain ⟨D', cfC, kC, iC, fC, hD', gC, stC, -, -, asC, slC⟩ := id C
  cases hD.symm.trans hD'
  obtain ⟨D2, kD, e1, e2, e3, e4, e5⟩ := id E
  cases hD.symm.trans e1
  obtain ⟨c2, k2, i1, i2, i3, -⟩ := Cond.instantiable_spec wi
  cases e2.symm.trans i1
  cases e3.symm.trans i2
  obtain ⟨kU, u1, u2⟩ := al.2.2 _ _ e3
  have hB : Blank ST x D P.U := ⟨hD, ⟨knV, fun q hq => by rw [hq] at obV; cases obV⟩, by rw [al.findClass]; exact e2, kU, u1, by rw [u2]; exact i3, by rw [u2]; exact e5 i3⟩
  have F1 : Found ST "value" "[B" fV P.U := ⟨SBG.found_only al ⟨cfV, kV, iV, gV⟩, stV⟩
  have F2 : Found ST "coder" "B" fC P.U := ⟨SBG.found_only al ⟨cfC, kC, iC, gC⟩, stC⟩
  have hA : Ch b A P.U := ⟨⟨K.1, State.isArrayOf_alike al K.2.1, K.2.2, by omega⟩, hty⟩
  have hS : StaticIs P.U ST "COMPACT_STRINGS" "Z" (.int z) := by
    obtain ⟨cfS, iS, kS, fS, st, cS, t1, t2, t3, t4, t5, t6, t7⟩ := S
    exact StaticIs.there (s := { Z with heap := P.U.heap }) ⟨cfS, iS, kS, fS, st, cS, t1, t2, t3, t4, t5, (fun q => by rw [q] at t6; cases t6), t7⟩ al rfl
  obtain ⟨v, B, X', ⟨⟨hv, E', V', q1, q2, q3, q4, q5, q6, q7, q8, q9, q10, q11⟩, hl, hc, hs⟩, st⟩ := New1.pays x D fV fC b A z (tab_of (moved hZ hw)) hfr hlo m meth c P g ig mk _ X hg hsize hdg hW hn ⟨r1, r2, rfl, hB, F1, F2, hA, hS, hz, l0, l2, hp⟩
  have al' : Z.vm.Alike B.U.vm := hZ.alike.trans X'.warmed.alike
  have hsz : E'.slots.size = D.slots.size := by
    obtain ⟨-, -, -, kB, w1, w2, w3⟩ := q1
    obtain ⟨kB', y1, y2⟩ := al'.2.2 _ _ e3
    rw [q2.2.1] at w1
    cases w1.symm.trans y1
    rw [w3, e5 i3, y2]
  refine ⟨v, B, X', ⟨_, ⟨hv, ?_, ⟨by omega, fun y cy hy hn' => q10 y cy (by simpa using hn') hy, fun y cy hy => ?_⟩, q11, ⟨E', _, q1.1, by rw [q2.2.1]; exact e2, by rw [q2.2.1]; exact e3, by rw [q2.1]; exact obV, fun _ => by rw [hsz]; exact e5 i3⟩,
    ⟨E', cfV, kV, iV, fV, q1.1, gV, stV, by rw [q2.1]; exact knV, by rw [q2.1]; exact obV, by rw [q2.2.1]; exact asV, q3⟩, ⟨E', cfC, kC, iC, fC, q1.1, gC, stC, by rw [q2.1]; exact knV, by rw [q2.1]; exact obV, by rw [q2.2.1]; exact asC, q4⟩,
    ⟨V', ⟨q5.1, State.isArrayOf_alike al'.symm q5.2.1, q5.2.2.1⟩, q6, by rw [← al'.findClass]; exact q7, q8, fun j hj => by have := q9 j hj; rwa [Nat.zero_add] at this⟩, fun O n d w F n1 n2 => ?_⟩, hl, hc, hs⟩, st⟩
  · intro y hy
    simp only [List.mem_cons, List.not_mem_nil, or_false] at hy
    rcases hy with rfl | rfl <;> rfl
  · by_cases q : y = x
    · subst q
      cases hD.symm.trans hy
      exact ⟨E', q1.1, q2.2.1, q2.1, hsz⟩
    · exact ⟨cy, q10 y cy q hy, rfl, rfl, rfl⟩
  · obtain ⟨D3, cf, k, i, f, g1, g2, g3, g4, g5, g6, g7⟩ := F
    cases hD.symm.trans g1
    simp only [RoadKit.slotOf, g2, gV, gC, Option.map_some, Option.getD_some] at n1 n2
    exact ⟨E', cf, k, i, f, q1.1, g2, g3, by rw [q2.1]; exact g4, by rw [q2.1]; exact g5, by rw [q2.2.1]; exact g6, by rw [q2.2.2 f.slot (by simp [n1, n2])]; exact g7⟩
end StrChars.Road
namespace StrChars.Road
open Jvm Sem ClassFile Op Lib Jvm.Stand Jvm.Free Jvm.Free.XT
/-- WHAT COMES BACK, the byte[] as a list of values -/
def QA (Z : State) (x : Addr) (zn : Int32) (cs : List Int32) (h : Heap) (v : Option Value) (h' : Heap) (L : List Loc) : Prop := v = none ∧ (∀ y ∈ L, y.base = x) ∧ RoadKit.Keep h h' [x] ∧ h'.size = h.size + 1 ∧ RoadKit.Exa Z h' x ST ∧ RoadKit.Fld Z h' x ST "value" "[B" (.ref h.size) ∧ RoadKit.Fld Z h' x ST "coder" "B" (.int 0) ∧
  (∃ kb, Z.vm.findClass "[B" = some kb ∧ RoadKit.Arv Z h' h.size kb .byte zn (cs.map fun c => .int (lo8 c)) (.int 0)) ∧
  ∀ (O n d : String) (w : Value), RoadKit.Fld Z h x O n d w → RoadKit.slotOf Z O n d ≠ RoadKit.slotOf Z ST "value" "[B" → RoadKit.slotOf Z O n d ≠ RoadKit.slotOf Z ST "coder" "B" → RoadKit.Fld Z h' x O n d w
/-- **new String(chars) AT A CALL, THE ARRAYS AS LISTS**: the char[] at b holds cs, not empty, no char above 255 -/
theorem backArv {p : Program} {l : Launch} {e : Env} {R : Room} {s : State} {args : Array Value} {below : List Frame} {len W : Nat} {Z : State} {a0 : Array Value} {h : Heap} (hZ : Z.Warmed39 s.vm) (hw : ∀ d ∈ words, d.before a0 Z = true) {kI : Nat} (wi : (Jvm.Cond.instantiable ST kI).before a0 Z = true)
    {x b : Addr} {k : ClassId} {zn z : Int32} {cs : List Int32} {dv v0 c0 : Value} (E : RoadKit.Exa Z h x ST) (V : RoadKit.Fld Z h x ST "value" "[B" v0) (C : RoadKit.Fld Z h x ST "coder" "B" c0) (K : RoadKit.Arv Z h b k .char zn (cs.map Value.int) dv) (S : RoadKit.Sta Z h ST "COMPACT_STRINGS" "Z" (.int z)) (hz : ¬ z = 0)
    (hlen : zn.toNatClampNeg = cs.length) (h0 : 0 < cs.length) (hbig : cs.length ≤ 536870912) (hall : ∀ c ∈ cs, ¬ 255 < c) (hfr : 4 ≤ R.frames) (hlo : W + 65 ≤ R.locals) :
    Back l R p e below s args New1.yN len W (fun P a => a = #[.ref x, .ref b] ∧ P.U.heap = h ∧ P.cells + 1 ≤ R.cells ∧ P.slots + cs.length ≤ R.slots)
      (fun P _ v B => ∃ L, QA Z x zn cs h v B.U.heap L ∧ B.locs = P.locs ++ L ∧ B.cells = P.cells + 1 ∧ B.slots = P.slots + cs.length) := by
  obtain ⟨A, K1, K2, K3, K4, K5, K6⟩ := K
  have e : A.slots.size = cs.length := K3.trans hlen
  have hat : ∀ (i : Nat) (hi : i < cs.length), A.slots[i]? = some (.int cs[i]) := fun i hi => by rw [K5 i (by omega)]; simp [List.getD_eq_getElem?_getD, hi]
  have hcv : ∀ (i : Nat) (hi : i < cs.length), cv A i = cs[i] := fun i hi => by unfold cv; rw [hat i hi]
  have hty : Typed .char A := fun i v hv => by
    have hi : i < A.slots.size := (Array.getElem?_eq_some_iff.mp hv).1
    have q := K5 i hi
    rw [hv] at q
    rw [Option.some.inj q]
    exact K6 i hi
  refine Back.mono (back hZ hw wi E V C K1 hty S hz (by omega) (by omega) (fun i hi => by rw [hcv i (by omega)]; exact hall _ (List.getElem_mem _)) hfr hlo) (fun P a hp => ⟨hp.1, hp.2.1, hp.2.2.1, by rw [e]; exact hp.2.2.2⟩) (fun P a v B hp hq => ?_)
  obtain ⟨L, ⟨q1, q2, q3, q4, q5, q6, q7, ⟨V', v1, v2, v3, v4, v5⟩, q9⟩, hl, hc, hs⟩ := hq
  refine ⟨L, ⟨q1, q2, q3, q4, q5, q6, q7, ⟨V'.cls, v3, V', v1, rfl, by rw [v4, e, hlen], K4, fun i hi => ?_, fun i hi => ?_⟩, q9⟩, hl, hc, by rw [hs, e]⟩
  · have hi' : i < cs.length := by omega
    rw [v5 i (by omega), hcv i hi']; simp [List.getD_eq_getElem?_getD, hi']
  · have hi' : i < cs.length := by omega
    simp only [List.getD_eq_getElem?_getD, List.getElem?_map, List.getElem?_eq_getElem hi', Option.map_some, Option.getD_some]
    exact fits_lo8 _
end StrChars.Road
namespace StrChars.Road
open Jvm Sem ClassFile Op Lib Jvm.Stand Jvm.Free Jvm.Free.XT
/-- WHAT COMES BACK, in the writer's own shape -/
def QV (Z : State) (x : Addr) (N : Int32) (bs : List Int32) (h : Heap) (n0 : Nat) (v : Option Value) (h' : Heap) (L : List Loc) : Prop := v = none ∧ RoadKit.Fr n0 L ∧ RoadKit.Keep h h' [x] ∧ RoadKit.Exa Z h' x ST ∧ RoadKit.Fld Z h' x ST "coder" "B" (.int 0) ∧
  ∃ (t : Addr) (kb : ClassId), n0 ≤ t ∧ h.size ≤ t ∧ ¬ t = x ∧ RoadKit.Fld Z h' x ST "value" "[B" (.ref t) ∧ RoadKit.Arv Z h' t kb .byte N (bs.map Value.int) (.int 0)
/-- **new String(chars) AT A CALL, FOR THE WRITER**: a char[] of n known ints, each 0 to 255 -/
theorem backV {p : Program} {l : Launch} {e : Env} {R : Room} {s : State} {args : Array Value} {below : List Frame} {len W : Nat} {Z : State} {a0 : Array Value} {h : Heap} (hZ : Z.Warmed39 s.vm) (hw : ∀ d ∈ words, d.before a0 Z = true) {kI : Nat} (wi : (Jvm.Cond.instantiable ST kI).before a0 Z = true)
    {x b : Addr} {kC : ClassId} {cs bs : List Int32} {d v0 c0 : Value} {z N : Int32} {n n0 : Nat} (hx0 : n0 ≤ x) (hh0 : n0 ≤ h.size) (E : RoadKit.Exa Z h x ST) (V : RoadKit.Fld Z h x ST "value" "[B" v0) (C : RoadKit.Fld Z h x ST "coder" "B" c0) (K : RoadKit.Arv Z h b kC .char N (cs.map Value.int) d) (S : RoadKit.Sta Z h ST "COMPACT_STRINGS" "Z" (.int z)) (hz : ¬ z = 0)
    (hn : cs.length = n) (hN : N = Int32.ofNat n) (l0 : 0 < n) (l2 : n ≤ 4000) (hp : ∀ c ∈ cs, ¬ c < 0 ∧ ¬ (255 : Int32) < c) (hb : bs = cs.map (fun c => c.toInt8.toInt32)) (hfr : 4 ≤ R.frames) (hlo : W + 65 ≤ R.locals) :
    Back l R p e below s args (⟨"java/lang/String", "<init>", "([C)V"⟩ : MethodName) len W (fun P a => a = #[.ref x, .ref b] ∧ P.U.heap = h ∧ P.cells + 1 ≤ R.cells ∧ P.slots + n ≤ R.slots)
      (fun P _ v B => ∃ L, QV Z x N bs h n0 v B.U.heap L ∧ B.locs = P.locs ++ L ∧ B.cells = P.cells + 1 ∧ B.slots = P.slots + n) := by
  subst hn hN hb
  refine Back.mono (backArv hZ hw wi E V C K S hz (n32 (by omega)) l0 (by omega) (fun c hc => (hp c hc).2) hfr hlo) (fun P a hp => hp) (fun P a v B hp hq => ?_)
  obtain ⟨L, ⟨q1, q2, q3, q4, q5, q6, q7, ⟨kb, v1, v2⟩, q9⟩, hl, hc, hs⟩ := hq
  exact ⟨L, ⟨q1, fun y hy => by rw [q2 y hy]; exact hx0, q3, q5, q7, h.size, kb, hh0, Nat.le_refl _, Nat.ne_of_gt E.lt, q6, by rw [List.map_map]; exact v2⟩, hl, hc, hs⟩
end StrChars.Road
end Jvm.Pilot.@@N@@
namespace Jvm.Pilot.@@N@@
open Jvm Jvm.ClassFile Sem Op Lib Jvm.Free Jvm.Stand Jvm.LawKit Jvm.RoadKit Bundle Jvm.Pilot.@@N@@.Jvm.D
theorem own_dloadN {tb : Tables} [Ours tb] {e : Env} {below : List Frame} {T target : State} {m : MethodId} {c : Code} {g : JFrame} (h : At T m c below) (hx : tb.exec = Jvm.exec) (hg : g.method = m) {k : Fin 4} {v : UInt64} (hd : decode c.code g.pc = .ok (.dload_n k, 1)) (hl : g.locals[k.val]? = some (.val (.double v)))
    (hr : Steps tb e below (T.setTop { g with pc := g.pc + 1, stack := .double v :: g.stack }) target) : Steps tb e below (T.setTop g) target := by
  subst hg
  jvm_step h [h.top, hx, hd, hl]
  exact hr
theorem own_dload {tb : Tables} [Ours tb] {e : Env} {below : List Frame} {T target : State} {m : MethodId} {c : Code} {g : JFrame} (h : At T m c below) (hx : tb.exec = Jvm.exec) (hg : g.method = m) {k : Nat} {v : UInt64} (hd : decode c.code g.pc = .ok (.dload k, 2)) (hl : g.locals[k]? = some (.val (.double v)))
    (hr : Steps tb e below (T.setTop { g with pc := g.pc + 2, stack := .double v :: g.stack }) target) : Steps tb e below (T.setTop g) target := by
  subst hg
  jvm_step h [h.top, hx, hd, hl]
  exact hr
theorem own_dstoreN {tb : Tables} [Ours tb] {e : Env} {below : List Frame} {T target : State} {m : MethodId} {c : Code} {g : JFrame} (h : At T m c below) (hx : tb.exec = Jvm.exec) (hg : g.method = m) {k : Fin 4} {x : UInt64} {rest : List Value} {l' : Array Slot} (hd : decode c.code g.pc = .ok (.dstore_n k, 1)) (hs : g.stack = .double x :: rest) (hl : storeLocals g.locals k.val (.double x) = some l')
    (hr : Steps tb e below (T.setTop { g with pc := g.pc + 1, stack := rest, locals := l' }) target) : Steps tb e below (T.setTop g) target := by
  subst hg
  jvm_step h [h.top, hx, hd, hs, hl]
  exact hr
theorem own_dstore {tb : Tables} [Ours tb] {e : Env} {below : List Frame} {T target : State} {m : MethodId} {c : Code} {g : JFrame} (h : At T m c below) (hx : tb.exec = Jvm.exec) (hg : g.method = m) {k : Nat} {x : UInt64} {rest : List Value} {l' : Array Slot} (hd : decode c.code g.pc = .ok (.dstore k, 2)) (hs : g.stack = .double x :: rest) (hl : storeLocals g.locals k (.double x) = some l')
    (hr : Steps tb e below (T.setTop { g with pc := g.pc + 2, stack := rest, locals := l' }) target) : Steps tb e below (T.setTop g) target := by
  subst hg
  jvm_step h [h.top, hx, hd, hs, hl]
  exact hr
theorem own_dconst0 {tb : Tables} [Ours tb] {e : Env} {below : List Frame} {T target : State} {m : MethodId} {c : Code} {g : JFrame} (h : At T m c below) (hx : tb.exec = Jvm.exec) (hg : g.method = m) (hd : decode c.code g.pc = .ok (.dconst 0, 1))
    (hr : Steps tb e below (T.setTop { g with pc := g.pc + 1, stack := .double FP.dconst0 :: g.stack }) target) : Steps tb e below (T.setTop g) target := by
  subst hg
  jvm_step h [h.top, hx, hd]
  exact hr
theorem own_dconst1 {tb : Tables} [Ours tb] {e : Env} {below : List Frame} {T target : State} {m : MethodId} {c : Code} {g : JFrame} (h : At T m c below) (hx : tb.exec = Jvm.exec) (hg : g.method = m) (hd : decode c.code g.pc = .ok (.dconst 1, 1))
    (hr : Steps tb e below (T.setTop { g with pc := g.pc + 1, stack := .double FP.dconst1 :: g.stack }) target) : Steps tb e below (T.setTop g) target := by
  subst hg
  jvm_step h [h.top, hx, hd]
  exact hr
theorem own_i2d {tb : Tables} [Ours tb] {e : Env} {below : List Frame} {T target : State} {m : MethodId} {c : Code} {g : JFrame} (h : At T m c below) (hx : tb.exec = Jvm.exec) (hg : g.method = m) {x : Int32} {rest : List Value} (hd : decode c.code g.pc = .ok (.i2d, 1)) (hs : g.stack = .int x :: rest)
    (hr : Steps tb e below (T.setTop { g with pc := g.pc + 1, stack := .double (FP.i2d x) :: rest }) target) : Steps tb e below (T.setTop g) target := by
  subst hg
  jvm_step h [h.top, hx, hd, hs]
  exact hr
theorem own_l2d {tb : Tables} [Ours tb] {e : Env} {below : List Frame} {T target : State} {m : MethodId} {c : Code} {g : JFrame} (h : At T m c below) (hx : tb.exec = Jvm.exec) (hg : g.method = m) {x : Int64} {rest : List Value} (hd : decode c.code g.pc = .ok (.l2d, 1)) (hs : g.stack = .long x :: rest)
    (hr : Steps tb e below (T.setTop { g with pc := g.pc + 1, stack := .double (FP.l2d x) :: rest }) target) : Steps tb e below (T.setTop g) target := by
  subst hg
  jvm_step h [h.top, hx, hd, hs]
  exact hr
theorem own_d2l {tb : Tables} [Ours tb] {e : Env} {below : List Frame} {T target : State} {m : MethodId} {c : Code} {g : JFrame} (h : At T m c below) (hx : tb.exec = Jvm.exec) (hg : g.method = m) {x : UInt64} {rest : List Value} (hd : decode c.code g.pc = .ok (.d2l, 1)) (hs : g.stack = .double x :: rest)
    (hr : Steps tb e below (T.setTop { g with pc := g.pc + 1, stack := .long (FP.d2l x) :: rest }) target) : Steps tb e below (T.setTop g) target := by
  subst hg
  jvm_step h [h.top, hx, hd, hs]
  exact hr
theorem own_d2i {tb : Tables} [Ours tb] {e : Env} {below : List Frame} {T target : State} {m : MethodId} {c : Code} {g : JFrame} (h : At T m c below) (hx : tb.exec = Jvm.exec) (hg : g.method = m) {x : UInt64} {rest : List Value} (hd : decode c.code g.pc = .ok (.d2i, 1)) (hs : g.stack = .double x :: rest)
    (hr : Steps tb e below (T.setTop { g with pc := g.pc + 1, stack := .int (FP.d2i x) :: rest }) target) : Steps tb e below (T.setTop g) target := by
  subst hg
  jvm_step h [h.top, hx, hd, hs]
  exact hr
theorem own_dneg {tb : Tables} [Ours tb] {e : Env} {below : List Frame} {T target : State} {m : MethodId} {c : Code} {g : JFrame} (h : At T m c below) (hx : tb.exec = Jvm.exec) (hg : g.method = m) {x : UInt64} {rest : List Value} (hd : decode c.code g.pc = .ok (.dneg, 1)) (hs : g.stack = .double x :: rest)
    (hr : Steps tb e below (T.setTop { g with pc := g.pc + 1, stack := .double (FP.dneg x) :: rest }) target) : Steps tb e below (T.setTop g) target := by
  subst hg
  jvm_step h [h.top, hx, hd, hs]
  exact hr
theorem own_dcmp {tb : Tables} [Ours tb] {e : Env} {below : List Frame} {T target : State} {m : MethodId} {c : Code} {g : JFrame} (h : At T m c below) (hx : tb.exec = Jvm.exec) (hg : g.method = m) {op : CmpOp} {x y : UInt64} {rest : List Value} (hd : decode c.code g.pc = .ok (.dcmp op, 1)) (hs : g.stack = .double y :: .double x :: rest)
    (hr : Steps tb e below (T.setTop { g with pc := g.pc + 1, stack := .int (cmpValue (FP.dcmp x y) op) :: rest }) target) : Steps tb e below (T.setTop g) target := by
  subst hg
  jvm_step h [h.top, hx, hd, hs]
  exact hr
theorem own_dadd {tb : Tables} [Ours tb] {e : Env} {below : List Frame} {T target : State} {m : MethodId} {c : Code} {g : JFrame} (h : At T m c below) (hx : tb.exec = Jvm.exec) (hg : g.method = m) {x y : UInt64} {rest : List Value} (hd : decode c.code g.pc = .ok (.dadd, 1)) (hs : g.stack = .double y :: .double x :: rest) (hn : Jvm.Free.Fl.NoNaN64 (FP.dadd x y))
    (hr : Steps tb e below (T.setTop { g with pc := g.pc + 1, stack := .double (FP.dadd x y) :: rest }) target) : Steps tb e below (T.setTop g) target := by
  obtain ⟨gm, gpc, gl, gs, glk, gen, gmr⟩ := g
  subst hg
  dsimp only at hs
  subst hs
  jvm_step h [hx, hd, Op.dadd.at_number h.top hn]
  exact hr
theorem own_dsub {tb : Tables} [Ours tb] {e : Env} {below : List Frame} {T target : State} {m : MethodId} {c : Code} {g : JFrame} (h : At T m c below) (hx : tb.exec = Jvm.exec) (hg : g.method = m) {x y : UInt64} {rest : List Value} (hd : decode c.code g.pc = .ok (.dsub, 1)) (hs : g.stack = .double y :: .double x :: rest) (hn : Jvm.Free.Fl.NoNaN64 (FP.dsub x y))
    (hr : Steps tb e below (T.setTop { g with pc := g.pc + 1, stack := .double (FP.dsub x y) :: rest }) target) : Steps tb e below (T.setTop g) target := by
  obtain ⟨gm, gpc, gl, gs, glk, gen, gmr⟩ := g
  subst hg
  dsimp only at hs
  subst hs
  jvm_step h [hx, hd, Op.dsub.at_number h.top hn]
  exact hr
theorem own_dmul {tb : Tables} [Ours tb] {e : Env} {below : List Frame} {T target : State} {m : MethodId} {c : Code} {g : JFrame} (h : At T m c below) (hx : tb.exec = Jvm.exec) (hg : g.method = m) {x y : UInt64} {rest : List Value} (hd : decode c.code g.pc = .ok (.dmul, 1)) (hs : g.stack = .double y :: .double x :: rest) (hn : Jvm.Free.Fl.NoNaN64 (FP.dmul x y))
    (hr : Steps tb e below (T.setTop { g with pc := g.pc + 1, stack := .double (FP.dmul x y) :: rest }) target) : Steps tb e below (T.setTop g) target := by
  obtain ⟨gm, gpc, gl, gs, glk, gen, gmr⟩ := g
  subst hg
  dsimp only at hs
  subst hs
  jvm_step h [hx, hd, Op.dmul.at_number h.top hn]
  exact hr
theorem own_ddiv {tb : Tables} [Ours tb] {e : Env} {below : List Frame} {T target : State} {m : MethodId} {c : Code} {g : JFrame} (h : At T m c below) (hx : tb.exec = Jvm.exec) (hg : g.method = m) {x y : UInt64} {rest : List Value} (hd : decode c.code g.pc = .ok (.ddiv, 1)) (hs : g.stack = .double y :: .double x :: rest) (hn : Jvm.Free.Fl.NoNaN64 (FP.ddiv x y))
    (hr : Steps tb e below (T.setTop { g with pc := g.pc + 1, stack := .double (FP.ddiv x y) :: rest }) target) : Steps tb e below (T.setTop g) target := by
  obtain ⟨gm, gpc, gl, gs, glk, gen, gmr⟩ := g
  subst hg
  dsimp only at hs
  subst hs
  jvm_step h [hx, hd, Op.ddiv.at_number h.top hn]
  exact hr
theorem own_dup2D {tb : Tables} [Ours tb] {e : Env} {below : List Frame} {T target : State} {m : MethodId} {c : Code} {g : JFrame} (h : At T m c below) (hx : tb.exec = Jvm.exec) (hg : g.method = m) {x : UInt64} {rest : List Value} (hd : decode c.code g.pc = .ok (.dup2, 1)) (hs : g.stack = .double x :: rest)
    (hr : Steps tb e below (T.setTop { g with pc := g.pc + 1, stack := .double x :: .double x :: rest }) target) : Steps tb e below (T.setTop g) target := by
  subst hg
  jvm_step h [h.top, hx, hd, hs, Value.category]
  exact hr
theorem own_retD {p : Program} {l : Launch} {e : Env} {R : Room} {s : State} {m : MethodId} {args : Array Value} {below : List Frame} {meth : Method} {c : Code} {T : State} {locs : List Loc} {cells slots : Nat} (Y : Stand p l e R s m args below meth c T locs cells slots) (hexec : p.tables.exec = Jvm.exec) {pc : Nat} {Ls : Array Slot} {w : UInt64} {rest : List Value} (hret : meth.sig.returnType = some .double)
    (hdg : decode c.code pc = .ok (.dreturn, 1)) {fs : List Frame} (hleave : ∀ (f : JFrame) (acts : List Action), f.method = m → f.locked = none → f.entered = [] → (doReturn e (T.setTop f) acts (some (.double w))).1 = T.setFrames fs) :
    Steps p.tables e below (T.setTop (mkF m pc Ls (.double w :: rest))) (T.setFrames fs) :=
  retOut Y hexec hret rfl (Or.inr (Or.inr (Or.inl ⟨rfl, rfl, w, rfl⟩))) hdg hleave
theorem own_stD {p : Program} {l : Launch} {e : Env} {R : Room} {s : State} {m : MethodId} {args : Array Value} {below : List Frame} {meth : Method} {c : Code} {T : State} {locs : List Loc} {cells slots : Nat} {Z : State} {h : Heap}
    (X : Stand p l e R s m args below meth c T locs cells slots) (hx : p.tables.exec = Jvm.exec) (hZ : Z.Warmed39 s.vm) (eT : T.heap = h) {a : Addr} {cl : Cell} (A : Arr Z h a cl .double) {j : Int32} {x : UInt64} (hj : ¬ (j < 0 ∨ cl.slots.size ≤ j.toNatClampNeg)) {g : JFrame} (hg : g.method = m) {rest : List Value} (hs : g.stack = .double x :: .int j :: .ref a :: rest) (hd : decode c.code g.pc = .ok (.dastore, 1)) :
    ∃ T' h', Stand p l e R s m args below meth c T' (locs ++ [⟨a, j.toNatClampNeg⟩]) cells slots ∧ T'.heap = h' ∧ Wr h h' a j.toNatClampNeg (.double x) ∧ ∀ target, Steps p.tables e below (T'.setTop { g with pc := g.pc + 1, stack := rest }) target → Steps p.tables e below (T.setTop g) target := by
  obtain ⟨X', st⟩ := X.dastore hx (by rw [eT]; exact A.1) (State.isArrayOf_alike hZ.alike A.2.1) A.2.2 hj hg hs hd
  exact ⟨_, _, X', rfl, ⟨cl, A.1, A.plain, Nat.lt_of_not_le fun q => hj (Or.inr q), by rw [← eT]; rfl⟩, st⟩
section OwnCalls
variable {p : Program} {l : Launch} {e : Env} {R : Room} {s : State} {m : MethodId} {args : Array Value} {below : List Frame} {meth : Method} {c : Code} {T : State} {locs : List Loc} {cells slots : Nat} {Z : State} {a0 : Array Value} {h : Heap}
theorem own_virt (X : Stand p l e R s m args below meth c T locs cells slots) (hx : p.tables.exec = Jvm.exec) (hZ : Z.Warmed39 s.vm) {own C : String} {index : Nat} {y : MethodName} (hown : s.vm.findClass own = some m.cls)
    (w1 : (Jvm.Cond.methodLink own index y).before a0 Z = true) (w2 : (Jvm.Cond.declares y).before a0 Z = true) (w3 : (Jvm.Cond.selects C y y).before a0 Z = true) (w4 : (Jvm.Cond.instanceMethod y).before a0 Z = true)
    (hy : y.cls ≠ "java/lang/invoke/MethodHandle" ∧ y.cls ≠ "java/lang/invoke/VarHandle") {bytes : ByteArray} {maxL : Nat} {ret : Option FieldType} {rm : Room} {as' : Array Value} {Q : Option Value → Heap → List Loc → Prop}
    (hM : MetFree l y (head1 [Jvm.Cond.code y bytes maxL ret] rm) (fun α U => α = as' ∧ Z.Warmed39 U.vm ∧ U.heap = h) (fun _ _ _ _ _ => True) (fun _ U o U' => ∃ v L, o = .returned v ∧ Q v U'.heap L ∧ FrameEnd U o U' L rm.cells rm.slots))
    (wc : (Jvm.Cond.code y bytes maxL ret).before a0 Z = true) (wz : (Jvm.Cond.initialized y.cls).before a0 Z = true) (W : Nat) (hf : rm.frames + 1 ≤ R.frames) (hl : W + (maxL + 11) + rm.locals ≤ R.locals)
    {b : Addr} (E : Exa Z h b C) (eT : T.heap = h) (g : JFrame) (hg : g.method = m) (hsize : g.locals.size = c.maxLocals) (argsL rest : List Value) (has : (.ref b :: argsL).toArray = as')
    (hlen : ∀ sig, parseMethodDescriptor y.desc = some sig → argsL.length = sig.parameters.length) (hstack : g.stack = argsL.reverse ++ .ref b :: rest) (hW : 2 * g.monitorRoom + (rest.map fun v => v.category).sum ≤ W)
    (hdg : decode c.code g.pc = .ok (.invokevirtual index, 3)) (hc : cells + rm.cells ≤ R.cells) (hs : slots + rm.slots ≤ R.slots) :
    ∃ (v : Option Value) (T' : State) (L : List Loc), Stand p l e R s m args below meth c T' (locs ++ L) (cells + rm.cells) (slots + rm.slots) ∧ Q v T'.heap L ∧
      ∀ τ, Steps p.tables e below (T'.setTop { g with pc := g.pc + 3, stack := v.toList ++ rest }) τ → Steps p.tables e below (T.setTop g) τ := by
  obtain ⟨cq, kq, qa, qb, qc⟩ := isOf hZ eT E
  obtain ⟨v, _, ⟨T1, L1, k1, n1⟩, -, X1, ⟨Lc, hQ, l1, y1, z1⟩, st⟩ := X.virtualBack hx (y := y) (z := y) hown (mvT hZ w1) (mvT hZ w2) (notFace_of_selects (args := #[]) (mvT hZ w3)) (mvT hZ w3) (mvT hZ w4) hy (backOf (W := W) hM hZ wc wz hf hl) qa qc (g := g) hg hsize (Steps.refl _) (argsL := argsL) (rest := rest) hlen hstack hW hdg (fun _ _ => ⟨has, eT, hc, hs⟩)
  dsimp only [Pt.U, Pt.locs, Pt.cells, Pt.slots] at X1 l1 y1 z1 st hQ
  subst l1 y1 z1
  exact ⟨v, T1, Lc, X1, hQ, fun τ kt => st.trans kt⟩
theorem own_spec (X : Stand p l e R s m args below meth c T locs cells slots) (hx : p.tables.exec = Jvm.exec) (hZ : Z.Warmed39 s.vm) {own : String} {index : Nat} {y : MethodName} (hy1 : y.name = "<init>") (hown : s.vm.findClass own = some m.cls)
    (w1 : (Jvm.Cond.methodLink own index y).before a0 Z = true) (w4 : (Jvm.Cond.instanceMethod y).before a0 Z = true)
    (hy : y.cls ≠ "java/lang/invoke/MethodHandle" ∧ y.cls ≠ "java/lang/invoke/VarHandle") {bytes : ByteArray} {maxL : Nat} {rm : Room} {as' : Array Value} {Q : Option Value → Heap → List Loc → Prop}
    (hM : MetFree l y (head1 [Jvm.Cond.code y bytes maxL none] rm) (fun α U => α = as' ∧ Z.Warmed39 U.vm ∧ U.heap = h) (fun _ _ _ _ _ => True) (fun _ U o U' => ∃ v L, o = .returned v ∧ Q v U'.heap L ∧ FrameEnd U o U' L rm.cells rm.slots))
    (wc : (Jvm.Cond.code y bytes maxL none).before a0 Z = true) (wz : (Jvm.Cond.initialized y.cls).before a0 Z = true) (W : Nat) (hf : rm.frames + 1 ≤ R.frames) (hl : W + (maxL + 11) + rm.locals ≤ R.locals)
    {b : Addr} (eT : T.heap = h) (g : JFrame) (hg : g.method = m) (hsize : g.locals.size = c.maxLocals) (argsL rest : List Value) (has : (.ref b :: argsL).toArray = as')
    (hlen : ∀ sig, parseMethodDescriptor y.desc = some sig → argsL.length = sig.parameters.length) (hstack : g.stack = argsL.reverse ++ .ref b :: rest) (hW : 2 * g.monitorRoom + (rest.map fun v => v.category).sum ≤ W)
    (hdg : decode c.code g.pc = .ok (.invokespecial index, 3)) (hc : cells + rm.cells ≤ R.cells) (hs : slots + rm.slots ≤ R.slots) :
    ∃ (v : Option Value) (T' : State) (L : List Loc), Stand p l e R s m args below meth c T' (locs ++ L) (cells + rm.cells) (slots + rm.slots) ∧ Q v T'.heap L ∧
      ∀ τ, Steps p.tables e below (T'.setTop { g with pc := g.pc + 3, stack := v.toList ++ rest }) τ → Steps p.tables e below (T.setTop g) τ := by
  obtain ⟨v, _, ⟨T1, L1, k1, n1⟩, -, X1, ⟨Lc, hQ, l1, y1, z1⟩, st⟩ := X.specialBack hx (y := y) hy1 hown (mvT hZ w1) (mvT hZ w4) (mvT hZ wc) hy (backOf (W := W) hM hZ wc wz hf hl) (g := g) hg hsize (Steps.refl _) (a := b) (argsL := argsL) (rest := rest) hlen hstack hW hdg (fun _ _ => ⟨has, eT, hc, hs⟩)
  dsimp only [Pt.U, Pt.locs, Pt.cells, Pt.slots] at X1 l1 y1 z1 st hQ
  subst l1 y1 z1
  exact ⟨v, T1, Lc, X1, hQ, fun τ kt => st.trans kt⟩
theorem own_stat (X : Stand p l e R s m args below meth c T locs cells slots) (hx : p.tables.exec = Jvm.exec) (hZ : Z.Warmed39 s.vm) {own : String} {index : Nat} {y : MethodName} (hown : s.vm.findClass own = some m.cls)
    (w1 : (Jvm.Cond.methodLink own index y).before a0 Z = true) (w2 : (Jvm.Cond.static y).before a0 Z = true)
    (hy : y.cls ≠ "java/lang/invoke/MethodHandle" ∧ y.cls ≠ "java/lang/invoke/VarHandle") {bytes : ByteArray} {maxL : Nat} {ret : Option FieldType} {rm : Room} {as' : Array Value} {Q : Option Value → Heap → List Loc → Prop}
    (hM : MetFree l y (head1 [Jvm.Cond.code y bytes maxL ret] rm) (fun α U => α = as' ∧ Z.Warmed39 U.vm ∧ U.heap = h) (fun _ _ _ _ _ => True) (fun _ U o U' => ∃ v L, o = .returned v ∧ Q v U'.heap L ∧ FrameEnd U o U' L rm.cells rm.slots))
    (wc : (Jvm.Cond.code y bytes maxL ret).before a0 Z = true) (wz : (Jvm.Cond.initialized y.cls).before a0 Z = true) (W : Nat) (hf : rm.frames + 1 ≤ R.frames) (hl : W + (maxL + 11) + rm.locals ≤ R.locals)
    (eT : T.heap = h) (g : JFrame) (hg : g.method = m) (hsize : g.locals.size = c.maxLocals) (argsL rest : List Value) (has : argsL.toArray = as')
    (hlen : ∀ sig, parseMethodDescriptor y.desc = some sig → argsL.length = sig.parameters.length) (hstack : g.stack = argsL.reverse ++ rest) (hW : 2 * g.monitorRoom + (rest.map fun v => v.category).sum ≤ W)
    (hdg : decode c.code g.pc = .ok (.invokestatic index, 3)) (hc : cells + rm.cells ≤ R.cells) (hs : slots + rm.slots ≤ R.slots) :
    ∃ (v : Option Value) (T' : State) (L : List Loc), Stand p l e R s m args below meth c T' (locs ++ L) (cells + rm.cells) (slots + rm.slots) ∧ Q v T'.heap L ∧
      ∀ τ, Steps p.tables e below (T'.setTop { g with pc := g.pc + 3, stack := v.toList ++ rest }) τ → Steps p.tables e below (T.setTop g) τ := by
  obtain ⟨v, _, ⟨T1, L1, k1, n1⟩, -, X1, ⟨Lc, hQ, l1, y1, z1⟩, st⟩ := Jvm.LawKit.callS X hx (y := y) hown (mvT hZ w1) (mvT hZ w2) (mvT hZ wz) (mvT hZ wc) hy (backOf (W := W) hM hZ wc wz hf hl) (g := g) hg hsize (argsL := argsL) (rest := rest) hlen hstack hW hdg (fun _ _ => ⟨has, eT, hc, hs⟩)
  dsimp only [Pt.U, Pt.locs, Pt.cells, Pt.slots] at X1 l1 y1 z1 st hQ
  subst l1 y1 z1
  exact ⟨v, T1, Lc, X1, hQ, st⟩
end OwnCalls
section OwnHeld
theorem own_isref {v : Value} (q : v = .null ∨ ∃ b, v = .ref b) : v.isRef = true := by rcases q with rfl | ⟨_, rfl⟩ <;> rfl
theorem own_nv {v : Value} {C : String} (q : v = .null ∨ ∃ b, v = .ref b) : narrow (.object C) v = v := by rcases q with rfl | ⟨_, rfl⟩ <;> rfl
theorem own_nvA {v : Value} {t : FieldType} (q : v = .null ∨ ∃ b, v = .ref b) : narrow (.array t) v = v := by rcases q with rfl | ⟨_, rfl⟩ <;> rfl
theorem own_fv {v : Value} {C : String} (q : v = .null ∨ ∃ b, v = .ref b) : fits (.object C) v = true := by rcases q with rfl | ⟨_, rfl⟩ <;> rfl
theorem own_fvA {v : Value} {t : FieldType} (q : v = .null ∨ ∃ b, v = .ref b) : fits (.array t) v = true := by rcases q with rfl | ⟨_, rfl⟩ <;> rfl
variable {p : Program} {l : Launch} {e : Env} {R : Room} {s : State} {m : MethodId} {args : Array Value} {below : List Frame} {meth : Method} {c : Code} {T : State} {locs : List Loc} {cells slots : Nat} {Z : State} {a0 : Array Value} {h : Heap} {EL : List (String × Nat)} {vm vm0 : Vm}
/-- a String whose value is still null is none that the tables book -/
theorem own_safe_null {a : Addr} (hal : Z.vm.Alike vm) (E : Exa Z h a "java/lang/String") (F : Fld Z h a "java/lang/String" "value" "[B" .null) : Safe Z EL vm h a := fun B => by
  obtain ⟨cell, k, e1, e2, e3, -, -⟩ := E
  obtain ⟨cell', cf, kf, i, f, f1, f2, f3, -, -, -, f7⟩ := F
  cases f1.symm.trans e1
  obtain ⟨p, -, u, a', -, q, -, G, rfl | rfl⟩ := B
  · cases (show h[q.sa]? = some q.sC from G.ha).symm.trans e1
    obtain ⟨cS, ⟨⟨-, -, -, ⟨c1, k1, i1, g1, -⟩, -, -, -, v1, -⟩, -⟩, -⟩ := G
    obtain ⟨k3, e4, -⟩ := State.fieldFound?_setVm (s := Z) hal f2
    have e5 := (show (Wst Z vm h).fieldFound? _ _ _ = _ from e4).symm.trans g1
    simp only [Option.some.injEq, Prod.mk.injEq] at e5
    rw [← e5.2.2.2, f7] at v1
    cases v1
  · cases (show h[q.sd]? = some q.SA from G.hd).symm.trans e1
    obtain ⟨cS, -, -, g, -⟩ := G
    have g' : vm.findClass "[B" = some q.SA.cls := g
    rw [hal.findClass] at g'
    obtain ⟨k1, q1, q2⟩ := Vm.findClass_spec g'
    obtain ⟨k2, q3, q4⟩ := Vm.findClass_spec e2
    cases q1.symm.trans q3
    exact absurd (q2.symm.trans q4) (by decide)
/-- a constructor's call by a contract that keeps the invariant of the booked constants -/
theorem own_specH (X : Stand p l e R (s.setVm vm0) m args below meth c T locs cells slots) (hx : p.tables.exec = Jvm.exec) (hZ : Z.Warmed39 vm0) {own : String} {index : Nat} {y : MethodName} (hy1 : y.name = "<init>") (hown : vm0.findClass own = some m.cls)
    (w1 : (Jvm.Cond.methodLink own index y).before a0 Z = true) (w4 : (Jvm.Cond.instanceMethod y).before a0 Z = true)
    (hy : y.cls ≠ "java/lang/invoke/MethodHandle" ∧ y.cls ≠ "java/lang/invoke/VarHandle") {bytes : ByteArray} {maxL : Nat} {rm : Room} {as' : Array Value} {Q : Option Value → Heap → List Loc → Prop}
    (hM : MetFree l y (head1 [Jvm.Cond.code y bytes maxL none] rm) (fun α U => α = as' ∧ Z.Warmed39 U.vm ∧ U.heap = h ∧ CHv Z EL U.vm h) (fun _ _ _ _ _ => True) (fun _ U o U' => ∃ v L, o = .returned v ∧ Q v U'.heap L ∧ CHr Z EL U.vm U.heap U'.vm U'.heap ∧ ReturnedEndW U o U' L rm.cells rm.slots))
    (wc : (Jvm.Cond.code y bytes maxL none).before a0 Z = true) (wz : (Jvm.Cond.initialized y.cls).before a0 Z = true) (W : Nat) (hf : rm.frames + 1 ≤ R.frames) (hl : W + (maxL + 11) + rm.locals ≤ R.locals)
    {k0 : Nat} (hS : s.Since vm0 k0) (hk : k0 ≤ h.size) (hEL : EW Z a0 EL) (H : CHv Z EL vm0 h)
    {b : Addr} (eT : T.heap = h) (g : JFrame) (hg : g.method = m) (hsize : g.locals.size = c.maxLocals) (argsL rest : List Value) (has : (.ref b :: argsL).toArray = as')
    (hlen : ∀ sig, parseMethodDescriptor y.desc = some sig → argsL.length = sig.parameters.length) (hstack : g.stack = argsL.reverse ++ .ref b :: rest) (hW : 2 * g.monitorRoom + (rest.map fun v => v.category).sum ≤ W)
    (hdg : decode c.code g.pc = .ok (.invokespecial index, 3)) (hc : cells + rm.cells ≤ R.cells) (hs : slots + rm.slots ≤ R.slots) :
    ∃ (v : Option Value) (T' : State) (L : List Loc) (k1 : Nat), Stand p l e R (s.setVm T'.vm) m args below meth c T' (locs ++ L) (cells + rm.cells) (slots + rm.slots) ∧ Q v T'.heap L ∧ s.Since T'.vm k1 ∧ k1 ≤ T'.heap.size ∧ Z.Warmed39 (s.setVm T'.vm).vm ∧ (s.setVm T'.vm).vm.findClass own = some m.cls ∧ CHr Z EL vm0 h T'.vm T'.heap ∧
      ∀ τ, Steps p.tables e below (T'.setTop { g with pc := g.pc + 3, stack := v.toList ++ rest }) τ → Steps p.tables e below (T.setTop g) τ := by
  obtain ⟨v, vm1, ⟨T1, L1, k1, n1⟩, -, X1, hS1, hgr, ⟨Lc, hQ, l1, y1, z1, hC⟩, st⟩ := X.specialBackS hx (y := y) hy1 hown (mvT (s := s.setVm vm0) hZ w1) (mvT (s := s.setVm vm0) hZ w4) (mvT (s := s.setVm vm0) hZ wc) hy (backOfSH (W := W) hM hZ wc wz hf hl hEL H) (g := g) hg hsize (Steps.refl _) (a := b) (argsL := argsL) (rest := rest) hlen hstack hW hdg (fun _ _ => ⟨has, eT, hc, hs⟩)
  dsimp only [Pt.U, Pt.locs, Pt.cells, Pt.slots] at X1 l1 y1 z1 st hQ hS1 hgr hC
  subst l1 y1 z1
  have hW1 : Z.Warmed39 T1.vm := State.Warmed39.trans (t := s.setVm vm0) hZ hS1.1
  have hf1 : T1.vm.findClass own = some m.cls := by rw [hS1.1.alike.findClass]; exact hown
  exact ⟨v, T1, Lc, _, X1, hQ, foldS (T := T) hS (by rw [eT]; exact hk) hS1 hgr, Nat.le_refl _, hW1, hf1, hC, fun τ kt => st.trans kt⟩
end OwnHeld
section OwnCalls2
variable {p : Program} {l : Launch} {e : Env} {R : Room} {s : State} {m : MethodId} {args : Array Value} {below : List Frame} {meth : Method} {c : Code} {T : State} {locs : List Loc} {cells slots : Nat} {Z : State} {a0 : Array Value} {h : Heap} {EL : List (String × Nat)} {vm vm0 : Vm}
/-- a virtual call whose lookup lands elsewhere -/
theorem own_virtz (X : Stand p l e R s m args below meth c T locs cells slots) (hx : p.tables.exec = Jvm.exec) (hZ : Z.Warmed39 s.vm) {own C : String} {index : Nat} {y z : MethodName} (hown : s.vm.findClass own = some m.cls)
    (w1 : (Jvm.Cond.methodLink own index y).before a0 Z = true) (w2 : (Jvm.Cond.declares y).before a0 Z = true) (wnf : NotFace s y) (w3 : (Jvm.Cond.selects C y z).before a0 Z = true) (w4 : (Jvm.Cond.instanceMethod z).before a0 Z = true)
    (hy : y.cls ≠ "java/lang/invoke/MethodHandle" ∧ y.cls ≠ "java/lang/invoke/VarHandle") {bytes : ByteArray} {maxL : Nat} {ret : Option FieldType} {rm : Room} {as' : Array Value} {Q : Option Value → Heap → List Loc → Prop}
    (hM : MetFree l z (head1 [Jvm.Cond.code z bytes maxL ret] rm) (fun α U => α = as' ∧ Z.Warmed39 U.vm ∧ U.heap = h) (fun _ _ _ _ _ => True) (fun _ U o U' => ∃ v L, o = .returned v ∧ Q v U'.heap L ∧ FrameEnd U o U' L rm.cells rm.slots))
    (wc : (Jvm.Cond.code z bytes maxL ret).before a0 Z = true) (wz : (Jvm.Cond.initialized z.cls).before a0 Z = true) (W : Nat) (hf : rm.frames + 1 ≤ R.frames) (hl : W + (maxL + 11) + rm.locals ≤ R.locals)
    {b : Addr} (E : Exa Z h b C) (eT : T.heap = h) (g : JFrame) (hg : g.method = m) (hsize : g.locals.size = c.maxLocals) (argsL rest : List Value) (has : (.ref b :: argsL).toArray = as')
    (hlen : ∀ sig, parseMethodDescriptor y.desc = some sig → argsL.length = sig.parameters.length) (hstack : g.stack = argsL.reverse ++ .ref b :: rest) (hW : 2 * g.monitorRoom + (rest.map fun v => v.category).sum ≤ W)
    (hdg : decode c.code g.pc = .ok (.invokevirtual index, 3)) (hc : cells + rm.cells ≤ R.cells) (hs : slots + rm.slots ≤ R.slots) :
    ∃ (v : Option Value) (T' : State) (L : List Loc), Stand p l e R s m args below meth c T' (locs ++ L) (cells + rm.cells) (slots + rm.slots) ∧ Q v T'.heap L ∧
      ∀ τ, Steps p.tables e below (T'.setTop { g with pc := g.pc + 3, stack := v.toList ++ rest }) τ → Steps p.tables e below (T.setTop g) τ := by
  obtain ⟨cq, kq, qa, qb, qc⟩ := isOf hZ eT E
  obtain ⟨v, _, ⟨T1, L1, k1, n1⟩, -, X1, ⟨Lc, hQ, l1, y1, z1⟩, st⟩ := X.virtualBack hx (y := y) (z := z) hown (mvT hZ w1) (mvT hZ w2) wnf (mvT hZ w3) (mvT hZ w4) hy (backOf (W := W) hM hZ wc wz hf hl) qa qc (g := g) hg hsize (Steps.refl _) (argsL := argsL) (rest := rest) hlen hstack hW hdg (fun _ _ => ⟨has, eT, hc, hs⟩)
  dsimp only [Pt.U, Pt.locs, Pt.cells, Pt.slots] at X1 l1 y1 z1 st hQ
  subst l1 y1 z1
  exact ⟨v, T1, Lc, X1, hQ, fun τ kt => st.trans kt⟩
/-- a private method, by invokevirtual -/
theorem own_priv (X : Stand p l e R s m args below meth c T locs cells slots) (hx : p.tables.exec = Jvm.exec) (hZ : Z.Warmed39 s.vm) {own C : String} {index : Nat} {y : MethodName} (hown : s.vm.findClass own = some m.cls)
    (w1 : (Jvm.Cond.methodLink own index y).before a0 Z = true) (w2 : (Jvm.Cond.privateMethod y).before a0 Z = true) (w3 : (Jvm.Cond.selects C y y).before a0 Z = true) (w4 : (Jvm.Cond.instanceMethod y).before a0 Z = true)
    (hy : y.cls ≠ "java/lang/invoke/MethodHandle" ∧ y.cls ≠ "java/lang/invoke/VarHandle") {bytes : ByteArray} {maxL : Nat} {ret : Option FieldType} {rm : Room} {as' : Array Value} {Q : Option Value → Heap → List Loc → Prop}
    (hM : MetFree l y (head1 [Jvm.Cond.code y bytes maxL ret] rm) (fun α U => α = as' ∧ Z.Warmed39 U.vm ∧ U.heap = h) (fun _ _ _ _ _ => True) (fun _ U o U' => ∃ v L, o = .returned v ∧ Q v U'.heap L ∧ FrameEnd U o U' L rm.cells rm.slots))
    (wc : (Jvm.Cond.code y bytes maxL ret).before a0 Z = true) (wz : (Jvm.Cond.initialized y.cls).before a0 Z = true) (W : Nat) (hf : rm.frames + 1 ≤ R.frames) (hl : W + (maxL + 11) + rm.locals ≤ R.locals)
    {b : Addr} (E : Exa Z h b C) (eT : T.heap = h) (g : JFrame) (hg : g.method = m) (hsize : g.locals.size = c.maxLocals) (argsL rest : List Value) (has : (.ref b :: argsL).toArray = as')
    (hlen : ∀ sig, parseMethodDescriptor y.desc = some sig → argsL.length = sig.parameters.length) (hstack : g.stack = argsL.reverse ++ .ref b :: rest) (hW : 2 * g.monitorRoom + (rest.map fun v => v.category).sum ≤ W)
    (hdg : decode c.code g.pc = .ok (.invokevirtual index, 3)) (hc : cells + rm.cells ≤ R.cells) (hs : slots + rm.slots ≤ R.slots) :
    ∃ (v : Option Value) (T' : State) (L : List Loc), Stand p l e R s m args below meth c T' (locs ++ L) (cells + rm.cells) (slots + rm.slots) ∧ Q v T'.heap L ∧
      ∀ τ, Steps p.tables e below (T'.setTop { g with pc := g.pc + 3, stack := v.toList ++ rest }) τ → Steps p.tables e below (T.setTop g) τ := by
  obtain ⟨mk, methM, hnamed, hmethM, hstM, habM⟩ := Cond.instanceMethod_spec (mv (args := args) hZ w4)
  obtain ⟨methM', cM, hmethM', -, -, -, -, -, -, hsigM⟩ := Cond.code_spec hnamed (mv (args := args) hZ wc)
  cases hmethM.symm.trans hmethM'
  obtain ⟨c2, r2, m2, -, -, q3, -, kP, hkP, hkPi⟩ := Cond.selects_spec (mv (args := args) hZ w3)
  cases hnamed.symm.trans q3
  obtain ⟨cell, k, e1, e2, e3, e4, -⟩ := E
  have hpriv : s.PrivateAt y := Cond.privateMethod_at (mv (args := args) hZ w2)
  have hselP : selectMethod e.platform s.vm cell.cls mk = .method mk := selectMethod_private hmethM (hpriv mk methM hnamed hmethM)
  obtain ⟨vm₁, X₁, hstep₁⟩ := X.invokevirtual hx hown (mv (args := args) hZ w1) hnamed hmethM hstM hkP hkPi hy (a := b) (cell := cell) (by rw [eT]; exact e1) (fun q r => by rw [r] at e4; cases e4) hselP hmethM habM hkP hkPi (g := g) hg (argsL := argsL) (rest := rest) (hlen _ hsigM) hstack hdg
  obtain ⟨v, ⟨T1, L1, k1, n1⟩, X1, ⟨Lc, hQ, l1, y1, z1⟩, hsteps⟩ := (backOf (W := W) (len := 3) (e := e) (below := below) (p := p) (args := args) hM hZ wc wz hf hl) m meth c ⟨T.setVm vm₁, locs, cells, slots⟩ { g with stack := rest } (.invokevirtual index) mk (.ref b :: argsL).toArray X₁ hg hsize hdg hW (X₁.named hnamed) ⟨has, eT, hc, hs⟩
  dsimp only [Pt.U, Pt.locs, Pt.cells, Pt.slots] at X1 l1 y1 z1 hsteps hQ
  subst l1 y1 z1
  exact ⟨v, T1, Lc, X1, hQ, fun τ kt => (hstep₁ _ fun acts => by rw [doInvoke_state]; exact Steps.refl _).trans (hsteps.trans kt)⟩
theorem own_same {y y2 : MethodName} {C : String} (h1 : y.cls ≠ "java/lang/invoke/MethodHandle" ∧ y.cls ≠ "java/lang/invoke/VarHandle") (w1 : (Jvm.Cond.instanceMethod y).before a0 Z = true) (w2 : (Jvm.Cond.selects C y2 y2).before a0 Z = true) (hc : y2.cls = y.cls) : (Jvm.Cond.sameMethod y.cls y.cls y.name y.desc).before a0 Z = true := by
  obtain ⟨mk, methM, hnamed, hmethM, hstM, habM⟩ := Cond.instanceMethod_spec w1
  obtain ⟨c2, r2, m2, -, -, q3, -, kP, hkP, hkPi⟩ := Cond.selects_spec w2
  have f1 := findClass_of_methodNamed hnamed
  have f2 := findClass_of_methodNamed q3
  rw [hc] at f2
  have f3 : m2.cls = mk.cls := Option.some.inj (f2.symm.trans f1)
  have f4 := State.methodFound?_of_named hnamed h1
  rw [f3] at hkP
  simp only [Cond.before, Cond.holds, Cond.value, f1, f4]
  rw [show (⟨y.cls, y.name, y.desc⟩ : MethodName) = y from rfl, hnamed]
  simp [hkP, hkPi]
theorem own_super (X : Stand p l e R s m args below meth c T locs cells slots) (hx : p.tables.exec = Jvm.exec) (hZ : Z.Warmed39 s.vm) {own C : String} {index : Nat} {y : MethodName} (hown : s.vm.findClass own = some m.cls)
    (w1 : (Jvm.Cond.methodLink own index y).before a0 Z = true) (w2 : (Jvm.Cond.sameMethod y.cls y.cls y.name y.desc).before a0 Z = true) (w3 : (Jvm.Cond.instanceMethod y).before a0 Z = true) (w4 : (Jvm.Cond.superclass own y.cls).before a0 Z = true) (hn : y.name ≠ "<init>")
    {bytes : ByteArray} {maxL : Nat} {ret : Option FieldType} {rm : Room} {as' : Array Value} {Q : Option Value → Heap → List Loc → Prop}
    (hM : MetFree l y (head1 [Jvm.Cond.code y bytes maxL ret] rm) (fun α U => α = as' ∧ Z.Warmed39 U.vm ∧ U.heap = h) (fun _ _ _ _ _ => True) (fun _ U o U' => ∃ v L, o = .returned v ∧ Q v U'.heap L ∧ FrameEnd U o U' L rm.cells rm.slots))
    (wc : (Jvm.Cond.code y bytes maxL ret).before a0 Z = true) (wz : (Jvm.Cond.initialized y.cls).before a0 Z = true) (W : Nat) (hf : rm.frames + 1 ≤ R.frames) (hl : W + (maxL + 11) + rm.locals ≤ R.locals)
    {b : Addr} (E : Exa Z h b C) (eT : T.heap = h) (g : JFrame) (hg : g.method = m) (hsize : g.locals.size = c.maxLocals) (argsL rest : List Value) (has : (.ref b :: argsL).toArray = as')
    (hlen : ∀ sig, parseMethodDescriptor y.desc = some sig → argsL.length = sig.parameters.length) (hstack : g.stack = argsL.reverse ++ .ref b :: rest) (hW : 2 * g.monitorRoom + (rest.map fun v => v.category).sum ≤ W)
    (hdg : decode c.code g.pc = .ok (.invokespecial index, 3)) (hc : cells + rm.cells ≤ R.cells) (hs : slots + rm.slots ≤ R.slots) :
    ∃ (v : Option Value) (T' : State) (L : List Loc), Stand p l e R s m args below meth c T' (locs ++ L) (cells + rm.cells) (slots + rm.slots) ∧ Q v T'.heap L ∧
      ∀ τ, Steps p.tables e below (T'.setTop { g with pc := g.pc + 3, stack := v.toList ++ rest }) τ → Steps p.tables e below (T.setTop g) τ := by
  obtain ⟨v, _, ⟨T1, L1, k1, n1⟩, -, X1, ⟨Lc, hQ, l1, y1, z1⟩, st⟩ := superBack X hx hZ hown w1 w2 w3 w4 hn (backOf (W := W) hM hZ wc wz hf hl) eT (Ins.self E) (g := g) hg hsize wc (argsL := argsL) (rest := rest) hlen hstack hW hdg (fun _ _ => ⟨has, eT, hc, hs⟩)
  dsimp only [Pt.U, Pt.locs, Pt.cells, Pt.slots] at X1 l1 y1 z1 st hQ
  subst l1 y1 z1
  exact ⟨v, T1, Lc, X1, hQ, fun τ kt => st.trans kt⟩
/-- a static call by a contract that keeps the invariant of the booked constants -/
theorem own_statH (X : Stand p l e R (s.setVm vm0) m args below meth c T locs cells slots) (hx : p.tables.exec = Jvm.exec) (hZ : Z.Warmed39 vm0) {own : String} {index : Nat} {y : MethodName} (hown : vm0.findClass own = some m.cls)
    (w1 : (Jvm.Cond.methodLink own index y).before a0 Z = true) (w4 : (Jvm.Cond.static y).before a0 Z = true)
    (hy : y.cls ≠ "java/lang/invoke/MethodHandle" ∧ y.cls ≠ "java/lang/invoke/VarHandle") {bytes : ByteArray} {maxL : Nat} {ret : Option FieldType} {rm : Room} {as' : Array Value} {Q : Option Value → Heap → List Loc → Prop}
    (hM : MetFree l y (head1 [Jvm.Cond.code y bytes maxL ret] rm) (fun α U => α = as' ∧ Z.Warmed39 U.vm ∧ U.heap = h ∧ CHv Z EL U.vm h) (fun _ _ _ _ _ => True) (fun _ U o U' => ∃ v L, o = .returned v ∧ Q v U'.heap L ∧ CHr Z EL U.vm U.heap U'.vm U'.heap ∧ ReturnedEndW U o U' L rm.cells rm.slots))
    (wc : (Jvm.Cond.code y bytes maxL ret).before a0 Z = true) (wz : (Jvm.Cond.initialized y.cls).before a0 Z = true) (W : Nat) (hf : rm.frames + 1 ≤ R.frames) (hl : W + (maxL + 11) + rm.locals ≤ R.locals)
    {k0 : Nat} (hS : s.Since vm0 k0) (hk : k0 ≤ h.size) (hEL : EW Z a0 EL) (H : CHv Z EL vm0 h)
    (eT : T.heap = h) (g : JFrame) (hg : g.method = m) (hsize : g.locals.size = c.maxLocals) (argsL rest : List Value) (has : argsL.toArray = as')
    (hlen : ∀ sig, parseMethodDescriptor y.desc = some sig → argsL.length = sig.parameters.length) (hstack : g.stack = argsL.reverse ++ rest) (hW : 2 * g.monitorRoom + (rest.map fun v => v.category).sum ≤ W)
    (hdg : decode c.code g.pc = .ok (.invokestatic index, 3)) (hc : cells + rm.cells ≤ R.cells) (hs : slots + rm.slots ≤ R.slots) :
    ∃ (v : Option Value) (T' : State) (L : List Loc) (k1 : Nat), Stand p l e R (s.setVm T'.vm) m args below meth c T' (locs ++ L) (cells + rm.cells) (slots + rm.slots) ∧ Q v T'.heap L ∧ s.Since T'.vm k1 ∧ k1 ≤ T'.heap.size ∧ Z.Warmed39 (s.setVm T'.vm).vm ∧ (s.setVm T'.vm).vm.findClass own = some m.cls ∧ CHr Z EL vm0 h T'.vm T'.heap ∧
      ∀ τ, Steps p.tables e below (T'.setTop { g with pc := g.pc + 3, stack := v.toList ++ rest }) τ → Steps p.tables e below (T.setTop g) τ := by
  obtain ⟨v, vm1, ⟨T1, L1, k1, n1⟩, -, X1, hS1, hgr, ⟨Lc, hQ, l1, y1, z1, hC⟩, st⟩ := callSS X hx (y := y) hown (mvT (s := s.setVm vm0) hZ w1) (mvT (s := s.setVm vm0) hZ w4) (mvT (s := s.setVm vm0) hZ wz) (mvT (s := s.setVm vm0) hZ wc) hy (backOfSH (W := W) hM hZ wc wz hf hl hEL H) (g := g) hg hsize (argsL := argsL) (rest := rest) hlen hstack hW hdg (fun _ _ => ⟨has, eT, hc, hs⟩)
  dsimp only [Pt.U, Pt.locs, Pt.cells, Pt.slots] at X1 l1 y1 z1 st hQ hS1 hgr hC
  subst l1 y1 z1
  have hW1 : Z.Warmed39 T1.vm := State.Warmed39.trans (t := s.setVm vm0) hZ hS1.1
  have hf1 : T1.vm.findClass own = some m.cls := by rw [hS1.1.alike.findClass]; exact hown
  exact ⟨v, T1, Lc, _, X1, hQ, foldS (T := T) hS (by rw [eT]; exact hk) hS1 hgr, Nat.le_refl _, hW1, hf1, hC, fun τ kt => st.trans kt⟩
theorem own_virtH (X : Stand p l e R (s.setVm vm0) m args below meth c T locs cells slots) (hx : p.tables.exec = Jvm.exec) (hZ : Z.Warmed39 vm0) {own C : String} {index : Nat} {y : MethodName} (hown : vm0.findClass own = some m.cls)
    (w1 : (Jvm.Cond.methodLink own index y).before a0 Z = true) (w2 : (Jvm.Cond.declares y).before a0 Z = true) (w3 : (Jvm.Cond.selects C y y).before a0 Z = true) (w4 : (Jvm.Cond.instanceMethod y).before a0 Z = true)
    (hy : y.cls ≠ "java/lang/invoke/MethodHandle" ∧ y.cls ≠ "java/lang/invoke/VarHandle") {bytes : ByteArray} {maxL : Nat} {ret : Option FieldType} {rm : Room} {as' : Array Value} {Q : Option Value → Heap → List Loc → Prop}
    (hM : MetFree l y (head1 [Jvm.Cond.code y bytes maxL ret] rm) (fun α U => α = as' ∧ Z.Warmed39 U.vm ∧ U.heap = h ∧ CHv Z EL U.vm h) (fun _ _ _ _ _ => True) (fun _ U o U' => ∃ v L, o = .returned v ∧ Q v U'.heap L ∧ CHr Z EL U.vm U.heap U'.vm U'.heap ∧ ReturnedEndW U o U' L rm.cells rm.slots))
    (wc : (Jvm.Cond.code y bytes maxL ret).before a0 Z = true) (wz : (Jvm.Cond.initialized y.cls).before a0 Z = true) (W : Nat) (hf : rm.frames + 1 ≤ R.frames) (hl : W + (maxL + 11) + rm.locals ≤ R.locals)
    {k0 : Nat} (hS : s.Since vm0 k0) (hk : k0 ≤ h.size) (hEL : EW Z a0 EL) (H : CHv Z EL vm0 h)
    {b : Addr} (E : Exa Z h b C) (eT : T.heap = h) (g : JFrame) (hg : g.method = m) (hsize : g.locals.size = c.maxLocals) (argsL rest : List Value) (has : (.ref b :: argsL).toArray = as')
    (hlen : ∀ sig, parseMethodDescriptor y.desc = some sig → argsL.length = sig.parameters.length) (hstack : g.stack = argsL.reverse ++ .ref b :: rest) (hW : 2 * g.monitorRoom + (rest.map fun v => v.category).sum ≤ W)
    (hdg : decode c.code g.pc = .ok (.invokevirtual index, 3)) (hc : cells + rm.cells ≤ R.cells) (hs : slots + rm.slots ≤ R.slots) :
    ∃ (v : Option Value) (T' : State) (L : List Loc) (k1 : Nat), Stand p l e R (s.setVm T'.vm) m args below meth c T' (locs ++ L) (cells + rm.cells) (slots + rm.slots) ∧ Q v T'.heap L ∧ s.Since T'.vm k1 ∧ k1 ≤ T'.heap.size ∧ Z.Warmed39 (s.setVm T'.vm).vm ∧ (s.setVm T'.vm).vm.findClass own = some m.cls ∧ CHr Z EL vm0 h T'.vm T'.heap ∧
      ∀ τ, Steps p.tables e below (T'.setTop { g with pc := g.pc + 3, stack := v.toList ++ rest }) τ → Steps p.tables e below (T.setTop g) τ := by
  obtain ⟨cq, kq, qa, qb, qc⟩ := isOf (s := s.setVm vm0) hZ eT E
  obtain ⟨v, vm1, ⟨T1, L1, k1, n1⟩, -, X1, hS1, hgr, ⟨Lc, hQ, l1, y1, z1, hC⟩, st⟩ := X.virtualBackS hx (y := y) (z := y) hown (mvT (s := s.setVm vm0) hZ w1) (mvT (s := s.setVm vm0) hZ w2) (notFace_of_selects (args := #[]) (mvT (s := s.setVm vm0) hZ w3)) (mvT (s := s.setVm vm0) hZ w3) (mvT (s := s.setVm vm0) hZ w4) hy (backOfSH (W := W) hM hZ wc wz hf hl hEL H) qa qc (g := g) hg hsize (Steps.refl _) (argsL := argsL) (rest := rest) hlen hstack hW hdg (fun _ _ => ⟨has, eT, hc, hs⟩)
  dsimp only [Pt.U, Pt.locs, Pt.cells, Pt.slots] at X1 l1 y1 z1 st hQ hS1 hgr hC
  subst l1 y1 z1
  have hW1 : Z.Warmed39 T1.vm := State.Warmed39.trans (t := s.setVm vm0) hZ hS1.1
  have hf1 : T1.vm.findClass own = some m.cls := by rw [hS1.1.alike.findClass]; exact hown
  exact ⟨v, T1, Lc, _, X1, hQ, foldS (T := T) hS (by rw [eT]; exact hk) hS1 hgr, Nat.le_refl _, hW1, hf1, hC, fun τ kt => st.trans kt⟩
/-- an array's list may be told otherwise where the places agree -/
theorem own_arv {h : Heap} {a : Addr} {k : ClassId} {ty : FieldType} {z : Int32} {vs vs' : List Value} {d : Value} (A : Arv Z h a k ty z vs d) (q : ∀ i, i < z.toNatClampNeg → vs'.getD i d = vs.getD i d) : Arv Z h a k ty z vs' d := by
  obtain ⟨cl, A1, A2, A3, A4, A5, A6⟩ := A
  exact ⟨cl, A1, A2, A3, A4, fun i hi => by rw [q i (by omega)]; exact A5 i hi, fun i hi => by rw [q i (by omega)]; exact A6 i hi⟩
theorem own_nf {y y2 : MethodName} {C : String} (w2 : (Jvm.Cond.selects C y2 y2).before args s = true) (hc : y2.cls = y.cls) : NotFace s y := fun r0 h0 => by
  obtain ⟨c2, r2, m2, -, -, q3, -, kP, hkP, hkPi⟩ := Cond.selects_spec w2
  have f1 := findClass_of_methodNamed h0
  have f2 := findClass_of_methodNamed q3
  rw [hc] at f2
  have f3 : m2.cls = r0.cls := Option.some.inj (f2.symm.trans f1)
  exact ⟨kP, f3 ▸ hkP, hkPi⟩
theorem own_arv_nn {h : Heap} {a : Addr} {k : ClassId} {ty : FieldType} {z : Int32} {vs : List Value} {d : Value} (A : Arv Z h a k ty z vs d) : ¬ z < 0 := by
  obtain ⟨cl, A1, A2, A3, A4, A5, A6⟩ := A
  exact A4
end OwnCalls2
section OwnCat
theorem own_isr {v : Value} (h : v.isRef = true) : v = .null ∨ ∃ b, v = .ref b := by
  cases v with
  | null => exact Or.inl rfl
  | ref b => exact Or.inr ⟨b, rfl⟩
  | int _ => cases h
  | long _ => cases h
  | float _ => cases h
  | double _ => cases h
  | retAddr _ => cases h
theorem own_shr0 (z : Int32) : z >>> ((0 : Int32) &&& 31) = z := by rw [show ((0 : Int32) &&& 31) = 0 by decide]; exact Int32.shiftRight_zero
theorem own_shl0 (z : Int32) : z <<< ((0 : Int32) &&& 31) = z := by rw [show ((0 : Int32) &&& 31) = 0 by decide]; exact Int32.shiftLeft_zero
theorem own_sub0 (z : Int32) : z - (0 : Int32) = z := Int32.sub_zero z
/-- what arraycopy leaves -/
def own_cpl (vd vs : List Value) (sp dp nn : Int32) : List Value := vd.take dp.toNatClampNeg ++ ((List.range nn.toNatClampNeg).map fun i => vs.getD (sp.toNatClampNeg + i) (.int 0)) ++ vd.drop (dp.toNatClampNeg + nn.toNatClampNeg)
theorem own_cpl_len {vd vs : List Value} {sp dp nn : Int32} (h : dp.toNatClampNeg + nn.toNatClampNeg ≤ vd.length) : (own_cpl vd vs sp dp nn).length = vd.length := by
  unfold own_cpl
  simp only [List.length_append, List.length_take, List.length_map, List.length_range, List.length_drop]
  omega
def own_min (a b : Int32) : Int32 := if b < a then b else a
def own_z16 : List Value := [.int 0, .int 0, .int 0, .int 0, .int 0, .int 0, .int 0, .int 0, .int 0, .int 0, .int 0, .int 0, .int 0, .int 0, .int 0, .int 0]
/-- the char (or byte) at place i of the expected text -/
def own_x (i pn p0 p1 m0 m1 : Int32) : Int32 := if pn = 0 then (if i = 0 then m0 else m1) else if i < pn then (if i = 0 then p0 else p1) else if i = pn then 58 else if i = pn + 1 then 32 else if (i - pn) - 2 = 0 then m0 else m1
def own_pk (i c0 c1 : Int32) : Int32 := if i = 0 then c0 else c1
/-- a char's byte, and back -/
def own_b (c : Int32) : Int32 := c.toInt8.toInt32
def own_ch (b : Int32) : Int32 := ((b &&& (255 : Int32))).toUInt32.toUInt16.toUInt32.toInt32
def own_c8 (x : Int32) : Prop := ∃ k : Fin 256, x = Int32.ofNat k.val
theorem own_c8_of (x : Int32) : own_c8 ((x &&& (255 : Int32)).toUInt32.toUInt16.toUInt32.toInt32) := by
  have h : (x &&& 255).toBitVec.toNat < 256 := by
    simp only [Int32.toBitVec_and, BitVec.toNat_and]
    exact Nat.lt_succ_of_le Nat.and_le_right
  have e : (x &&& 255) = Int32.ofNat (x &&& 255).toBitVec.toNat := by
    apply Int32.toBitVec_inj.mp
    show _ = BitVec.ofNat 32 _
    rw [BitVec.ofNat_toNat]; simp
  have t : ∀ k : Fin 256, (Int32.ofNat k.val).toUInt32.toUInt16.toUInt32.toInt32 = Int32.ofNat k.val := by decide +kernel
  exact ⟨⟨_, h⟩, (congrArg (fun z : Int32 => z.toUInt32.toUInt16.toUInt32.toInt32) e).trans (t ⟨_, h⟩)⟩
theorem own_c8_nar {x : Int32} (h : own_c8 x) : nar .char x = x ∧ ¬ x < 0 ∧ ¬ (255 : Int32) < x := by
  obtain ⟨k, rfl⟩ := h
  have t : ∀ k : Fin 256, nar .char (Int32.ofNat k.val) = Int32.ofNat k.val ∧ ¬ Int32.ofNat k.val < 0 ∧ ¬ (255 : Int32) < Int32.ofNat k.val := by decide +kernel
  exact t k
theorem own_ch_b {x : Int32} (h : own_c8 x) : own_ch (own_b x) = x := by
  obtain ⟨k, rfl⟩ := h
  have t : ∀ k : Fin 256, own_ch (own_b (Int32.ofNat k.val)) = Int32.ofNat k.val := by decide +kernel
  exact t k
theorem own_c8_ch (b : Int32) : own_c8 (own_ch b) := own_c8_of b
theorem own_nar_ch (b : Int32) : nar .char (own_ch b) = own_ch b := (own_c8_nar (own_c8_ch b)).1
theorem own_nar_pk {i c0 c1 : Int32} (h0 : nar .char c0 = c0) (h1 : nar .char c1 = c1) : nar .char (own_pk i c0 c1) = own_pk i c0 c1 := by
  unfold own_pk
  split
  · exact h0
  · exact h1
theorem own_ch_x {i pn p0 p1 m0 m1 : Int32} (h0 : own_c8 p0) (h1 : own_c8 p1) (h2 : own_c8 m0) (h3 : own_c8 m1) : own_ch (own_x i pn (own_b p0) (own_b p1) (own_b m0) (own_b m1)) = own_x i pn p0 p1 m0 m1 := by
  unfold own_x
  split
  · split
    · exact own_ch_b h2
    · exact own_ch_b h3
  · split
    · split
      · exact own_ch_b h0
      · exact own_ch_b h1
    · split
      · decide
      · split
        · decide
        · split
          · exact own_ch_b h2
          · exact own_ch_b h3
def own_12 (n : Int32) : Prop := n = 1 ∨ n = 2
def own_012 (n : Int32) : Prop := n = 0 ∨ n = 1 ∨ n = 2
theorem own_rem3 (x : Int32) : own_012 ((x &&& (3 : Int32)) % (3 : Int32)) := by
  have h := (c_irem (x &&& 3) 3 3 (by decide)).1 (c_and x 3 (by decide)).1
  generalize (x &&& (3 : Int32)) % (3 : Int32) = u at *
  have : u.toInt = 0 ∨ u.toInt = 1 ∨ u.toInt = 2 := by omega
  rcases this with h | h | h
  · exact Or.inl (Int32.toInt_inj.mp h)
  · exact Or.inr (Or.inl (Int32.toInt_inj.mp h))
  · exact Or.inr (Or.inr (Int32.toInt_inj.mp h))
theorem own_n12 {n : Int32} (h : own_012 n) (q : ¬ n = 0) : own_12 n := h.resolve_left q
/-- the room in the builder -/
theorem own_cap1 {n : Int32} (h : own_12 n) : ¬ ((0 : Int32) < (((0 : Int32) + n) - ((16 : Int32) >>> ((0 : Int32) &&& 31)))) ∧ ¬ (0 : Int32) < 0 ∧ (0 : Int32).toNatClampNeg + n.toNatClampNeg ≤ 16 := by
  rcases h with rfl | rfl <;> decide
theorem own_cap2 {n : Int32} (h : own_12 n) : ¬ ((0 : Int32) < ((((0 : Int32) + n) + (2 : Int32)) - ((16 : Int32) >>> ((0 : Int32) &&& 31)))) ∧ ¬ ((0 : Int32) + n) < 0 ∧ ((0 : Int32) + n).toNatClampNeg + (2 : Int32).toNatClampNeg ≤ 16 := by
  rcases h with rfl | rfl <;> decide
theorem own_cap3 {n k : Int32} (h : own_12 n) (h' : own_012 k) : ¬ ((0 : Int32) < (((((0 : Int32) + n) + (2 : Int32)) + k) - ((16 : Int32) >>> ((0 : Int32) &&& 31)))) ∧ ¬ (((0 : Int32) + n) + (2 : Int32)) < 0 ∧ (((0 : Int32) + n) + (2 : Int32)).toNatClampNeg + k.toNatClampNeg ≤ 16 := by
  rcases h with rfl | rfl <;> rcases h' with rfl | rfl | rfl <;> decide
theorem own_cap4 {n k : Int32} (h : own_12 n) (h' : own_012 k) : ¬ ((((0 : Int32) + n) + (2 : Int32)) + k) < 0 ∧ ((((0 : Int32) + n) + (2 : Int32)) + k).toNatClampNeg ≤ 16 ∧ ¬ ((((0 : Int32) + n) + (2 : Int32)) + k) = 16 := by
  rcases h with rfl | rfl <;> rcases h' with rfl | rfl | rfl <;> decide
theorem own_min16 {n : Int32} (h0 : ¬ n < 0) (h : n.toNatClampNeg ≤ 16) : own_min (16 : Int32) n = n := by
  unfold own_min
  split
  · rfl
  · rename_i q
    rw [Int32.lt_iff_toInt_lt] at q h0
    have e : (16 : Int32).toInt = 16 := by decide
    have e0 : (0 : Int32).toInt = 0 := by decide
    have : n.toInt = (n.toNatClampNeg : Int) := by simp only [Int32.toNatClampNeg]; omega
    exact Int32.toInt_inj.mp (by omega)
abbrev own_xs (pn p0 p1 m0 m1 : Int32) : List Value := [.int (own_x 0 pn p0 p1 m0 m1), .int (own_x 1 pn p0 p1 m0 m1), .int (own_x 2 pn p0 p1 m0 m1), .int (own_x 3 pn p0 p1 m0 m1), .int (own_x 4 pn p0 p1 m0 m1), .int (own_x 5 pn p0 p1 m0 m1)]
theorem own_list0 {n p0 p1 m0 m1 : Int32} (h : own_012 n) : ∀ i, i < n.toNatClampNeg → (own_xs 0 p0 p1 m0 m1).getD i (.int 0) = ([.int m0, .int m1] : List Value).getD i (.int 0) := by
  intro i hi
  rcases h with rfl | rfl | rfl
  · exact absurd hi (by rw [show (0 : Int32).toNatClampNeg = 0 by decide]; omega)
  · rw [show (1 : Int32).toNatClampNeg = 1 by decide] at hi
    match i, hi with
    | 0, _ => rfl
  · rw [show (2 : Int32).toNatClampNeg = 2 by decide] at hi
    match i, hi with
    | 0, _ => rfl
    | 1, _ => rfl
/-- the text that the builder makes -/
theorem own_list1 {n k p0 p1 m0 m1 : Int32} (h : own_12 n) (h' : own_012 k) : ∀ i, i < ((((0 : Int32) + n) + (2 : Int32)) + k).toNatClampNeg → (own_xs n p0 p1 m0 m1).getD i (.int 0) =
    (own_cpl own_z16 (own_cpl (own_cpl (own_cpl own_z16 [.int p0, .int p1] 0 (0 : Int32) n) [.int 58, .int 32] 0 ((0 : Int32) + n) (2 : Int32)) [.int m0, .int m1] 0 (((0 : Int32) + n) + (2 : Int32)) k) 0 0 ((((0 : Int32) + n) + (2 : Int32)) + k)).getD i (.int 0) := by
  intro i hi
  rcases h with rfl | rfl <;> rcases h' with rfl | rfl | rfl
  · rw [show ((((0 : Int32) + 1) + (2 : Int32)) + 0).toNatClampNeg = 3 by decide] at hi
    match i, hi with
    | 0, _ => rfl
    | 1, _ => rfl
    | 2, _ => rfl
  · rw [show ((((0 : Int32) + 1) + (2 : Int32)) + 1).toNatClampNeg = 4 by decide] at hi
    match i, hi with
    | 0, _ => rfl
    | 1, _ => rfl
    | 2, _ => rfl
    | 3, _ => rfl
  · rw [show ((((0 : Int32) + 1) + (2 : Int32)) + 2).toNatClampNeg = 5 by decide] at hi
    match i, hi with
    | 0, _ => rfl
    | 1, _ => rfl
    | 2, _ => rfl
    | 3, _ => rfl
    | 4, _ => rfl
  · rw [show ((((0 : Int32) + 2) + (2 : Int32)) + 0).toNatClampNeg = 4 by decide] at hi
    match i, hi with
    | 0, _ => rfl
    | 1, _ => rfl
    | 2, _ => rfl
    | 3, _ => rfl
  · rw [show ((((0 : Int32) + 2) + (2 : Int32)) + 1).toNatClampNeg = 5 by decide] at hi
    match i, hi with
    | 0, _ => rfl
    | 1, _ => rfl
    | 2, _ => rfl
    | 3, _ => rfl
    | 4, _ => rfl
  · rw [show ((((0 : Int32) + 2) + (2 : Int32)) + 2).toNatClampNeg = 6 by decide] at hi
    match i, hi with
    | 0, _ => rfl
    | 1, _ => rfl
    | 2, _ => rfl
    | 3, _ => rfl
    | 4, _ => rfl
    | 5, _ => rfl
theorem own_len {n k : Int32} : (((0 : Int32) + n) + (2 : Int32)) + k = (n + (2 : Int32)) + k := by rw [Int32.zero_add]
end OwnCat
abbrev EL : List (String × Nat) := [("com/example/incomewright/incomewright/casefile/Problem", 7), ("com/example/incomewright/incomewright/casefile/Problem", 22), ("com/example/incomewright/incomewright/casefile/Problem", 37), ("java/lang/String", 7)]
theorem own_pd___C_V : parseMethodDescriptor "([C)V" = some ⟨[(.array .char)], none⟩ := by decide +kernel
theorem own_pd___CIILjava_lang_Void__V : parseMethodDescriptor "([CIILjava/lang/Void;)V" = some ⟨[(.array .char), .int, .int, (.object "java/lang/Void")], none⟩ := by decide +kernel
theorem own_pd___V : parseMethodDescriptor "()V" = some ⟨[], none⟩ := by decide +kernel
theorem own_pd___Z : parseMethodDescriptor "()Z" = some ⟨[], some .boolean⟩ := by decide +kernel
theorem own_pd___B : parseMethodDescriptor "()B" = some ⟨[], some .byte⟩ := by decide +kernel
theorem own_pd___I : parseMethodDescriptor "()I" = some ⟨[], some .int⟩ := by decide +kernel
theorem own_pd__I_V : parseMethodDescriptor "(I)V" = some ⟨[.int], none⟩ := by decide +kernel
theorem own_pd__II_V : parseMethodDescriptor "(II)V" = some ⟨[.int, .int], none⟩ := by decide +kernel
theorem own_pd__II_I : parseMethodDescriptor "(II)I" = some ⟨[.int, .int], some .int⟩ := by decide +kernel
theorem own_pd___BII__B : parseMethodDescriptor "([BII)[B" = some ⟨[(.array .byte), .int, .int], some (.array .byte)⟩ := by decide +kernel
theorem own_pd___BIB_V : parseMethodDescriptor "([BIB)V" = some ⟨[(.array .byte), .int, .byte], none⟩ := by decide +kernel
theorem own_pd__ILjava_lang_String__V : parseMethodDescriptor "(ILjava/lang/String;)V" = some ⟨[.int, (.object "java/lang/String")], none⟩ := by decide +kernel
theorem own_pd__Ljava_lang_String__V : parseMethodDescriptor "(Ljava/lang/String;)V" = some ⟨[(.object "java/lang/String")], none⟩ := by decide +kernel
theorem own_pd__Ljava_lang_String__Ljava_lang_StringBuilder_ : parseMethodDescriptor "(Ljava/lang/String;)Ljava/lang/StringBuilder;" = some ⟨[(.object "java/lang/String")], some (.object "java/lang/StringBuilder")⟩ := by decide +kernel
theorem own_pd__Ljava_lang_String__Ljava_lang_AbstractStringBuilder_ : parseMethodDescriptor "(Ljava/lang/String;)Ljava/lang/AbstractStringBuilder;" = some ⟨[(.object "java/lang/String")], some (.object "java/lang/AbstractStringBuilder")⟩ := by decide +kernel
theorem own_pd__Ljava_lang_StringBuilder__V : parseMethodDescriptor "(Ljava/lang/StringBuilder;)V" = some ⟨[(.object "java/lang/StringBuilder")], none⟩ := by decide +kernel
theorem own_pd__Ljava_lang_AbstractStringBuilder_Ljava_lang_Void__V : parseMethodDescriptor "(Ljava/lang/AbstractStringBuilder;Ljava/lang/Void;)V" = some ⟨[(.object "java/lang/AbstractStringBuilder"), (.object "java/lang/Void")], none⟩ := by decide +kernel
theorem own_pd___Ljava_lang_String_ : parseMethodDescriptor "()Ljava/lang/String;" = some ⟨[], some (.object "java/lang/String")⟩ := by decide +kernel
theorem own_pd____B : parseMethodDescriptor "()[B" = some ⟨[], some (.array .byte)⟩ := by decide +kernel
theorem own_pd__ICC_Ljava_lang_String_ : parseMethodDescriptor "(ICC)Ljava/lang/String;" = some ⟨[.int, .char, .char], some (.object "java/lang/String")⟩ := by decide +kernel
theorem own_pd__ICC_C : parseMethodDescriptor "(ICC)C" = some ⟨[.int, .char, .char], some .char⟩ := by decide +kernel
theorem own_pd__IICCCC_C : parseMethodDescriptor "(IICCCC)C" = some ⟨[.int, .int, .char, .char, .char, .char], some .char⟩ := by decide +kernel
theorem own_pd__Ljava_lang_String_IIICCCC_Z : parseMethodDescriptor "(Ljava/lang/String;IIICCCC)Z" = some ⟨[(.object "java/lang/String"), .int, .int, .int, .char, .char, .char, .char], some .boolean⟩ := by decide +kernel
theorem own_pd__Ljava_lang_Object_Ljava_lang_String__Ljava_lang_Object_ : parseMethodDescriptor "(Ljava/lang/Object;Ljava/lang/String;)Ljava/lang/Object;" = some ⟨[(.object "java/lang/Object"), (.object "java/lang/String")], some (.object "java/lang/Object")⟩ := by decide +kernel
theorem own_pd__IILjava_util_function_BiFunction__I : parseMethodDescriptor "(IILjava/util/function/BiFunction;)I" = some ⟨[.int, .int, (.object "java/util/function/BiFunction")], some .int⟩ := by decide +kernel
theorem own_pd__I_C : parseMethodDescriptor "(I)C" = some ⟨[.int], some .char⟩ := by decide +kernel
theorem own_pd___BI_C : parseMethodDescriptor "([BI)C" = some ⟨[(.array .byte), .int], some .char⟩ := by decide +kernel
theorem own_pd__Ljava_lang_String_Ljava_lang_String__V : parseMethodDescriptor "(Ljava/lang/String;Ljava/lang/String;)V" = some ⟨[(.object "java/lang/String"), (.object "java/lang/String")], none⟩ := by decide +kernel
theorem own_strw {a0 : Array Value} {Z : State} (hw : ∀ d ∈ tables_1, d.before a0 Z = true) : ∀ d ∈ StrChars.Road.words, d.before a0 Z = true := fun d hd => hw d ((by decide +kernel : ∀ d ∈ StrChars.Road.words, d ∈ tables_1) d hd)
abbrev own_mn0 : MethodName := ⟨"java/lang/String", "coder", "()B"⟩
abbrev own_mn1 : MethodName := ⟨"java/lang/AbstractStringBuilder", "inflateIfNeededFor", "(Ljava/lang/String;)V"⟩
abbrev own_mn2 : MethodName := ⟨"java/lang/String", "getBytes", "([BIB)V"⟩
abbrev own_mn3 : MethodName := ⟨"java/lang/String", "length", "()I"⟩
abbrev own_mn4 : MethodName := ⟨"java/lang/AbstractStringBuilder", "ensureCapacityInternal", "(I)V"⟩
abbrev own_mn5 : MethodName := ⟨"java/lang/AbstractStringBuilder", "putStringAt", "(ILjava/lang/String;)V"⟩
abbrev own_mn6 : MethodName := ⟨"java/lang/AbstractStringBuilder", "append", "(Ljava/lang/String;)Ljava/lang/AbstractStringBuilder;"⟩
abbrev own_mn7 : MethodName := ⟨"java/lang/AbstractStringBuilder", "<init>", "(I)V"⟩
abbrev own_mn8 : MethodName := ⟨"java/util/Arrays", "checkLength", "(II)V"⟩
abbrev own_mn9 : MethodName := ⟨"java/lang/Math", "min", "(II)I"⟩
abbrev own_mn10 : MethodName := ⟨"java/util/Arrays", "copyOfRangeByte", "([BII)[B"⟩
abbrev own_mn11 : MethodName := ⟨"java/lang/AbstractStringBuilder", "length", "()I"⟩
abbrev own_mn12 : MethodName := ⟨"java/lang/AbstractStringBuilder", "getValue", "()[B"⟩
abbrev own_mn13 : MethodName := ⟨"java/lang/StringBuilder", "length", "()I"⟩
abbrev own_mn14 : MethodName := ⟨"java/lang/AbstractStringBuilder", "isLatin1", "()Z"⟩
abbrev own_mn15 : MethodName := ⟨"java/util/Arrays", "copyOfRange", "([BII)[B"⟩
abbrev own_mn16 : MethodName := ⟨"java/lang/String", "<init>", "(Ljava/lang/AbstractStringBuilder;Ljava/lang/Void;)V"⟩
abbrev own_mn17 : MethodName := ⟨"java/lang/String", "<init>", "(Ljava/lang/StringBuilder;)V"⟩
abbrev own_mn18 : MethodName := ⟨"java/lang/String", "<init>", "([CIILjava/lang/Void;)V"⟩
abbrev own_mn19 : MethodName := ⟨"java/lang/String", "<init>", "([C)V"⟩
abbrev own_mn20 : MethodName := ⟨"java/util/Objects", "requireNonNull", "(Ljava/lang/Object;Ljava/lang/String;)Ljava/lang/Object;"⟩
abbrev own_mn21 : MethodName := ⟨"java/lang/String", "isEmpty", "()Z"⟩
abbrev own_mn22 : MethodName := ⟨"java/lang/StringBuilder", "<init>", "()V"⟩
abbrev own_mn23 : MethodName := ⟨"java/lang/StringBuilder", "append", "(Ljava/lang/String;)Ljava/lang/StringBuilder;"⟩
abbrev own_mn24 : MethodName := ⟨"java/lang/StringBuilder", "toString", "()Ljava/lang/String;"⟩
abbrev own_mn25 : MethodName := ⟨"jdk/internal/util/Preconditions", "checkIndex", "(IILjava/util/function/BiFunction;)I"⟩
abbrev own_mn26 : MethodName := ⟨"java/lang/String", "checkIndex", "(II)V"⟩
abbrev own_mn27 : MethodName := ⟨"java/lang/String", "isLatin1", "()Z"⟩
abbrev own_mn28 : MethodName := ⟨"java/lang/StringLatin1", "charAt", "([BI)C"⟩
abbrev own_mn29 : MethodName := ⟨"com/example/incomewright/incomewright/casefile/ProblemToStringPinLaw", "pick", "(ICC)C"⟩
abbrev own_mn30 : MethodName := ⟨"java/lang/String", "charAt", "(I)C"⟩
abbrev own_mn31 : MethodName := ⟨"com/example/incomewright/incomewright/casefile/ProblemToStringPinLaw", "expChar", "(IICCCC)C"⟩
abbrev own_mn32 : MethodName := ⟨"com/example/incomewright/incomewright/casefile/ProblemToStringPinLaw", "str", "(ICC)Ljava/lang/String;"⟩
abbrev own_mn33 : MethodName := ⟨"com/example/incomewright/incomewright/casefile/Problem", "<init>", "(Ljava/lang/String;Ljava/lang/String;)V"⟩
abbrev own_mn34 : MethodName := ⟨"com/example/incomewright/incomewright/casefile/Problem", "toString", "()Ljava/lang/String;"⟩
abbrev own_mn35 : MethodName := ⟨"com/example/incomewright/incomewright/casefile/ProblemToStringPinLaw", "at", "(Ljava/lang/String;IIICCCC)Z"⟩
theorem own_W0 {a0 : Array Value} {Z : State} (hw : ∀ d ∈ tables_1, d.before a0 Z = true) : Jvm.Cond.before (Jvm.Cond.methodLink "com/example/incomewright/incomewright/casefile/ProblemToStringPinLaw" (26 : Nat) ({ cls := "com/example/incomewright/incomewright/casefile/ProblemToStringPinLaw", name := "str", desc := "(ICC)Ljava/lang/String;" } : Jvm.MethodName)) a0 Z = true := hw _ (List.mem_of_getElem? (i := 0) rfl)
theorem own_W1 {a0 : Array Value} {Z : State} (hw : ∀ d ∈ tables_1, d.before a0 Z = true) : Jvm.Cond.before (Jvm.Cond.static ({ cls := "com/example/incomewright/incomewright/casefile/ProblemToStringPinLaw", name := "str", desc := "(ICC)Ljava/lang/String;" } : Jvm.MethodName)) a0 Z = true := hw _ (List.mem_of_getElem? (i := 1) rfl)
theorem own_W2 {a0 : Array Value} {Z : State} (hw : ∀ d ∈ tables_1, d.before a0 Z = true) : Jvm.Cond.before (Jvm.Cond.initialized "com/example/incomewright/incomewright/casefile/ProblemToStringPinLaw") a0 Z = true := hw _ (List.mem_of_getElem? (i := 2) rfl)
theorem own_W3 {a0 : Array Value} {Z : State} (hw : ∀ d ∈ tables_1, d.before a0 Z = true) : Jvm.Cond.before (Jvm.Cond.code ({ cls := "com/example/incomewright/incomewright/casefile/ProblemToStringPinLaw", name := "str", desc := "(ICC)Ljava/lang/String;" } : Jvm.MethodName) method_2_code (3 : Nat) (Option.some (Jvm.ClassFile.FieldType.object "java/lang/String"))) a0 Z = true := hw _ (List.mem_of_getElem? (i := 3) rfl)
theorem own_W4 {a0 : Array Value} {Z : State} (hw : ∀ d ∈ tables_1, d.before a0 Z = true) : Jvm.Cond.before (Jvm.Cond.classLink "com/example/incomewright/incomewright/casefile/ProblemToStringPinLaw" (7 : Nat) "java/lang/String") a0 Z = true := hw _ (List.mem_of_getElem? (i := 4) rfl)
theorem own_W5 {a0 : Array Value} {Z : State} (hw : ∀ d ∈ tables_1, d.before a0 Z = true) : Jvm.Cond.before (Jvm.Cond.instantiable "java/lang/String" (4 : Nat)) a0 Z = true := hw _ (List.mem_of_getElem? (i := 5) rfl)
theorem own_W6 {a0 : Array Value} {Z : State} (hw : ∀ d ∈ tables_1, d.before a0 Z = true) : Jvm.Cond.before (Jvm.Cond.initialized "java/lang/String") a0 Z = true := hw _ (List.mem_of_getElem? (i := 6) rfl)
theorem own_W7 {a0 : Array Value} {Z : State} (hw : ∀ d ∈ tables_1, d.before a0 Z = true) : Jvm.Cond.before (Jvm.Cond.arrayClass Jvm.ClassFile.FieldType.char) a0 Z = true := hw _ (List.mem_of_getElem? (i := 7) rfl)
theorem own_W8 {a0 : Array Value} {Z : State} (hw : ∀ d ∈ tables_1, d.before a0 Z = true) : Jvm.Cond.before (Jvm.Cond.methodLink "com/example/incomewright/incomewright/casefile/ProblemToStringPinLaw" (9 : Nat) ({ cls := "java/lang/String", name := "<init>", desc := "([C)V" } : Jvm.MethodName)) a0 Z = true := hw _ (List.mem_of_getElem? (i := 8) rfl)
theorem own_W9 {a0 : Array Value} {Z : State} (hw : ∀ d ∈ tables_1, d.before a0 Z = true) : Jvm.Cond.before (Jvm.Cond.instanceMethod ({ cls := "java/lang/String", name := "<init>", desc := "([C)V" } : Jvm.MethodName)) a0 Z = true := hw _ (List.mem_of_getElem? (i := 9) rfl)
theorem own_W10 {a0 : Array Value} {Z : State} (hw : ∀ d ∈ tables_1, d.before a0 Z = true) : Jvm.Cond.before (Jvm.Cond.code ({ cls := "java/lang/String", name := "<init>", desc := "([C)V" } : Jvm.MethodName) jdk_42_method_3_code (2 : Nat) (Option.none : Option Jvm.ClassFile.FieldType)) a0 Z = true := hw _ (List.mem_of_getElem? (i := 10) rfl)
theorem own_W11 {a0 : Array Value} {Z : State} (hw : ∀ d ∈ tables_1, d.before a0 Z = true) : Jvm.Cond.before (Jvm.Cond.methodLink "java/lang/String" (27 : Nat) ({ cls := "java/lang/String", name := "<init>", desc := "([CIILjava/lang/Void;)V" } : Jvm.MethodName)) a0 Z = true := hw _ (List.mem_of_getElem? (i := 11) rfl)
theorem own_W12 {a0 : Array Value} {Z : State} (hw : ∀ d ∈ tables_1, d.before a0 Z = true) : Jvm.Cond.before (Jvm.Cond.instanceMethod ({ cls := "java/lang/String", name := "<init>", desc := "([CIILjava/lang/Void;)V" } : Jvm.MethodName)) a0 Z = true := hw _ (List.mem_of_getElem? (i := 12) rfl)
theorem own_W14 {a0 : Array Value} {Z : State} (hw : ∀ d ∈ tables_1, d.before a0 Z = true) : Jvm.Cond.before (Jvm.Cond.code ({ cls := "java/lang/String", name := "<init>", desc := "([CIILjava/lang/Void;)V" } : Jvm.MethodName) jdk_42_method_149_code (6 : Nat) (Option.none : Option Jvm.ClassFile.FieldType)) a0 Z = true := hw _ (List.mem_of_getElem? (i := 14) rfl)
theorem own_W15 {a0 : Array Value} {Z : State} (hw : ∀ d ∈ tables_1, d.before a0 Z = true) : Jvm.Cond.before (Jvm.Cond.methodLink "java/lang/String" (1 : Nat) ({ cls := "java/lang/Object", name := "<init>", desc := "()V" } : Jvm.MethodName)) a0 Z = true := hw _ (List.mem_of_getElem? (i := 15) rfl)
theorem own_W16 {a0 : Array Value} {Z : State} (hw : ∀ d ∈ tables_1, d.before a0 Z = true) : Jvm.Cond.before (Jvm.Cond.instanceMethod ({ cls := "java/lang/Object", name := "<init>", desc := "()V" } : Jvm.MethodName)) a0 Z = true := hw _ (List.mem_of_getElem? (i := 16) rfl)
theorem own_W17 {a0 : Array Value} {Z : State} (hw : ∀ d ∈ tables_1, d.before a0 Z = true) : Jvm.Cond.before (Jvm.Cond.code ({ cls := "java/lang/Object", name := "<init>", desc := "()V" } : Jvm.MethodName) object_method_1_code (1 : Nat) (Option.none : Option Jvm.ClassFile.FieldType)) a0 Z = true := hw _ (List.mem_of_getElem? (i := 17) rfl)
theorem own_W18 {a0 : Array Value} {Z : State} (hw : ∀ d ∈ tables_1, d.before a0 Z = true) : Jvm.Cond.before (Jvm.Cond.fieldLink "java/lang/String" (38 : Nat) "java/lang/String" "COMPACT_STRINGS" "Z") a0 Z = true := hw _ (List.mem_of_getElem? (i := 18) rfl)
theorem own_W23 {a0 : Array Value} {Z : State} (hw : ∀ d ∈ tables_1, d.before a0 Z = true) : Jvm.Cond.before (Jvm.Cond.arrayClass Jvm.ClassFile.FieldType.byte) a0 Z = true := hw _ (List.mem_of_getElem? (i := 23) rfl)
theorem own_W30 {a0 : Array Value} {Z : State} (hw : ∀ d ∈ tables_1, d.before a0 Z = true) : Jvm.Cond.before (Jvm.Cond.fieldLink "java/lang/String" (15 : Nat) "java/lang/String" "coder" "B") a0 Z = true := hw _ (List.mem_of_getElem? (i := 30) rfl)
theorem own_W31 {a0 : Array Value} {Z : State} (hw : ∀ d ∈ tables_1, d.before a0 Z = true) : Jvm.Cond.before (Jvm.Cond.laysFinal "java/lang/String" "java/lang/String" "coder" "B") a0 Z = true := hw _ (List.mem_of_getElem? (i := 31) rfl)
theorem own_W32 {a0 : Array Value} {Z : State} (hw : ∀ d ∈ tables_1, d.before a0 Z = true) : Jvm.Cond.before (Jvm.Cond.fieldLink "java/lang/String" (9 : Nat) "java/lang/String" "value" "[B") a0 Z = true := hw _ (List.mem_of_getElem? (i := 32) rfl)
theorem own_W33 {a0 : Array Value} {Z : State} (hw : ∀ d ∈ tables_1, d.before a0 Z = true) : Jvm.Cond.before (Jvm.Cond.laysFinal "java/lang/String" "java/lang/String" "value" "[B") a0 Z = true := hw _ (List.mem_of_getElem? (i := 33) rfl)
theorem own_W34 {a0 : Array Value} {Z : State} (hw : ∀ d ∈ tables_1, d.before a0 Z = true) : Jvm.Cond.before (Jvm.Cond.stringLink "java/lang/String" (7 : Nat) "") a0 Z = true := hw _ (List.mem_of_getElem? (i := 34) rfl)
theorem own_W37 {a0 : Array Value} {Z : State} (hw : ∀ d ∈ tables_1, d.before a0 Z = true) : Jvm.Cond.before (Jvm.Cond.classLink "com/example/incomewright/incomewright/casefile/ProblemToStringPinLaw" (30 : Nat) "com/example/incomewright/incomewright/casefile/Problem") a0 Z = true := hw _ (List.mem_of_getElem? (i := 37) rfl)
theorem own_W38 {a0 : Array Value} {Z : State} (hw : ∀ d ∈ tables_1, d.before a0 Z = true) : Jvm.Cond.before (Jvm.Cond.instantiable "com/example/incomewright/incomewright/casefile/Problem" (2 : Nat)) a0 Z = true := hw _ (List.mem_of_getElem? (i := 38) rfl)
theorem own_W39 {a0 : Array Value} {Z : State} (hw : ∀ d ∈ tables_1, d.before a0 Z = true) : Jvm.Cond.before (Jvm.Cond.initialized "com/example/incomewright/incomewright/casefile/Problem") a0 Z = true := hw _ (List.mem_of_getElem? (i := 39) rfl)
theorem own_W40 {a0 : Array Value} {Z : State} (hw : ∀ d ∈ tables_1, d.before a0 Z = true) : Jvm.Cond.before (Jvm.Cond.methodLink "com/example/incomewright/incomewright/casefile/ProblemToStringPinLaw" (32 : Nat) ({ cls := "com/example/incomewright/incomewright/casefile/Problem", name := "<init>", desc := "(Ljava/lang/String;Ljava/lang/String;)V" } : Jvm.MethodName)) a0 Z = true := hw _ (List.mem_of_getElem? (i := 40) rfl)
theorem own_W41 {a0 : Array Value} {Z : State} (hw : ∀ d ∈ tables_1, d.before a0 Z = true) : Jvm.Cond.before (Jvm.Cond.instanceMethod ({ cls := "com/example/incomewright/incomewright/casefile/Problem", name := "<init>", desc := "(Ljava/lang/String;Ljava/lang/String;)V" } : Jvm.MethodName)) a0 Z = true := hw _ (List.mem_of_getElem? (i := 41) rfl)
theorem own_W42 {a0 : Array Value} {Z : State} (hw : ∀ d ∈ tables_1, d.before a0 Z = true) : Jvm.Cond.before (Jvm.Cond.code ({ cls := "com/example/incomewright/incomewright/casefile/Problem", name := "<init>", desc := "(Ljava/lang/String;Ljava/lang/String;)V" } : Jvm.MethodName) prog_9_method_1_code (3 : Nat) (Option.none : Option Jvm.ClassFile.FieldType)) a0 Z = true := hw _ (List.mem_of_getElem? (i := 42) rfl)
theorem own_W43 {a0 : Array Value} {Z : State} (hw : ∀ d ∈ tables_1, d.before a0 Z = true) : Jvm.Cond.before (Jvm.Cond.methodLink "com/example/incomewright/incomewright/casefile/Problem" (1 : Nat) ({ cls := "java/lang/Object", name := "<init>", desc := "()V" } : Jvm.MethodName)) a0 Z = true := hw _ (List.mem_of_getElem? (i := 43) rfl)
theorem own_W44 {a0 : Array Value} {Z : State} (hw : ∀ d ∈ tables_1, d.before a0 Z = true) : Jvm.Cond.before (Jvm.Cond.stringLink "com/example/incomewright/incomewright/casefile/Problem" (7 : Nat) "path") a0 Z = true := hw _ (List.mem_of_getElem? (i := 44) rfl)
theorem own_W45 {a0 : Array Value} {Z : State} (hw : ∀ d ∈ tables_1, d.before a0 Z = true) : Jvm.Cond.before (Jvm.Cond.methodLink "com/example/incomewright/incomewright/casefile/Problem" (9 : Nat) ({ cls := "java/util/Objects", name := "requireNonNull", desc := "(Ljava/lang/Object;Ljava/lang/String;)Ljava/lang/Object;" } : Jvm.MethodName)) a0 Z = true := hw _ (List.mem_of_getElem? (i := 45) rfl)
theorem own_W46 {a0 : Array Value} {Z : State} (hw : ∀ d ∈ tables_1, d.before a0 Z = true) : Jvm.Cond.before (Jvm.Cond.static ({ cls := "java/util/Objects", name := "requireNonNull", desc := "(Ljava/lang/Object;Ljava/lang/String;)Ljava/lang/Object;" } : Jvm.MethodName)) a0 Z = true := hw _ (List.mem_of_getElem? (i := 46) rfl)
theorem own_W47 {a0 : Array Value} {Z : State} (hw : ∀ d ∈ tables_1, d.before a0 Z = true) : Jvm.Cond.before (Jvm.Cond.initialized "java/util/Objects") a0 Z = true := hw _ (List.mem_of_getElem? (i := 47) rfl)
theorem own_W48 {a0 : Array Value} {Z : State} (hw : ∀ d ∈ tables_1, d.before a0 Z = true) : Jvm.Cond.before (Jvm.Cond.code ({ cls := "java/util/Objects", name := "requireNonNull", desc := "(Ljava/lang/Object;Ljava/lang/String;)Ljava/lang/Object;" } : Jvm.MethodName) jdk_31_method_11_code (2 : Nat) (Option.some (Jvm.ClassFile.FieldType.object "java/lang/Object"))) a0 Z = true := hw _ (List.mem_of_getElem? (i := 48) rfl)
theorem own_W49 {a0 : Array Value} {Z : State} (hw : ∀ d ∈ tables_1, d.before a0 Z = true) : Jvm.Cond.before (Jvm.Cond.classLink "com/example/incomewright/incomewright/casefile/Problem" (15 : Nat) "java/lang/String") a0 Z = true := hw _ (List.mem_of_getElem? (i := 49) rfl)
theorem own_W50 {a0 : Array Value} {Z : State} (hw : ∀ d ∈ tables_1, d.before a0 Z = true) : Jvm.Cond.before (Jvm.Cond.fieldLink "com/example/incomewright/incomewright/casefile/Problem" (17 : Nat) "com/example/incomewright/incomewright/casefile/Problem" "path" "Ljava/lang/String;") a0 Z = true := hw _ (List.mem_of_getElem? (i := 50) rfl)
theorem own_W51 {a0 : Array Value} {Z : State} (hw : ∀ d ∈ tables_1, d.before a0 Z = true) : Jvm.Cond.before (Jvm.Cond.laysFinal "com/example/incomewright/incomewright/casefile/Problem" "com/example/incomewright/incomewright/casefile/Problem" "path" "Ljava/lang/String;") a0 Z = true := hw _ (List.mem_of_getElem? (i := 51) rfl)
theorem own_W52 {a0 : Array Value} {Z : State} (hw : ∀ d ∈ tables_1, d.before a0 Z = true) : Jvm.Cond.before (Jvm.Cond.stringLink "com/example/incomewright/incomewright/casefile/Problem" (22 : Nat) "message") a0 Z = true := hw _ (List.mem_of_getElem? (i := 52) rfl)
theorem own_W53 {a0 : Array Value} {Z : State} (hw : ∀ d ∈ tables_1, d.before a0 Z = true) : Jvm.Cond.before (Jvm.Cond.fieldLink "com/example/incomewright/incomewright/casefile/Problem" (24 : Nat) "com/example/incomewright/incomewright/casefile/Problem" "message" "Ljava/lang/String;") a0 Z = true := hw _ (List.mem_of_getElem? (i := 53) rfl)
theorem own_W54 {a0 : Array Value} {Z : State} (hw : ∀ d ∈ tables_1, d.before a0 Z = true) : Jvm.Cond.before (Jvm.Cond.laysFinal "com/example/incomewright/incomewright/casefile/Problem" "com/example/incomewright/incomewright/casefile/Problem" "message" "Ljava/lang/String;") a0 Z = true := hw _ (List.mem_of_getElem? (i := 54) rfl)
theorem own_W55 {a0 : Array Value} {Z : State} (hw : ∀ d ∈ tables_1, d.before a0 Z = true) : Jvm.Cond.before (Jvm.Cond.methodLink "com/example/incomewright/incomewright/casefile/ProblemToStringPinLaw" (35 : Nat) ({ cls := "com/example/incomewright/incomewright/casefile/Problem", name := "toString", desc := "()Ljava/lang/String;" } : Jvm.MethodName)) a0 Z = true := hw _ (List.mem_of_getElem? (i := 55) rfl)
theorem own_W56 {a0 : Array Value} {Z : State} (hw : ∀ d ∈ tables_1, d.before a0 Z = true) : Jvm.Cond.before (Jvm.Cond.declares ({ cls := "com/example/incomewright/incomewright/casefile/Problem", name := "toString", desc := "()Ljava/lang/String;" } : Jvm.MethodName)) a0 Z = true := hw _ (List.mem_of_getElem? (i := 56) rfl)
theorem own_W57 {a0 : Array Value} {Z : State} (hw : ∀ d ∈ tables_1, d.before a0 Z = true) : Jvm.Cond.before (Jvm.Cond.instanceMethod ({ cls := "com/example/incomewright/incomewright/casefile/Problem", name := "toString", desc := "()Ljava/lang/String;" } : Jvm.MethodName)) a0 Z = true := hw _ (List.mem_of_getElem? (i := 57) rfl)
theorem own_W58 {a0 : Array Value} {Z : State} (hw : ∀ d ∈ tables_1, d.before a0 Z = true) : Jvm.Cond.before (Jvm.Cond.selects "com/example/incomewright/incomewright/casefile/Problem" ({ cls := "com/example/incomewright/incomewright/casefile/Problem", name := "toString", desc := "()Ljava/lang/String;" } : Jvm.MethodName) ({ cls := "com/example/incomewright/incomewright/casefile/Problem", name := "toString", desc := "()Ljava/lang/String;" } : Jvm.MethodName)) a0 Z = true := hw _ (List.mem_of_getElem? (i := 58) rfl)
theorem own_W59 {a0 : Array Value} {Z : State} (hw : ∀ d ∈ tables_1, d.before a0 Z = true) : Jvm.Cond.before (Jvm.Cond.code ({ cls := "com/example/incomewright/incomewright/casefile/Problem", name := "toString", desc := "()Ljava/lang/String;" } : Jvm.MethodName) prog_9_method_4_code (1 : Nat) (Option.some (Jvm.ClassFile.FieldType.object "java/lang/String"))) a0 Z = true := hw _ (List.mem_of_getElem? (i := 59) rfl)
theorem own_W60 {a0 : Array Value} {Z : State} (hw : ∀ d ∈ tables_1, d.before a0 Z = true) : Jvm.Cond.before (Jvm.Cond.methodLink "com/example/incomewright/incomewright/casefile/Problem" (26 : Nat) ({ cls := "java/lang/String", name := "isEmpty", desc := "()Z" } : Jvm.MethodName)) a0 Z = true := hw _ (List.mem_of_getElem? (i := 60) rfl)
theorem own_W61 {a0 : Array Value} {Z : State} (hw : ∀ d ∈ tables_1, d.before a0 Z = true) : Jvm.Cond.before (Jvm.Cond.declares ({ cls := "java/lang/String", name := "isEmpty", desc := "()Z" } : Jvm.MethodName)) a0 Z = true := hw _ (List.mem_of_getElem? (i := 61) rfl)
theorem own_W62 {a0 : Array Value} {Z : State} (hw : ∀ d ∈ tables_1, d.before a0 Z = true) : Jvm.Cond.before (Jvm.Cond.instanceMethod ({ cls := "java/lang/String", name := "isEmpty", desc := "()Z" } : Jvm.MethodName)) a0 Z = true := hw _ (List.mem_of_getElem? (i := 62) rfl)
theorem own_W63 {a0 : Array Value} {Z : State} (hw : ∀ d ∈ tables_1, d.before a0 Z = true) : Jvm.Cond.before (Jvm.Cond.selects "java/lang/String" ({ cls := "java/lang/String", name := "isEmpty", desc := "()Z" } : Jvm.MethodName) ({ cls := "java/lang/String", name := "isEmpty", desc := "()Z" } : Jvm.MethodName)) a0 Z = true := hw _ (List.mem_of_getElem? (i := 63) rfl)
theorem own_W64 {a0 : Array Value} {Z : State} (hw : ∀ d ∈ tables_1, d.before a0 Z = true) : Jvm.Cond.before (Jvm.Cond.code ({ cls := "java/lang/String", name := "isEmpty", desc := "()Z" } : Jvm.MethodName) jdk_42_method_55_code (1 : Nat) (Option.some Jvm.ClassFile.FieldType.boolean)) a0 Z = true := hw _ (List.mem_of_getElem? (i := 64) rfl)
theorem own_W65 {a0 : Array Value} {Z : State} (hw : ∀ d ∈ tables_1, d.before a0 Z = true) : Jvm.Cond.before (Jvm.Cond.classLink "com/example/incomewright/incomewright/casefile/Problem" (30 : Nat) "java/lang/StringBuilder") a0 Z = true := hw _ (List.mem_of_getElem? (i := 65) rfl)
theorem own_W66 {a0 : Array Value} {Z : State} (hw : ∀ d ∈ tables_1, d.before a0 Z = true) : Jvm.Cond.before (Jvm.Cond.instantiable "java/lang/StringBuilder" (4 : Nat)) a0 Z = true := hw _ (List.mem_of_getElem? (i := 66) rfl)
theorem own_W67 {a0 : Array Value} {Z : State} (hw : ∀ d ∈ tables_1, d.before a0 Z = true) : Jvm.Cond.before (Jvm.Cond.initialized "java/lang/StringBuilder") a0 Z = true := hw _ (List.mem_of_getElem? (i := 67) rfl)
theorem own_W68 {a0 : Array Value} {Z : State} (hw : ∀ d ∈ tables_1, d.before a0 Z = true) : Jvm.Cond.before (Jvm.Cond.methodLink "com/example/incomewright/incomewright/casefile/Problem" (32 : Nat) ({ cls := "java/lang/StringBuilder", name := "<init>", desc := "()V" } : Jvm.MethodName)) a0 Z = true := hw _ (List.mem_of_getElem? (i := 68) rfl)
theorem own_W69 {a0 : Array Value} {Z : State} (hw : ∀ d ∈ tables_1, d.before a0 Z = true) : Jvm.Cond.before (Jvm.Cond.instanceMethod ({ cls := "java/lang/StringBuilder", name := "<init>", desc := "()V" } : Jvm.MethodName)) a0 Z = true := hw _ (List.mem_of_getElem? (i := 69) rfl)
theorem own_W70 {a0 : Array Value} {Z : State} (hw : ∀ d ∈ tables_1, d.before a0 Z = true) : Jvm.Cond.before (Jvm.Cond.code ({ cls := "java/lang/StringBuilder", name := "<init>", desc := "()V" } : Jvm.MethodName) jdk_67_method_1_code (1 : Nat) (Option.none : Option Jvm.ClassFile.FieldType)) a0 Z = true := hw _ (List.mem_of_getElem? (i := 70) rfl)
theorem own_W71 {a0 : Array Value} {Z : State} (hw : ∀ d ∈ tables_1, d.before a0 Z = true) : Jvm.Cond.before (Jvm.Cond.methodLink "java/lang/StringBuilder" (1 : Nat) ({ cls := "java/lang/AbstractStringBuilder", name := "<init>", desc := "(I)V" } : Jvm.MethodName)) a0 Z = true := hw _ (List.mem_of_getElem? (i := 71) rfl)
theorem own_W72 {a0 : Array Value} {Z : State} (hw : ∀ d ∈ tables_1, d.before a0 Z = true) : Jvm.Cond.before (Jvm.Cond.instanceMethod ({ cls := "java/lang/AbstractStringBuilder", name := "<init>", desc := "(I)V" } : Jvm.MethodName)) a0 Z = true := hw _ (List.mem_of_getElem? (i := 72) rfl)
theorem own_W75 {a0 : Array Value} {Z : State} (hw : ∀ d ∈ tables_1, d.before a0 Z = true) : Jvm.Cond.before (Jvm.Cond.initialized "java/lang/AbstractStringBuilder") a0 Z = true := hw _ (List.mem_of_getElem? (i := 75) rfl)
theorem own_W76 {a0 : Array Value} {Z : State} (hw : ∀ d ∈ tables_1, d.before a0 Z = true) : Jvm.Cond.before (Jvm.Cond.code ({ cls := "java/lang/AbstractStringBuilder", name := "<init>", desc := "(I)V" } : Jvm.MethodName) jdk_68_method_2_code (2 : Nat) (Option.none : Option Jvm.ClassFile.FieldType)) a0 Z = true := hw _ (List.mem_of_getElem? (i := 76) rfl)
theorem own_W77 {a0 : Array Value} {Z : State} (hw : ∀ d ∈ tables_1, d.before a0 Z = true) : Jvm.Cond.before (Jvm.Cond.methodLink "java/lang/AbstractStringBuilder" (3 : Nat) ({ cls := "java/lang/Object", name := "<init>", desc := "()V" } : Jvm.MethodName)) a0 Z = true := hw _ (List.mem_of_getElem? (i := 77) rfl)
theorem own_W78 {a0 : Array Value} {Z : State} (hw : ∀ d ∈ tables_1, d.before a0 Z = true) : Jvm.Cond.before (Jvm.Cond.fieldLink "java/lang/AbstractStringBuilder" (18 : Nat) "java/lang/String" "COMPACT_STRINGS" "Z") a0 Z = true := hw _ (List.mem_of_getElem? (i := 78) rfl)
theorem own_W79 {a0 : Array Value} {Z : State} (hw : ∀ d ∈ tables_1, d.before a0 Z = true) : Jvm.Cond.before (Jvm.Cond.fieldLink "java/lang/AbstractStringBuilder" (15 : Nat) "java/lang/AbstractStringBuilder" "value" "[B") a0 Z = true := hw _ (List.mem_of_getElem? (i := 79) rfl)
theorem own_W80 {a0 : Array Value} {Z : State} (hw : ∀ d ∈ tables_1, d.before a0 Z = true) : Jvm.Cond.before (Jvm.Cond.lays "java/lang/StringBuilder" "java/lang/AbstractStringBuilder" "value" "[B") a0 Z = true := hw _ (List.mem_of_getElem? (i := 80) rfl)
theorem own_W81 {a0 : Array Value} {Z : State} (hw : ∀ d ∈ tables_1, d.before a0 Z = true) : Jvm.Cond.before (Jvm.Cond.fieldLink "java/lang/AbstractStringBuilder" (22 : Nat) "java/lang/AbstractStringBuilder" "coder" "B") a0 Z = true := hw _ (List.mem_of_getElem? (i := 81) rfl)
theorem own_W82 {a0 : Array Value} {Z : State} (hw : ∀ d ∈ tables_1, d.before a0 Z = true) : Jvm.Cond.before (Jvm.Cond.lays "java/lang/StringBuilder" "java/lang/AbstractStringBuilder" "coder" "B") a0 Z = true := hw _ (List.mem_of_getElem? (i := 82) rfl)
theorem own_W83 {a0 : Array Value} {Z : State} (hw : ∀ d ∈ tables_1, d.before a0 Z = true) : Jvm.Cond.before (Jvm.Cond.methodLink "com/example/incomewright/incomewright/casefile/Problem" (33 : Nat) ({ cls := "java/lang/StringBuilder", name := "append", desc := "(Ljava/lang/String;)Ljava/lang/StringBuilder;" } : Jvm.MethodName)) a0 Z = true := hw _ (List.mem_of_getElem? (i := 83) rfl)
theorem own_W84 {a0 : Array Value} {Z : State} (hw : ∀ d ∈ tables_1, d.before a0 Z = true) : Jvm.Cond.before (Jvm.Cond.declares ({ cls := "java/lang/StringBuilder", name := "append", desc := "(Ljava/lang/String;)Ljava/lang/StringBuilder;" } : Jvm.MethodName)) a0 Z = true := hw _ (List.mem_of_getElem? (i := 84) rfl)
theorem own_W85 {a0 : Array Value} {Z : State} (hw : ∀ d ∈ tables_1, d.before a0 Z = true) : Jvm.Cond.before (Jvm.Cond.instanceMethod ({ cls := "java/lang/StringBuilder", name := "append", desc := "(Ljava/lang/String;)Ljava/lang/StringBuilder;" } : Jvm.MethodName)) a0 Z = true := hw _ (List.mem_of_getElem? (i := 85) rfl)
theorem own_W86 {a0 : Array Value} {Z : State} (hw : ∀ d ∈ tables_1, d.before a0 Z = true) : Jvm.Cond.before (Jvm.Cond.selects "java/lang/StringBuilder" ({ cls := "java/lang/StringBuilder", name := "append", desc := "(Ljava/lang/String;)Ljava/lang/StringBuilder;" } : Jvm.MethodName) ({ cls := "java/lang/StringBuilder", name := "append", desc := "(Ljava/lang/String;)Ljava/lang/StringBuilder;" } : Jvm.MethodName)) a0 Z = true := hw _ (List.mem_of_getElem? (i := 86) rfl)
theorem own_W87 {a0 : Array Value} {Z : State} (hw : ∀ d ∈ tables_1, d.before a0 Z = true) : Jvm.Cond.before (Jvm.Cond.code ({ cls := "java/lang/StringBuilder", name := "append", desc := "(Ljava/lang/String;)Ljava/lang/StringBuilder;" } : Jvm.MethodName) jdk_67_method_7_code (2 : Nat) (Option.some (Jvm.ClassFile.FieldType.object "java/lang/StringBuilder"))) a0 Z = true := hw _ (List.mem_of_getElem? (i := 87) rfl)
theorem own_W88 {a0 : Array Value} {Z : State} (hw : ∀ d ∈ tables_1, d.before a0 Z = true) : Jvm.Cond.before (Jvm.Cond.methodLink "java/lang/StringBuilder" (29 : Nat) ({ cls := "java/lang/AbstractStringBuilder", name := "append", desc := "(Ljava/lang/String;)Ljava/lang/AbstractStringBuilder;" } : Jvm.MethodName)) a0 Z = true := hw _ (List.mem_of_getElem? (i := 88) rfl)
theorem own_W89 {a0 : Array Value} {Z : State} (hw : ∀ d ∈ tables_1, d.before a0 Z = true) : Jvm.Cond.before (Jvm.Cond.instanceMethod ({ cls := "java/lang/AbstractStringBuilder", name := "append", desc := "(Ljava/lang/String;)Ljava/lang/AbstractStringBuilder;" } : Jvm.MethodName)) a0 Z = true := hw _ (List.mem_of_getElem? (i := 89) rfl)
theorem own_W90 {a0 : Array Value} {Z : State} (hw : ∀ d ∈ tables_1, d.before a0 Z = true) : Jvm.Cond.before (Jvm.Cond.superclass "java/lang/StringBuilder" "java/lang/AbstractStringBuilder") a0 Z = true := hw _ (List.mem_of_getElem? (i := 90) rfl)
theorem own_W92 {a0 : Array Value} {Z : State} (hw : ∀ d ∈ tables_1, d.before a0 Z = true) : Jvm.Cond.before (Jvm.Cond.code ({ cls := "java/lang/AbstractStringBuilder", name := "append", desc := "(Ljava/lang/String;)Ljava/lang/AbstractStringBuilder;" } : Jvm.MethodName) jdk_68_method_22_code (3 : Nat) (Option.some (Jvm.ClassFile.FieldType.object "java/lang/AbstractStringBuilder"))) a0 Z = true := hw _ (List.mem_of_getElem? (i := 92) rfl)
theorem own_W93 {a0 : Array Value} {Z : State} (hw : ∀ d ∈ tables_1, d.before a0 Z = true) : Jvm.Cond.before (Jvm.Cond.methodLink "java/lang/AbstractStringBuilder" (32 : Nat) ({ cls := "java/lang/String", name := "length", desc := "()I" } : Jvm.MethodName)) a0 Z = true := hw _ (List.mem_of_getElem? (i := 93) rfl)
theorem own_W94 {a0 : Array Value} {Z : State} (hw : ∀ d ∈ tables_1, d.before a0 Z = true) : Jvm.Cond.before (Jvm.Cond.declares ({ cls := "java/lang/String", name := "length", desc := "()I" } : Jvm.MethodName)) a0 Z = true := hw _ (List.mem_of_getElem? (i := 94) rfl)
theorem own_W95 {a0 : Array Value} {Z : State} (hw : ∀ d ∈ tables_1, d.before a0 Z = true) : Jvm.Cond.before (Jvm.Cond.instanceMethod ({ cls := "java/lang/String", name := "length", desc := "()I" } : Jvm.MethodName)) a0 Z = true := hw _ (List.mem_of_getElem? (i := 95) rfl)
theorem own_W96 {a0 : Array Value} {Z : State} (hw : ∀ d ∈ tables_1, d.before a0 Z = true) : Jvm.Cond.before (Jvm.Cond.selects "java/lang/String" ({ cls := "java/lang/String", name := "length", desc := "()I" } : Jvm.MethodName) ({ cls := "java/lang/String", name := "length", desc := "()I" } : Jvm.MethodName)) a0 Z = true := hw _ (List.mem_of_getElem? (i := 96) rfl)
theorem own_W97 {a0 : Array Value} {Z : State} (hw : ∀ d ∈ tables_1, d.before a0 Z = true) : Jvm.Cond.before (Jvm.Cond.code ({ cls := "java/lang/String", name := "length", desc := "()I" } : Jvm.MethodName) jdk_42_method_54_code (1 : Nat) (Option.some Jvm.ClassFile.FieldType.int)) a0 Z = true := hw _ (List.mem_of_getElem? (i := 97) rfl)
theorem own_W98 {a0 : Array Value} {Z : State} (hw : ∀ d ∈ tables_1, d.before a0 Z = true) : Jvm.Cond.before (Jvm.Cond.methodLink "java/lang/String" (335 : Nat) ({ cls := "java/lang/String", name := "coder", desc := "()B" } : Jvm.MethodName)) a0 Z = true := hw _ (List.mem_of_getElem? (i := 98) rfl)
theorem own_W99 {a0 : Array Value} {Z : State} (hw : ∀ d ∈ tables_1, d.before a0 Z = true) : Jvm.Cond.before (Jvm.Cond.declares ({ cls := "java/lang/String", name := "coder", desc := "()B" } : Jvm.MethodName)) a0 Z = true := hw _ (List.mem_of_getElem? (i := 99) rfl)
theorem own_W100 {a0 : Array Value} {Z : State} (hw : ∀ d ∈ tables_1, d.before a0 Z = true) : Jvm.Cond.before (Jvm.Cond.instanceMethod ({ cls := "java/lang/String", name := "coder", desc := "()B" } : Jvm.MethodName)) a0 Z = true := hw _ (List.mem_of_getElem? (i := 100) rfl)
theorem own_W101 {a0 : Array Value} {Z : State} (hw : ∀ d ∈ tables_1, d.before a0 Z = true) : Jvm.Cond.before (Jvm.Cond.selects "java/lang/String" ({ cls := "java/lang/String", name := "coder", desc := "()B" } : Jvm.MethodName) ({ cls := "java/lang/String", name := "coder", desc := "()B" } : Jvm.MethodName)) a0 Z = true := hw _ (List.mem_of_getElem? (i := 101) rfl)
theorem own_W102 {a0 : Array Value} {Z : State} (hw : ∀ d ∈ tables_1, d.before a0 Z = true) : Jvm.Cond.before (Jvm.Cond.code ({ cls := "java/lang/String", name := "coder", desc := "()B" } : Jvm.MethodName) jdk_42_method_152_code (1 : Nat) (Option.some Jvm.ClassFile.FieldType.byte)) a0 Z = true := hw _ (List.mem_of_getElem? (i := 102) rfl)
theorem own_W103 {a0 : Array Value} {Z : State} (hw : ∀ d ∈ tables_1, d.before a0 Z = true) : Jvm.Cond.before (Jvm.Cond.fieldLink "java/lang/AbstractStringBuilder" (79 : Nat) "java/lang/AbstractStringBuilder" "count" "I") a0 Z = true := hw _ (List.mem_of_getElem? (i := 103) rfl)
theorem own_W104 {a0 : Array Value} {Z : State} (hw : ∀ d ∈ tables_1, d.before a0 Z = true) : Jvm.Cond.before (Jvm.Cond.lays "java/lang/StringBuilder" "java/lang/AbstractStringBuilder" "count" "I") a0 Z = true := hw _ (List.mem_of_getElem? (i := 104) rfl)
theorem own_W105 {a0 : Array Value} {Z : State} (hw : ∀ d ∈ tables_1, d.before a0 Z = true) : Jvm.Cond.before (Jvm.Cond.methodLink "java/lang/AbstractStringBuilder" (100 : Nat) ({ cls := "java/lang/AbstractStringBuilder", name := "ensureCapacityInternal", desc := "(I)V" } : Jvm.MethodName)) a0 Z = true := hw _ (List.mem_of_getElem? (i := 105) rfl)
theorem own_W106 {a0 : Array Value} {Z : State} (hw : ∀ d ∈ tables_1, d.before a0 Z = true) : Jvm.Cond.before (Jvm.Cond.instanceMethod ({ cls := "java/lang/AbstractStringBuilder", name := "ensureCapacityInternal", desc := "(I)V" } : Jvm.MethodName)) a0 Z = true := hw _ (List.mem_of_getElem? (i := 106) rfl)
theorem own_W107 {a0 : Array Value} {Z : State} (hw : ∀ d ∈ tables_1, d.before a0 Z = true) : Jvm.Cond.before (Jvm.Cond.privateMethod ({ cls := "java/lang/AbstractStringBuilder", name := "ensureCapacityInternal", desc := "(I)V" } : Jvm.MethodName)) a0 Z = true := hw _ (List.mem_of_getElem? (i := 107) rfl)
theorem own_W108 {a0 : Array Value} {Z : State} (hw : ∀ d ∈ tables_1, d.before a0 Z = true) : Jvm.Cond.before (Jvm.Cond.selects "java/lang/StringBuilder" ({ cls := "java/lang/AbstractStringBuilder", name := "ensureCapacityInternal", desc := "(I)V" } : Jvm.MethodName) ({ cls := "java/lang/AbstractStringBuilder", name := "ensureCapacityInternal", desc := "(I)V" } : Jvm.MethodName)) a0 Z = true := hw _ (List.mem_of_getElem? (i := 108) rfl)
theorem own_W109 {a0 : Array Value} {Z : State} (hw : ∀ d ∈ tables_1, d.before a0 Z = true) : Jvm.Cond.before (Jvm.Cond.code ({ cls := "java/lang/AbstractStringBuilder", name := "ensureCapacityInternal", desc := "(I)V" } : Jvm.MethodName) jdk_68_method_9_code (3 : Nat) (Option.none : Option Jvm.ClassFile.FieldType)) a0 Z = true := hw _ (List.mem_of_getElem? (i := 109) rfl)
theorem own_W110 {a0 : Array Value} {Z : State} (hw : ∀ d ∈ tables_1, d.before a0 Z = true) : Jvm.Cond.before (Jvm.Cond.methodLink "java/lang/AbstractStringBuilder" (208 : Nat) ({ cls := "java/lang/AbstractStringBuilder", name := "putStringAt", desc := "(ILjava/lang/String;)V" } : Jvm.MethodName)) a0 Z = true := hw _ (List.mem_of_getElem? (i := 110) rfl)
theorem own_W111 {a0 : Array Value} {Z : State} (hw : ∀ d ∈ tables_1, d.before a0 Z = true) : Jvm.Cond.before (Jvm.Cond.instanceMethod ({ cls := "java/lang/AbstractStringBuilder", name := "putStringAt", desc := "(ILjava/lang/String;)V" } : Jvm.MethodName)) a0 Z = true := hw _ (List.mem_of_getElem? (i := 111) rfl)
theorem own_W112 {a0 : Array Value} {Z : State} (hw : ∀ d ∈ tables_1, d.before a0 Z = true) : Jvm.Cond.before (Jvm.Cond.privateMethod ({ cls := "java/lang/AbstractStringBuilder", name := "putStringAt", desc := "(ILjava/lang/String;)V" } : Jvm.MethodName)) a0 Z = true := hw _ (List.mem_of_getElem? (i := 112) rfl)
theorem own_W113 {a0 : Array Value} {Z : State} (hw : ∀ d ∈ tables_1, d.before a0 Z = true) : Jvm.Cond.before (Jvm.Cond.selects "java/lang/StringBuilder" ({ cls := "java/lang/AbstractStringBuilder", name := "putStringAt", desc := "(ILjava/lang/String;)V" } : Jvm.MethodName) ({ cls := "java/lang/AbstractStringBuilder", name := "putStringAt", desc := "(ILjava/lang/String;)V" } : Jvm.MethodName)) a0 Z = true := hw _ (List.mem_of_getElem? (i := 113) rfl)
theorem own_W114 {a0 : Array Value} {Z : State} (hw : ∀ d ∈ tables_1, d.before a0 Z = true) : Jvm.Cond.before (Jvm.Cond.code ({ cls := "java/lang/AbstractStringBuilder", name := "putStringAt", desc := "(ILjava/lang/String;)V" } : Jvm.MethodName) jdk_68_method_73_code (3 : Nat) (Option.none : Option Jvm.ClassFile.FieldType)) a0 Z = true := hw _ (List.mem_of_getElem? (i := 114) rfl)
theorem own_W115 {a0 : Array Value} {Z : State} (hw : ∀ d ∈ tables_1, d.before a0 Z = true) : Jvm.Cond.before (Jvm.Cond.methodLink "java/lang/AbstractStringBuilder" (397 : Nat) ({ cls := "java/lang/AbstractStringBuilder", name := "inflateIfNeededFor", desc := "(Ljava/lang/String;)V" } : Jvm.MethodName)) a0 Z = true := hw _ (List.mem_of_getElem? (i := 115) rfl)
theorem own_W116 {a0 : Array Value} {Z : State} (hw : ∀ d ∈ tables_1, d.before a0 Z = true) : Jvm.Cond.before (Jvm.Cond.instanceMethod ({ cls := "java/lang/AbstractStringBuilder", name := "inflateIfNeededFor", desc := "(Ljava/lang/String;)V" } : Jvm.MethodName)) a0 Z = true := hw _ (List.mem_of_getElem? (i := 116) rfl)
theorem own_W117 {a0 : Array Value} {Z : State} (hw : ∀ d ∈ tables_1, d.before a0 Z = true) : Jvm.Cond.before (Jvm.Cond.privateMethod ({ cls := "java/lang/AbstractStringBuilder", name := "inflateIfNeededFor", desc := "(Ljava/lang/String;)V" } : Jvm.MethodName)) a0 Z = true := hw _ (List.mem_of_getElem? (i := 117) rfl)
theorem own_W118 {a0 : Array Value} {Z : State} (hw : ∀ d ∈ tables_1, d.before a0 Z = true) : Jvm.Cond.before (Jvm.Cond.selects "java/lang/StringBuilder" ({ cls := "java/lang/AbstractStringBuilder", name := "inflateIfNeededFor", desc := "(Ljava/lang/String;)V" } : Jvm.MethodName) ({ cls := "java/lang/AbstractStringBuilder", name := "inflateIfNeededFor", desc := "(Ljava/lang/String;)V" } : Jvm.MethodName)) a0 Z = true := hw _ (List.mem_of_getElem? (i := 118) rfl)
theorem own_W119 {a0 : Array Value} {Z : State} (hw : ∀ d ∈ tables_1, d.before a0 Z = true) : Jvm.Cond.before (Jvm.Cond.code ({ cls := "java/lang/AbstractStringBuilder", name := "inflateIfNeededFor", desc := "(Ljava/lang/String;)V" } : Jvm.MethodName) jdk_68_method_71_code (2 : Nat) (Option.none : Option Jvm.ClassFile.FieldType)) a0 Z = true := hw _ (List.mem_of_getElem? (i := 119) rfl)
theorem own_W120 {a0 : Array Value} {Z : State} (hw : ∀ d ∈ tables_1, d.before a0 Z = true) : Jvm.Cond.before (Jvm.Cond.methodLink "java/lang/AbstractStringBuilder" (40 : Nat) ({ cls := "java/lang/String", name := "coder", desc := "()B" } : Jvm.MethodName)) a0 Z = true := hw _ (List.mem_of_getElem? (i := 120) rfl)
theorem own_W121 {a0 : Array Value} {Z : State} (hw : ∀ d ∈ tables_1, d.before a0 Z = true) : Jvm.Cond.before (Jvm.Cond.methodLink "java/lang/AbstractStringBuilder" (399 : Nat) ({ cls := "java/lang/String", name := "getBytes", desc := "([BIB)V" } : Jvm.MethodName)) a0 Z = true := hw _ (List.mem_of_getElem? (i := 121) rfl)
theorem own_W122 {a0 : Array Value} {Z : State} (hw : ∀ d ∈ tables_1, d.before a0 Z = true) : Jvm.Cond.before (Jvm.Cond.declares ({ cls := "java/lang/String", name := "getBytes", desc := "([BIB)V" } : Jvm.MethodName)) a0 Z = true := hw _ (List.mem_of_getElem? (i := 122) rfl)
theorem own_W123 {a0 : Array Value} {Z : State} (hw : ∀ d ∈ tables_1, d.before a0 Z = true) : Jvm.Cond.before (Jvm.Cond.instanceMethod ({ cls := "java/lang/String", name := "getBytes", desc := "([BIB)V" } : Jvm.MethodName)) a0 Z = true := hw _ (List.mem_of_getElem? (i := 123) rfl)
theorem own_W124 {a0 : Array Value} {Z : State} (hw : ∀ d ∈ tables_1, d.before a0 Z = true) : Jvm.Cond.before (Jvm.Cond.selects "java/lang/String" ({ cls := "java/lang/String", name := "getBytes", desc := "([BIB)V" } : Jvm.MethodName) ({ cls := "java/lang/String", name := "getBytes", desc := "([BIB)V" } : Jvm.MethodName)) a0 Z = true := hw _ (List.mem_of_getElem? (i := 124) rfl)
theorem own_W125 {a0 : Array Value} {Z : State} (hw : ∀ d ∈ tables_1, d.before a0 Z = true) : Jvm.Cond.before (Jvm.Cond.code ({ cls := "java/lang/String", name := "getBytes", desc := "([BIB)V" } : Jvm.MethodName) jdk_42_method_147_code (4 : Nat) (Option.none : Option Jvm.ClassFile.FieldType)) a0 Z = true := hw _ (List.mem_of_getElem? (i := 125) rfl)
theorem own_W126 {a0 : Array Value} {Z : State} (hw : ∀ d ∈ tables_1, d.before a0 Z = true) : Jvm.Cond.before (Jvm.Cond.methodLink "java/lang/String" (212 : Nat) ({ cls := "java/lang/System", name := "arraycopy", desc := "(Ljava/lang/Object;ILjava/lang/Object;II)V" } : Jvm.MethodName)) a0 Z = true := hw _ (List.mem_of_getElem? (i := 126) rfl)
theorem own_W127 {a0 : Array Value} {Z : State} (hw : ∀ d ∈ tables_1, d.before a0 Z = true) : Jvm.Cond.before (Jvm.Cond.static ({ cls := "java/lang/System", name := "arraycopy", desc := "(Ljava/lang/Object;ILjava/lang/Object;II)V" } : Jvm.MethodName)) a0 Z = true := hw _ (List.mem_of_getElem? (i := 127) rfl)
theorem own_W128 {a0 : Array Value} {Z : State} (hw : ∀ d ∈ tables_1, d.before a0 Z = true) : Jvm.Cond.before (Jvm.Cond.initialized "java/lang/System") a0 Z = true := hw _ (List.mem_of_getElem? (i := 128) rfl)
theorem own_W129 {a0 : Array Value} {Z : State} (hw : ∀ d ∈ tables_1, d.before a0 Z = true) : Jvm.Cond.before (Jvm.Cond.native ({ cls := "java/lang/System", name := "arraycopy", desc := "(Ljava/lang/Object;ILjava/lang/Object;II)V" } : Jvm.MethodName)) a0 Z = true := hw _ (List.mem_of_getElem? (i := 129) rfl)
theorem own_W130 {a0 : Array Value} {Z : State} (hw : ∀ d ∈ tables_1, d.before a0 Z = true) : Jvm.Cond.before (Jvm.Cond.stringLink "com/example/incomewright/incomewright/casefile/Problem" (37 : Nat) ": ") a0 Z = true := hw _ (List.mem_of_getElem? (i := 130) rfl)
theorem own_W131 {a0 : Array Value} {Z : State} (hw : ∀ d ∈ tables_1, d.before a0 Z = true) : Jvm.Cond.before (Jvm.Cond.methodLink "com/example/incomewright/incomewright/casefile/Problem" (39 : Nat) ({ cls := "java/lang/StringBuilder", name := "toString", desc := "()Ljava/lang/String;" } : Jvm.MethodName)) a0 Z = true := hw _ (List.mem_of_getElem? (i := 131) rfl)
theorem own_W132 {a0 : Array Value} {Z : State} (hw : ∀ d ∈ tables_1, d.before a0 Z = true) : Jvm.Cond.before (Jvm.Cond.declares ({ cls := "java/lang/StringBuilder", name := "toString", desc := "()Ljava/lang/String;" } : Jvm.MethodName)) a0 Z = true := hw _ (List.mem_of_getElem? (i := 132) rfl)
theorem own_W133 {a0 : Array Value} {Z : State} (hw : ∀ d ∈ tables_1, d.before a0 Z = true) : Jvm.Cond.before (Jvm.Cond.instanceMethod ({ cls := "java/lang/StringBuilder", name := "toString", desc := "()Ljava/lang/String;" } : Jvm.MethodName)) a0 Z = true := hw _ (List.mem_of_getElem? (i := 133) rfl)
theorem own_W134 {a0 : Array Value} {Z : State} (hw : ∀ d ∈ tables_1, d.before a0 Z = true) : Jvm.Cond.before (Jvm.Cond.selects "java/lang/StringBuilder" ({ cls := "java/lang/StringBuilder", name := "toString", desc := "()Ljava/lang/String;" } : Jvm.MethodName) ({ cls := "java/lang/StringBuilder", name := "toString", desc := "()Ljava/lang/String;" } : Jvm.MethodName)) a0 Z = true := hw _ (List.mem_of_getElem? (i := 134) rfl)
theorem own_W135 {a0 : Array Value} {Z : State} (hw : ∀ d ∈ tables_1, d.before a0 Z = true) : Jvm.Cond.before (Jvm.Cond.code ({ cls := "java/lang/StringBuilder", name := "toString", desc := "()Ljava/lang/String;" } : Jvm.MethodName) jdk_67_method_42_code (1 : Nat) (Option.some (Jvm.ClassFile.FieldType.object "java/lang/String"))) a0 Z = true := hw _ (List.mem_of_getElem? (i := 135) rfl)
theorem own_W136 {a0 : Array Value} {Z : State} (hw : ∀ d ∈ tables_1, d.before a0 Z = true) : Jvm.Cond.before (Jvm.Cond.classLink "java/lang/StringBuilder" (18 : Nat) "java/lang/String") a0 Z = true := hw _ (List.mem_of_getElem? (i := 136) rfl)
theorem own_W137 {a0 : Array Value} {Z : State} (hw : ∀ d ∈ tables_1, d.before a0 Z = true) : Jvm.Cond.before (Jvm.Cond.methodLink "java/lang/StringBuilder" (137 : Nat) ({ cls := "java/lang/String", name := "<init>", desc := "(Ljava/lang/StringBuilder;)V" } : Jvm.MethodName)) a0 Z = true := hw _ (List.mem_of_getElem? (i := 137) rfl)
theorem own_W138 {a0 : Array Value} {Z : State} (hw : ∀ d ∈ tables_1, d.before a0 Z = true) : Jvm.Cond.before (Jvm.Cond.instanceMethod ({ cls := "java/lang/String", name := "<init>", desc := "(Ljava/lang/StringBuilder;)V" } : Jvm.MethodName)) a0 Z = true := hw _ (List.mem_of_getElem? (i := 138) rfl)
theorem own_W139 {a0 : Array Value} {Z : State} (hw : ∀ d ∈ tables_1, d.before a0 Z = true) : Jvm.Cond.before (Jvm.Cond.code ({ cls := "java/lang/String", name := "<init>", desc := "(Ljava/lang/StringBuilder;)V" } : Jvm.MethodName) jdk_42_method_53_code (2 : Nat) (Option.none : Option Jvm.ClassFile.FieldType)) a0 Z = true := hw _ (List.mem_of_getElem? (i := 139) rfl)
theorem own_W140 {a0 : Array Value} {Z : State} (hw : ∀ d ∈ tables_1, d.before a0 Z = true) : Jvm.Cond.before (Jvm.Cond.methodLink "java/lang/String" (489 : Nat) ({ cls := "java/lang/String", name := "<init>", desc := "(Ljava/lang/AbstractStringBuilder;Ljava/lang/Void;)V" } : Jvm.MethodName)) a0 Z = true := hw _ (List.mem_of_getElem? (i := 140) rfl)
theorem own_W141 {a0 : Array Value} {Z : State} (hw : ∀ d ∈ tables_1, d.before a0 Z = true) : Jvm.Cond.before (Jvm.Cond.instanceMethod ({ cls := "java/lang/String", name := "<init>", desc := "(Ljava/lang/AbstractStringBuilder;Ljava/lang/Void;)V" } : Jvm.MethodName)) a0 Z = true := hw _ (List.mem_of_getElem? (i := 141) rfl)
theorem own_W142 {a0 : Array Value} {Z : State} (hw : ∀ d ∈ tables_1, d.before a0 Z = true) : Jvm.Cond.before (Jvm.Cond.code ({ cls := "java/lang/String", name := "<init>", desc := "(Ljava/lang/AbstractStringBuilder;Ljava/lang/Void;)V" } : Jvm.MethodName) jdk_42_method_150_code (5 : Nat) (Option.none : Option Jvm.ClassFile.FieldType)) a0 Z = true := hw _ (List.mem_of_getElem? (i := 142) rfl)
theorem own_W143 {a0 : Array Value} {Z : State} (hw : ∀ d ∈ tables_1, d.before a0 Z = true) : Jvm.Cond.before (Jvm.Cond.methodLink "java/lang/String" (552 : Nat) ({ cls := "java/lang/AbstractStringBuilder", name := "getValue", desc := "()[B" } : Jvm.MethodName)) a0 Z = true := hw _ (List.mem_of_getElem? (i := 143) rfl)
theorem own_W144 {a0 : Array Value} {Z : State} (hw : ∀ d ∈ tables_1, d.before a0 Z = true) : Jvm.Cond.before (Jvm.Cond.declares ({ cls := "java/lang/AbstractStringBuilder", name := "getValue", desc := "()[B" } : Jvm.MethodName)) a0 Z = true := hw _ (List.mem_of_getElem? (i := 144) rfl)
theorem own_W145 {a0 : Array Value} {Z : State} (hw : ∀ d ∈ tables_1, d.before a0 Z = true) : Jvm.Cond.before (Jvm.Cond.instanceMethod ({ cls := "java/lang/AbstractStringBuilder", name := "getValue", desc := "()[B" } : Jvm.MethodName)) a0 Z = true := hw _ (List.mem_of_getElem? (i := 145) rfl)
theorem own_W146 {a0 : Array Value} {Z : State} (hw : ∀ d ∈ tables_1, d.before a0 Z = true) : Jvm.Cond.before (Jvm.Cond.selects "java/lang/StringBuilder" ({ cls := "java/lang/AbstractStringBuilder", name := "getValue", desc := "()[B" } : Jvm.MethodName) ({ cls := "java/lang/AbstractStringBuilder", name := "getValue", desc := "()[B" } : Jvm.MethodName)) a0 Z = true := hw _ (List.mem_of_getElem? (i := 146) rfl)
theorem own_W147 {a0 : Array Value} {Z : State} (hw : ∀ d ∈ tables_1, d.before a0 Z = true) : Jvm.Cond.before (Jvm.Cond.code ({ cls := "java/lang/AbstractStringBuilder", name := "getValue", desc := "()[B" } : Jvm.MethodName) jdk_68_method_64_code (1 : Nat) (Option.some (Jvm.ClassFile.FieldType.array Jvm.ClassFile.FieldType.byte))) a0 Z = true := hw _ (List.mem_of_getElem? (i := 147) rfl)
theorem own_W148 {a0 : Array Value} {Z : State} (hw : ∀ d ∈ tables_1, d.before a0 Z = true) : Jvm.Cond.before (Jvm.Cond.methodLink "java/lang/String" (549 : Nat) ({ cls := "java/lang/AbstractStringBuilder", name := "length", desc := "()I" } : Jvm.MethodName)) a0 Z = true := hw _ (List.mem_of_getElem? (i := 148) rfl)
theorem own_W149 {a0 : Array Value} {Z : State} (hw : ∀ d ∈ tables_1, d.before a0 Z = true) : Jvm.Cond.before (Jvm.Cond.declares ({ cls := "java/lang/AbstractStringBuilder", name := "length", desc := "()I" } : Jvm.MethodName)) a0 Z = true := hw _ (List.mem_of_getElem? (i := 149) rfl)
theorem own_W150 {a0 : Array Value} {Z : State} (hw : ∀ d ∈ tables_1, d.before a0 Z = true) : Jvm.Cond.before (Jvm.Cond.instanceMethod ({ cls := "java/lang/AbstractStringBuilder", name := "length", desc := "()I" } : Jvm.MethodName)) a0 Z = true := hw _ (List.mem_of_getElem? (i := 150) rfl)
theorem own_W151 {a0 : Array Value} {Z : State} (hw : ∀ d ∈ tables_1, d.before a0 Z = true) : Jvm.Cond.before (Jvm.Cond.selects "java/lang/StringBuilder" ({ cls := "java/lang/AbstractStringBuilder", name := "length", desc := "()I" } : Jvm.MethodName) ({ cls := "java/lang/StringBuilder", name := "length", desc := "()I" } : Jvm.MethodName)) a0 Z = true := hw _ (List.mem_of_getElem? (i := 151) rfl)
theorem own_W152 {a0 : Array Value} {Z : State} (hw : ∀ d ∈ tables_1, d.before a0 Z = true) : Jvm.Cond.before (Jvm.Cond.instanceMethod ({ cls := "java/lang/StringBuilder", name := "length", desc := "()I" } : Jvm.MethodName)) a0 Z = true := hw _ (List.mem_of_getElem? (i := 152) rfl)
theorem own_W153 {a0 : Array Value} {Z : State} (hw : ∀ d ∈ tables_1, d.before a0 Z = true) : Jvm.Cond.before (Jvm.Cond.code ({ cls := "java/lang/StringBuilder", name := "length", desc := "()I" } : Jvm.MethodName) jdk_67_method_93_code (1 : Nat) (Option.some Jvm.ClassFile.FieldType.int)) a0 Z = true := hw _ (List.mem_of_getElem? (i := 153) rfl)
theorem own_W154 {a0 : Array Value} {Z : State} (hw : ∀ d ∈ tables_1, d.before a0 Z = true) : Jvm.Cond.before (Jvm.Cond.methodLink "java/lang/StringBuilder" (343 : Nat) ({ cls := "java/lang/AbstractStringBuilder", name := "length", desc := "()I" } : Jvm.MethodName)) a0 Z = true := hw _ (List.mem_of_getElem? (i := 154) rfl)
theorem own_W155 {a0 : Array Value} {Z : State} (hw : ∀ d ∈ tables_1, d.before a0 Z = true) : Jvm.Cond.before (Jvm.Cond.code ({ cls := "java/lang/AbstractStringBuilder", name := "length", desc := "()I" } : Jvm.MethodName) jdk_68_method_6_code (1 : Nat) (Option.some Jvm.ClassFile.FieldType.int)) a0 Z = true := hw _ (List.mem_of_getElem? (i := 155) rfl)
theorem own_W156 {a0 : Array Value} {Z : State} (hw : ∀ d ∈ tables_1, d.before a0 Z = true) : Jvm.Cond.before (Jvm.Cond.methodLink "java/lang/String" (1047 : Nat) ({ cls := "java/lang/AbstractStringBuilder", name := "isLatin1", desc := "()Z" } : Jvm.MethodName)) a0 Z = true := hw _ (List.mem_of_getElem? (i := 156) rfl)
theorem own_W157 {a0 : Array Value} {Z : State} (hw : ∀ d ∈ tables_1, d.before a0 Z = true) : Jvm.Cond.before (Jvm.Cond.declares ({ cls := "java/lang/AbstractStringBuilder", name := "isLatin1", desc := "()Z" } : Jvm.MethodName)) a0 Z = true := hw _ (List.mem_of_getElem? (i := 157) rfl)
theorem own_W158 {a0 : Array Value} {Z : State} (hw : ∀ d ∈ tables_1, d.before a0 Z = true) : Jvm.Cond.before (Jvm.Cond.instanceMethod ({ cls := "java/lang/AbstractStringBuilder", name := "isLatin1", desc := "()Z" } : Jvm.MethodName)) a0 Z = true := hw _ (List.mem_of_getElem? (i := 158) rfl)
theorem own_W159 {a0 : Array Value} {Z : State} (hw : ∀ d ∈ tables_1, d.before a0 Z = true) : Jvm.Cond.before (Jvm.Cond.selects "java/lang/StringBuilder" ({ cls := "java/lang/AbstractStringBuilder", name := "isLatin1", desc := "()Z" } : Jvm.MethodName) ({ cls := "java/lang/AbstractStringBuilder", name := "isLatin1", desc := "()Z" } : Jvm.MethodName)) a0 Z = true := hw _ (List.mem_of_getElem? (i := 159) rfl)
theorem own_W160 {a0 : Array Value} {Z : State} (hw : ∀ d ∈ tables_1, d.before a0 Z = true) : Jvm.Cond.before (Jvm.Cond.code ({ cls := "java/lang/AbstractStringBuilder", name := "isLatin1", desc := "()Z" } : Jvm.MethodName) jdk_68_method_68_code (1 : Nat) (Option.some Jvm.ClassFile.FieldType.boolean)) a0 Z = true := hw _ (List.mem_of_getElem? (i := 160) rfl)
theorem own_W161 {a0 : Array Value} {Z : State} (hw : ∀ d ∈ tables_1, d.before a0 Z = true) : Jvm.Cond.before (Jvm.Cond.methodLink "java/lang/String" (54 : Nat) ({ cls := "java/util/Arrays", name := "copyOfRange", desc := "([BII)[B" } : Jvm.MethodName)) a0 Z = true := hw _ (List.mem_of_getElem? (i := 161) rfl)
theorem own_W162 {a0 : Array Value} {Z : State} (hw : ∀ d ∈ tables_1, d.before a0 Z = true) : Jvm.Cond.before (Jvm.Cond.static ({ cls := "java/util/Arrays", name := "copyOfRange", desc := "([BII)[B" } : Jvm.MethodName)) a0 Z = true := hw _ (List.mem_of_getElem? (i := 162) rfl)
theorem own_W163 {a0 : Array Value} {Z : State} (hw : ∀ d ∈ tables_1, d.before a0 Z = true) : Jvm.Cond.before (Jvm.Cond.initialized "java/util/Arrays") a0 Z = true := hw _ (List.mem_of_getElem? (i := 163) rfl)
theorem own_W164 {a0 : Array Value} {Z : State} (hw : ∀ d ∈ tables_1, d.before a0 Z = true) : Jvm.Cond.before (Jvm.Cond.code ({ cls := "java/util/Arrays", name := "copyOfRange", desc := "([BII)[B" } : Jvm.MethodName) jdk_65_method_132_code (3 : Nat) (Option.some (Jvm.ClassFile.FieldType.array Jvm.ClassFile.FieldType.byte))) a0 Z = true := hw _ (List.mem_of_getElem? (i := 164) rfl)
theorem own_W165 {a0 : Array Value} {Z : State} (hw : ∀ d ∈ tables_1, d.before a0 Z = true) : Jvm.Cond.before (Jvm.Cond.methodLink "java/util/Arrays" (339 : Nat) ({ cls := "java/util/Arrays", name := "copyOfRangeByte", desc := "([BII)[B" } : Jvm.MethodName)) a0 Z = true := hw _ (List.mem_of_getElem? (i := 165) rfl)
theorem own_W166 {a0 : Array Value} {Z : State} (hw : ∀ d ∈ tables_1, d.before a0 Z = true) : Jvm.Cond.before (Jvm.Cond.static ({ cls := "java/util/Arrays", name := "copyOfRangeByte", desc := "([BII)[B" } : Jvm.MethodName)) a0 Z = true := hw _ (List.mem_of_getElem? (i := 166) rfl)
theorem own_W167 {a0 : Array Value} {Z : State} (hw : ∀ d ∈ tables_1, d.before a0 Z = true) : Jvm.Cond.before (Jvm.Cond.code ({ cls := "java/util/Arrays", name := "copyOfRangeByte", desc := "([BII)[B" } : Jvm.MethodName) jdk_65_method_133_code (5 : Nat) (Option.some (Jvm.ClassFile.FieldType.array Jvm.ClassFile.FieldType.byte))) a0 Z = true := hw _ (List.mem_of_getElem? (i := 167) rfl)
theorem own_W168 {a0 : Array Value} {Z : State} (hw : ∀ d ∈ tables_1, d.before a0 Z = true) : Jvm.Cond.before (Jvm.Cond.methodLink "java/util/Arrays" (343 : Nat) ({ cls := "java/util/Arrays", name := "checkLength", desc := "(II)V" } : Jvm.MethodName)) a0 Z = true := hw _ (List.mem_of_getElem? (i := 168) rfl)
theorem own_W169 {a0 : Array Value} {Z : State} (hw : ∀ d ∈ tables_1, d.before a0 Z = true) : Jvm.Cond.before (Jvm.Cond.static ({ cls := "java/util/Arrays", name := "checkLength", desc := "(II)V" } : Jvm.MethodName)) a0 Z = true := hw _ (List.mem_of_getElem? (i := 169) rfl)
theorem own_W170 {a0 : Array Value} {Z : State} (hw : ∀ d ∈ tables_1, d.before a0 Z = true) : Jvm.Cond.before (Jvm.Cond.code ({ cls := "java/util/Arrays", name := "checkLength", desc := "(II)V" } : Jvm.MethodName) jdk_65_method_131_code (2 : Nat) (Option.none : Option Jvm.ClassFile.FieldType)) a0 Z = true := hw _ (List.mem_of_getElem? (i := 170) rfl)
theorem own_W171 {a0 : Array Value} {Z : State} (hw : ∀ d ∈ tables_1, d.before a0 Z = true) : Jvm.Cond.before (Jvm.Cond.methodLink "java/util/Arrays" (304 : Nat) ({ cls := "java/lang/Math", name := "min", desc := "(II)I" } : Jvm.MethodName)) a0 Z = true := hw _ (List.mem_of_getElem? (i := 171) rfl)
theorem own_W172 {a0 : Array Value} {Z : State} (hw : ∀ d ∈ tables_1, d.before a0 Z = true) : Jvm.Cond.before (Jvm.Cond.static ({ cls := "java/lang/Math", name := "min", desc := "(II)I" } : Jvm.MethodName)) a0 Z = true := hw _ (List.mem_of_getElem? (i := 172) rfl)
theorem own_W173 {a0 : Array Value} {Z : State} (hw : ∀ d ∈ tables_1, d.before a0 Z = true) : Jvm.Cond.before (Jvm.Cond.initialized "java/lang/Math") a0 Z = true := hw _ (List.mem_of_getElem? (i := 173) rfl)
theorem own_W174 {a0 : Array Value} {Z : State} (hw : ∀ d ∈ tables_1, d.before a0 Z = true) : Jvm.Cond.before (Jvm.Cond.code ({ cls := "java/lang/Math", name := "min", desc := "(II)I" } : Jvm.MethodName) jdk_29_method_69_code (2 : Nat) (Option.some Jvm.ClassFile.FieldType.int)) a0 Z = true := hw _ (List.mem_of_getElem? (i := 174) rfl)
theorem own_W175 {a0 : Array Value} {Z : State} (hw : ∀ d ∈ tables_1, d.before a0 Z = true) : Jvm.Cond.before (Jvm.Cond.methodLink "java/util/Arrays" (150 : Nat) ({ cls := "java/lang/System", name := "arraycopy", desc := "(Ljava/lang/Object;ILjava/lang/Object;II)V" } : Jvm.MethodName)) a0 Z = true := hw _ (List.mem_of_getElem? (i := 175) rfl)
theorem own_W176 {a0 : Array Value} {Z : State} (hw : ∀ d ∈ tables_1, d.before a0 Z = true) : Jvm.Cond.before (Jvm.Cond.methodLink "com/example/incomewright/incomewright/casefile/ProblemToStringPinLaw" (39 : Nat) ({ cls := "java/lang/String", name := "length", desc := "()I" } : Jvm.MethodName)) a0 Z = true := hw _ (List.mem_of_getElem? (i := 176) rfl)
theorem own_W177 {a0 : Array Value} {Z : State} (hw : ∀ d ∈ tables_1, d.before a0 Z = true) : Jvm.Cond.before (Jvm.Cond.methodLink "com/example/incomewright/incomewright/casefile/ProblemToStringPinLaw" (43 : Nat) ({ cls := "com/example/incomewright/incomewright/casefile/ProblemToStringPinLaw", name := "at", desc := "(Ljava/lang/String;IIICCCC)Z" } : Jvm.MethodName)) a0 Z = true := hw _ (List.mem_of_getElem? (i := 177) rfl)
theorem own_W178 {a0 : Array Value} {Z : State} (hw : ∀ d ∈ tables_1, d.before a0 Z = true) : Jvm.Cond.before (Jvm.Cond.static ({ cls := "com/example/incomewright/incomewright/casefile/ProblemToStringPinLaw", name := "at", desc := "(Ljava/lang/String;IIICCCC)Z" } : Jvm.MethodName)) a0 Z = true := hw _ (List.mem_of_getElem? (i := 178) rfl)
theorem own_W179 {a0 : Array Value} {Z : State} (hw : ∀ d ∈ tables_1, d.before a0 Z = true) : Jvm.Cond.before (Jvm.Cond.code ({ cls := "com/example/incomewright/incomewright/casefile/ProblemToStringPinLaw", name := "at", desc := "(Ljava/lang/String;IIICCCC)Z" } : Jvm.MethodName) method_5_code (8 : Nat) (Option.some Jvm.ClassFile.FieldType.boolean)) a0 Z = true := hw _ (List.mem_of_getElem? (i := 179) rfl)
theorem own_W180 {a0 : Array Value} {Z : State} (hw : ∀ d ∈ tables_1, d.before a0 Z = true) : Jvm.Cond.before (Jvm.Cond.methodLink "com/example/incomewright/incomewright/casefile/ProblemToStringPinLaw" (18 : Nat) ({ cls := "java/lang/String", name := "charAt", desc := "(I)C" } : Jvm.MethodName)) a0 Z = true := hw _ (List.mem_of_getElem? (i := 180) rfl)
theorem own_W181 {a0 : Array Value} {Z : State} (hw : ∀ d ∈ tables_1, d.before a0 Z = true) : Jvm.Cond.before (Jvm.Cond.declares ({ cls := "java/lang/String", name := "charAt", desc := "(I)C" } : Jvm.MethodName)) a0 Z = true := hw _ (List.mem_of_getElem? (i := 181) rfl)
theorem own_W182 {a0 : Array Value} {Z : State} (hw : ∀ d ∈ tables_1, d.before a0 Z = true) : Jvm.Cond.before (Jvm.Cond.instanceMethod ({ cls := "java/lang/String", name := "charAt", desc := "(I)C" } : Jvm.MethodName)) a0 Z = true := hw _ (List.mem_of_getElem? (i := 182) rfl)
theorem own_W183 {a0 : Array Value} {Z : State} (hw : ∀ d ∈ tables_1, d.before a0 Z = true) : Jvm.Cond.before (Jvm.Cond.selects "java/lang/String" ({ cls := "java/lang/String", name := "charAt", desc := "(I)C" } : Jvm.MethodName) ({ cls := "java/lang/String", name := "charAt", desc := "(I)C" } : Jvm.MethodName)) a0 Z = true := hw _ (List.mem_of_getElem? (i := 183) rfl)
theorem own_W184 {a0 : Array Value} {Z : State} (hw : ∀ d ∈ tables_1, d.before a0 Z = true) : Jvm.Cond.before (Jvm.Cond.code ({ cls := "java/lang/String", name := "charAt", desc := "(I)C" } : Jvm.MethodName) jdk_42_method_56_code (2 : Nat) (Option.some Jvm.ClassFile.FieldType.char)) a0 Z = true := hw _ (List.mem_of_getElem? (i := 184) rfl)
theorem own_W185 {a0 : Array Value} {Z : State} (hw : ∀ d ∈ tables_1, d.before a0 Z = true) : Jvm.Cond.before (Jvm.Cond.methodLink "java/lang/String" (492 : Nat) ({ cls := "java/lang/String", name := "isLatin1", desc := "()Z" } : Jvm.MethodName)) a0 Z = true := hw _ (List.mem_of_getElem? (i := 185) rfl)
theorem own_W186 {a0 : Array Value} {Z : State} (hw : ∀ d ∈ tables_1, d.before a0 Z = true) : Jvm.Cond.before (Jvm.Cond.declares ({ cls := "java/lang/String", name := "isLatin1", desc := "()Z" } : Jvm.MethodName)) a0 Z = true := hw _ (List.mem_of_getElem? (i := 186) rfl)
theorem own_W187 {a0 : Array Value} {Z : State} (hw : ∀ d ∈ tables_1, d.before a0 Z = true) : Jvm.Cond.before (Jvm.Cond.instanceMethod ({ cls := "java/lang/String", name := "isLatin1", desc := "()Z" } : Jvm.MethodName)) a0 Z = true := hw _ (List.mem_of_getElem? (i := 187) rfl)
theorem own_W188 {a0 : Array Value} {Z : State} (hw : ∀ d ∈ tables_1, d.before a0 Z = true) : Jvm.Cond.before (Jvm.Cond.selects "java/lang/String" ({ cls := "java/lang/String", name := "isLatin1", desc := "()Z" } : Jvm.MethodName) ({ cls := "java/lang/String", name := "isLatin1", desc := "()Z" } : Jvm.MethodName)) a0 Z = true := hw _ (List.mem_of_getElem? (i := 188) rfl)
theorem own_W189 {a0 : Array Value} {Z : State} (hw : ∀ d ∈ tables_1, d.before a0 Z = true) : Jvm.Cond.before (Jvm.Cond.code ({ cls := "java/lang/String", name := "isLatin1", desc := "()Z" } : Jvm.MethodName) jdk_42_method_154_code (1 : Nat) (Option.some Jvm.ClassFile.FieldType.boolean)) a0 Z = true := hw _ (List.mem_of_getElem? (i := 189) rfl)
theorem own_W190 {a0 : Array Value} {Z : State} (hw : ∀ d ∈ tables_1, d.before a0 Z = true) : Jvm.Cond.before (Jvm.Cond.methodLink "java/lang/String" (495 : Nat) ({ cls := "java/lang/StringLatin1", name := "charAt", desc := "([BI)C" } : Jvm.MethodName)) a0 Z = true := hw _ (List.mem_of_getElem? (i := 190) rfl)
theorem own_W191 {a0 : Array Value} {Z : State} (hw : ∀ d ∈ tables_1, d.before a0 Z = true) : Jvm.Cond.before (Jvm.Cond.static ({ cls := "java/lang/StringLatin1", name := "charAt", desc := "([BI)C" } : Jvm.MethodName)) a0 Z = true := hw _ (List.mem_of_getElem? (i := 191) rfl)
theorem own_W192 {a0 : Array Value} {Z : State} (hw : ∀ d ∈ tables_1, d.before a0 Z = true) : Jvm.Cond.before (Jvm.Cond.initialized "java/lang/StringLatin1") a0 Z = true := hw _ (List.mem_of_getElem? (i := 192) rfl)
theorem own_W193 {a0 : Array Value} {Z : State} (hw : ∀ d ∈ tables_1, d.before a0 Z = true) : Jvm.Cond.before (Jvm.Cond.code ({ cls := "java/lang/StringLatin1", name := "charAt", desc := "([BI)C" } : Jvm.MethodName) jdk_43_method_2_code (2 : Nat) (Option.some Jvm.ClassFile.FieldType.char)) a0 Z = true := hw _ (List.mem_of_getElem? (i := 193) rfl)
theorem own_W194 {a0 : Array Value} {Z : State} (hw : ∀ d ∈ tables_1, d.before a0 Z = true) : Jvm.Cond.before (Jvm.Cond.methodLink "java/lang/StringLatin1" (9 : Nat) ({ cls := "java/lang/String", name := "checkIndex", desc := "(II)V" } : Jvm.MethodName)) a0 Z = true := hw _ (List.mem_of_getElem? (i := 194) rfl)
theorem own_W195 {a0 : Array Value} {Z : State} (hw : ∀ d ∈ tables_1, d.before a0 Z = true) : Jvm.Cond.before (Jvm.Cond.static ({ cls := "java/lang/String", name := "checkIndex", desc := "(II)V" } : Jvm.MethodName)) a0 Z = true := hw _ (List.mem_of_getElem? (i := 195) rfl)
theorem own_W196 {a0 : Array Value} {Z : State} (hw : ∀ d ∈ tables_1, d.before a0 Z = true) : Jvm.Cond.before (Jvm.Cond.code ({ cls := "java/lang/String", name := "checkIndex", desc := "(II)V" } : Jvm.MethodName) jdk_42_method_155_code (2 : Nat) (Option.none : Option Jvm.ClassFile.FieldType)) a0 Z = true := hw _ (List.mem_of_getElem? (i := 196) rfl)
theorem own_W197 {a0 : Array Value} {Z : State} (hw : ∀ d ∈ tables_1, d.before a0 Z = true) : Jvm.Cond.before (Jvm.Cond.fieldLink "java/lang/String" (1053 : Nat) "jdk/internal/util/Preconditions" "SIOOBE_FORMATTER" "Ljava/util/function/BiFunction;") a0 Z = true := hw _ (List.mem_of_getElem? (i := 197) rfl)
theorem own_W198 {a0 : Array Value} {Z : State} (hw : ∀ d ∈ tables_1, d.before a0 Z = true) : Jvm.Cond.before (Jvm.Cond.initialized "jdk/internal/util/Preconditions") a0 Z = true := hw _ (List.mem_of_getElem? (i := 198) rfl)
theorem own_W199 {a0 : Array Value} {Z : State} (hw : ∀ d ∈ tables_1, d.before a0 Z = true) : Jvm.Cond.before (Jvm.Cond.methodLink "java/lang/String" (1059 : Nat) ({ cls := "jdk/internal/util/Preconditions", name := "checkIndex", desc := "(IILjava/util/function/BiFunction;)I" } : Jvm.MethodName)) a0 Z = true := hw _ (List.mem_of_getElem? (i := 199) rfl)
theorem own_W200 {a0 : Array Value} {Z : State} (hw : ∀ d ∈ tables_1, d.before a0 Z = true) : Jvm.Cond.before (Jvm.Cond.static ({ cls := "jdk/internal/util/Preconditions", name := "checkIndex", desc := "(IILjava/util/function/BiFunction;)I" } : Jvm.MethodName)) a0 Z = true := hw _ (List.mem_of_getElem? (i := 200) rfl)
theorem own_W201 {a0 : Array Value} {Z : State} (hw : ∀ d ∈ tables_1, d.before a0 Z = true) : Jvm.Cond.before (Jvm.Cond.code ({ cls := "jdk/internal/util/Preconditions", name := "checkIndex", desc := "(IILjava/util/function/BiFunction;)I" } : Jvm.MethodName) jdk_41_method_11_code (3 : Nat) (Option.some Jvm.ClassFile.FieldType.int)) a0 Z = true := hw _ (List.mem_of_getElem? (i := 201) rfl)
theorem own_W202 {a0 : Array Value} {Z : State} (hw : ∀ d ∈ tables_1, d.before a0 Z = true) : Jvm.Cond.before (Jvm.Cond.methodLink "com/example/incomewright/incomewright/casefile/ProblemToStringPinLaw" (22 : Nat) ({ cls := "com/example/incomewright/incomewright/casefile/ProblemToStringPinLaw", name := "expChar", desc := "(IICCCC)C" } : Jvm.MethodName)) a0 Z = true := hw _ (List.mem_of_getElem? (i := 202) rfl)
theorem own_W203 {a0 : Array Value} {Z : State} (hw : ∀ d ∈ tables_1, d.before a0 Z = true) : Jvm.Cond.before (Jvm.Cond.static ({ cls := "com/example/incomewright/incomewright/casefile/ProblemToStringPinLaw", name := "expChar", desc := "(IICCCC)C" } : Jvm.MethodName)) a0 Z = true := hw _ (List.mem_of_getElem? (i := 203) rfl)
theorem own_W204 {a0 : Array Value} {Z : State} (hw : ∀ d ∈ tables_1, d.before a0 Z = true) : Jvm.Cond.before (Jvm.Cond.code ({ cls := "com/example/incomewright/incomewright/casefile/ProblemToStringPinLaw", name := "expChar", desc := "(IICCCC)C" } : Jvm.MethodName) method_4_code (6 : Nat) (Option.some Jvm.ClassFile.FieldType.char)) a0 Z = true := hw _ (List.mem_of_getElem? (i := 204) rfl)
theorem own_W205 {a0 : Array Value} {Z : State} (hw : ∀ d ∈ tables_1, d.before a0 Z = true) : Jvm.Cond.before (Jvm.Cond.methodLink "com/example/incomewright/incomewright/casefile/ProblemToStringPinLaw" (12 : Nat) ({ cls := "com/example/incomewright/incomewright/casefile/ProblemToStringPinLaw", name := "pick", desc := "(ICC)C" } : Jvm.MethodName)) a0 Z = true := hw _ (List.mem_of_getElem? (i := 205) rfl)
theorem own_W206 {a0 : Array Value} {Z : State} (hw : ∀ d ∈ tables_1, d.before a0 Z = true) : Jvm.Cond.before (Jvm.Cond.static ({ cls := "com/example/incomewright/incomewright/casefile/ProblemToStringPinLaw", name := "pick", desc := "(ICC)C" } : Jvm.MethodName)) a0 Z = true := hw _ (List.mem_of_getElem? (i := 206) rfl)
theorem own_W207 {a0 : Array Value} {Z : State} (hw : ∀ d ∈ tables_1, d.before a0 Z = true) : Jvm.Cond.before (Jvm.Cond.code ({ cls := "com/example/incomewright/incomewright/casefile/ProblemToStringPinLaw", name := "pick", desc := "(ICC)C" } : Jvm.MethodName) method_3_code (3 : Nat) (Option.some Jvm.ClassFile.FieldType.char)) a0 Z = true := hw _ (List.mem_of_getElem? (i := 207) rfl)
def QU  (h0 : Heap) (n0 : Nat) (v : Option Value) (h : Heap) (L : List Loc) : Prop := v = none ∧ Fr n0 L ∧ h = h0
def QI (z : Int32) (h0 : Heap) (n0 : Nat) (v : Option Value) (h : Heap) (L : List Loc) : Prop := v = some (.int z) ∧ Fr n0 L ∧ h = h0
def QRf (b : Addr) (h0 : Heap) (n0 : Nat) (v : Option Value) (h : Heap) (L : List Loc) : Prop := v = some (.ref b) ∧ Fr n0 L ∧ h = h0
theorem d17_0 : decode jdk_42_method_152_code 0 = .ok (.getstatic 38, 3) := by decide +kernel
theorem d17_3 : decode jdk_42_method_152_code 3 = .ok (.ifCond .eq 10, 3) := by decide +kernel
theorem d17_6 : decode jdk_42_method_152_code 6 = .ok (.aload_n 0, 1) := by decide +kernel
theorem d17_7 : decode jdk_42_method_152_code 7 = .ok (.getfield 15, 3) := by decide +kernel
theorem d17_10 : decode jdk_42_method_152_code 10 = .ok (.goto 4, 3) := by decide +kernel
theorem d17_13 : decode jdk_42_method_152_code 13 = .ok (.iconst 1, 1) := by decide +kernel
theorem d17_14 : decode jdk_42_method_152_code 14 = .ok (.ireturn, 1) := by decide +kernel
theorem own_pn_java_lang_String : plainName "java/lang/String" = true := by first | (simp [plainName, overriddenIn]; done) | decide +kernel
theorem own_ef17 (m : MethodId) (x0 : Addr) : entryFrame m #[(.ref x0)] 1 = mkF m 0 #[.val (.ref x0)] [] := by first | (simp [entryFrame, mkF, argsToLocals, Value.category]; done) | rfl
set_option maxRecDepth 65536 in
set_option maxHeartbeats 40000000 in
theorem rmCod (l : Launch) (Z : State) (a0 : Array Value) (hw : ∀ d ∈ tables_1, d.before a0 Z = true) (ws : List Jvm.Cond) (a : Addr) (cz : Int32)  (h0 : Heap) (n0 : Nat) (Z0 : n0 ≤ h0.size) (F2 : Fld Z h0 a "java/lang/String" "coder" "B" (.int (0 : Int32))) (O2 : Sta Z Z.heap "java/lang/String" "COMPACT_STRINGS" "Z" (.int cz)) (P5 : ¬ cz = 0) (OLD0 : Old Z n0 h0) :
    MetFree l (⟨"java/lang/String", "coder", "()B"⟩ : MethodName) (head1 (Jvm.Cond.code (⟨"java/lang/String", "coder", "()B"⟩ : MethodName) jdk_42_method_152_code 1 (some .byte) :: ws) ({ frames := 0, cells := 0, slots := 0, locals := 0 } : Room)) (fun α U => α = #[(.ref a)] ∧ Z.Warmed39 U.vm ∧ U.heap = h0) (fun _ _ _ _ _ => True) (fun _ U ω U' => ∃ ν Λ, ω = .returned ν ∧ QI 0 h0 n0 ν U'.heap Λ ∧ FrameEnd U ω U' Λ ({ frames := 0, cells := 0, slots := 0, locals := 0 } : Room).cells ({ frames := 0, cells := 0, slots := 0, locals := 0 } : Room).slots) := by
  refine MetFree.of_bodySF (plainFor_of_name own_pn_java_lang_String) hisR ?_
  intro p e s m args below meth c s₁ Bd hml0 hP hK
  obtain ⟨rfl, hZ, hh⟩ := hP
  have hx := Bd.exec
  have hby := Bd.bytes
  have hml : c.maxLocals = 1 := hml0
  have hown : s.vm.findClass "java/lang/String" = some m.cls := findClass_of_methodNamed Bd.named
  have hnm := (name_of_methodNamed Bd.named Bd.method).1
  have X0 : Stand p l e ({ frames := 0, cells := 0, slots := 0, locals := 0 } : Room) s m #[(.ref a)] below meth c s₁ [] 0 0 := Stand.of_body Bd
  have e0 : s₁.heap = h0 := by rw [← hh, Bd.state]; rfl
  have N0 := Fr.nil n0
  have KK0 : Keep h0 h0 [] := Keep.refl h0 []
  obtain ⟨PS, hPS⟩ : ∃ P : State → Prop, P = fun τ => Steps p.tables e below (s₁.setTop (entryFrame m #[(.ref a)] 1)) τ := ⟨_, rfl⟩
  have pre0 : ∀ τ, Steps p.tables e below (s₁.setTop (mkF m 0 #[.val (.ref a)] [])) τ → PS τ := by rw [hPS]; exact fun τ κ => castTop (own_ef17 m a) κ
  obtain ⟨T1, X1, e1, st1⟩ := getS2 X0 hx hZ hown (host := "") (Or.inl (own_W18 hw)) Via.refl e0 (O2.ext OLD0.2) (g := (mkF m 0 #[.val (.ref a)] [])) rfl (Jvm.hb hby d17_0)
  have pre2 := fun (τ : State) kt => pre0 τ (st1 τ kt)
  obtain ⟨T3, X3, e3, st3⟩ := getF X1 hx hZ hown (host := "") (Or.inl (own_W30 hw)) Via.refl e1 F2 (g := (mkF m 7 #[.val (.ref a)] [(.ref a)])) rfl rfl (Jvm.hb hby d17_7)
  have pre4 := fun (τ : State) kt => pre2 τ (by
    show Steps p.tables e below (T1.setTop (mkF m 3 #[.val (.ref a)] [(.int cz)])) τ
    refine XS.ifNo X1.here hx rfl (Jvm.hb hby d17_3) rfl ((if0 _ _).trans (feq P5).1) ?_
    refine XS.aloadN X1.here hx rfl (Jvm.hb hby d17_6) rfl rfl ?_
    exact st3 τ kt)
  have pre5 := fun (τ : State) kt => pre4 τ (by
    show Steps p.tables e below (T3.setTop (mkF m 10 #[.val (.ref a)] [(.int (0 : Int32))])) τ
    refine XS.goto X3.here hx rfl (pc0 := 10) (pc' := 14) rfl (Jvm.hb hby d17_10) (by decide) (by decide) ?_
    exact kt)
  obtain ⟨fs, hrL, hrun, hended, hW, hsame⟩ := X3.leave (v := some (.int (0 : Int32))) (fun h => by rw [Bd.returns] at h; cases h)
  refine ⟨_, _, cast (congrFun hPS _) (pre5 _ ?_), hrun, hended, _, _, rfl, ?_, ⟨_, rfl⟩, hW, hsame.mono (by decide) (by decide)⟩
  · show Steps p.tables e below (T3.setTop (mkF m 14 #[.val (.ref a)] [(.int (0 : Int32))])) _
    exact retN X3 hx (t := .byte) Bd.returns (by simp) (Jvm.hb hby d17_14) hrL
  · show QI 0 h0 n0 _ T3.heap _
    rw [e3]
    exact ⟨rfl, N0, rfl⟩
theorem d35_0 : decode jdk_42_method_154_code 0 = .ok (.getstatic 38, 3) := by decide +kernel
theorem d35_3 : decode jdk_42_method_154_code 3 = .ok (.ifCond .eq 14, 3) := by decide +kernel
theorem d35_6 : decode jdk_42_method_154_code 6 = .ok (.aload_n 0, 1) := by decide +kernel
theorem d35_7 : decode jdk_42_method_154_code 7 = .ok (.getfield 15, 3) := by decide +kernel
theorem d35_10 : decode jdk_42_method_154_code 10 = .ok (.ifCond .ne 7, 3) := by decide +kernel
theorem d35_13 : decode jdk_42_method_154_code 13 = .ok (.iconst 1, 1) := by decide +kernel
theorem d35_14 : decode jdk_42_method_154_code 14 = .ok (.goto 4, 3) := by decide +kernel
theorem d35_17 : decode jdk_42_method_154_code 17 = .ok (.iconst 0, 1) := by decide +kernel
theorem d35_18 : decode jdk_42_method_154_code 18 = .ok (.ireturn, 1) := by decide +kernel
theorem own_ef35 (m : MethodId) (x0 : Addr) : entryFrame m #[(.ref x0)] 1 = mkF m 0 #[.val (.ref x0)] [] := by first | (simp [entryFrame, mkF, argsToLocals, Value.category]; done) | rfl
set_option maxRecDepth 65536 in
set_option maxHeartbeats 40000000 in
theorem rmIL (l : Launch) (Z : State) (a0 : Array Value) (hw : ∀ d ∈ tables_1, d.before a0 Z = true) (ws : List Jvm.Cond) (a : Addr) (cz : Int32)  (h0 : Heap) (n0 : Nat) (Z0 : n0 ≤ h0.size) (F2 : Fld Z h0 a "java/lang/String" "coder" "B" (.int (0 : Int32))) (O2 : Sta Z Z.heap "java/lang/String" "COMPACT_STRINGS" "Z" (.int cz)) (P5 : ¬ cz = 0) (OLD0 : Old Z n0 h0) :
    MetFree l (⟨"java/lang/String", "isLatin1", "()Z"⟩ : MethodName) (head1 (Jvm.Cond.code (⟨"java/lang/String", "isLatin1", "()Z"⟩ : MethodName) jdk_42_method_154_code 1 (some .boolean) :: ws) ({ frames := 0, cells := 0, slots := 0, locals := 0 } : Room)) (fun α U => α = #[(.ref a)] ∧ Z.Warmed39 U.vm ∧ U.heap = h0) (fun _ _ _ _ _ => True) (fun _ U ω U' => ∃ ν Λ, ω = .returned ν ∧ QI 1 h0 n0 ν U'.heap Λ ∧ FrameEnd U ω U' Λ ({ frames := 0, cells := 0, slots := 0, locals := 0 } : Room).cells ({ frames := 0, cells := 0, slots := 0, locals := 0 } : Room).slots) := by
  refine MetFree.of_bodySF (plainFor_of_name own_pn_java_lang_String) hisR ?_
  intro p e s m args below meth c s₁ Bd hml0 hP hK
  obtain ⟨rfl, hZ, hh⟩ := hP
  have hx := Bd.exec
  have hby := Bd.bytes
  have hml : c.maxLocals = 1 := hml0
  have hown : s.vm.findClass "java/lang/String" = some m.cls := findClass_of_methodNamed Bd.named
  have hnm := (name_of_methodNamed Bd.named Bd.method).1
  have X0 : Stand p l e ({ frames := 0, cells := 0, slots := 0, locals := 0 } : Room) s m #[(.ref a)] below meth c s₁ [] 0 0 := Stand.of_body Bd
  have e0 : s₁.heap = h0 := by rw [← hh, Bd.state]; rfl
  have N0 := Fr.nil n0
  have KK0 : Keep h0 h0 [] := Keep.refl h0 []
  obtain ⟨PS, hPS⟩ : ∃ P : State → Prop, P = fun τ => Steps p.tables e below (s₁.setTop (entryFrame m #[(.ref a)] 1)) τ := ⟨_, rfl⟩
  have pre0 : ∀ τ, Steps p.tables e below (s₁.setTop (mkF m 0 #[.val (.ref a)] [])) τ → PS τ := by rw [hPS]; exact fun τ κ => castTop (own_ef35 m a) κ
  obtain ⟨T6, X6, e6, st6⟩ := getS2 X0 hx hZ hown (host := "") (Or.inl (own_W18 hw)) Via.refl e0 (O2.ext OLD0.2) (g := (mkF m 0 #[.val (.ref a)] [])) rfl (Jvm.hb hby d35_0)
  have pre7 := fun (τ : State) kt => pre0 τ (st6 τ kt)
  obtain ⟨T8, X8, e8, st8⟩ := getF X6 hx hZ hown (host := "") (Or.inl (own_W30 hw)) Via.refl e6 F2 (g := (mkF m 7 #[.val (.ref a)] [(.ref a)])) rfl rfl (Jvm.hb hby d35_7)
  have pre9 := fun (τ : State) kt => pre7 τ (by
    show Steps p.tables e below (T6.setTop (mkF m 3 #[.val (.ref a)] [(.int cz)])) τ
    refine XS.ifNo X6.here hx rfl (Jvm.hb hby d35_3) rfl ((if0 _ _).trans (feq P5).1) ?_
    refine XS.aloadN X6.here hx rfl (Jvm.hb hby d35_6) rfl rfl ?_
    exact st8 τ kt)
  have pre10 := fun (τ : State) kt => pre9 τ (by
    show Steps p.tables e below (T8.setTop (mkF m 10 #[.val (.ref a)] [(.int (0 : Int32))])) τ
    refine XS.ifNo X8.here hx rfl (Jvm.hb hby d35_10) rfl ((if0 _ _).trans (teq rfl).2) ?_
    refine XS.iconst X8.here hx rfl (Jvm.hb hby d35_13) ?_
    refine XS.goto X8.here hx rfl (pc0 := 14) (pc' := 18) rfl (Jvm.hb hby d35_14) (by decide) (by decide) ?_
    exact kt)
  obtain ⟨fs, hrL, hrun, hended, hW, hsame⟩ := X8.leave (v := some (.int (1 : Int32))) (fun h => by rw [Bd.returns] at h; cases h)
  refine ⟨_, _, cast (congrFun hPS _) (pre10 _ ?_), hrun, hended, _, _, rfl, ?_, ⟨_, rfl⟩, hW, hsame.mono (by decide) (by decide)⟩
  · show Steps p.tables e below (T8.setTop (mkF m 18 #[.val (.ref a)] [(.int (1 : Int32))])) _
    exact retN X8 hx (t := .boolean) Bd.returns (by simp) (Jvm.hb hby d35_18) hrL
  · show QI 1 h0 n0 _ T8.heap _
    rw [e8]
    exact ⟨rfl, N0, rfl⟩
theorem d28_0 : decode jdk_68_method_68_code 0 = .ok (.getstatic 18, 3) := by decide +kernel
theorem d28_3 : decode jdk_68_method_68_code 3 = .ok (.ifCond .eq 14, 3) := by decide +kernel
theorem d28_6 : decode jdk_68_method_68_code 6 = .ok (.aload_n 0, 1) := by decide +kernel
theorem d28_7 : decode jdk_68_method_68_code 7 = .ok (.getfield 22, 3) := by decide +kernel
theorem d28_10 : decode jdk_68_method_68_code 10 = .ok (.ifCond .ne 7, 3) := by decide +kernel
theorem d28_13 : decode jdk_68_method_68_code 13 = .ok (.iconst 1, 1) := by decide +kernel
theorem d28_14 : decode jdk_68_method_68_code 14 = .ok (.goto 4, 3) := by decide +kernel
theorem d28_17 : decode jdk_68_method_68_code 17 = .ok (.iconst 0, 1) := by decide +kernel
theorem d28_18 : decode jdk_68_method_68_code 18 = .ok (.ireturn, 1) := by decide +kernel
theorem own_pn_java_lang_AbstractStringBuilder : plainName "java/lang/AbstractStringBuilder" = true := by first | (simp [plainName, overriddenIn]; done) | decide +kernel
theorem own_ef28 (m : MethodId) (x0 : Addr) : entryFrame m #[(.ref x0)] 1 = mkF m 0 #[.val (.ref x0)] [] := by first | (simp [entryFrame, mkF, argsToLocals, Value.category]; done) | rfl
set_option maxRecDepth 65536 in
set_option maxHeartbeats 40000000 in
theorem rmAIL (l : Launch) (Z : State) (a0 : Array Value) (hw : ∀ d ∈ tables_1, d.before a0 Z = true) (ws : List Jvm.Cond) (a : Addr) (cz : Int32)  (h0 : Heap) (n0 : Nat) (Z0 : n0 ≤ h0.size) (F2 : Fld Z h0 a "java/lang/AbstractStringBuilder" "coder" "B" (.int (0 : Int32))) (O2 : Sta Z Z.heap "java/lang/String" "COMPACT_STRINGS" "Z" (.int cz)) (P5 : ¬ cz = 0) (OLD0 : Old Z n0 h0) :
    MetFree l (⟨"java/lang/AbstractStringBuilder", "isLatin1", "()Z"⟩ : MethodName) (head1 (Jvm.Cond.code (⟨"java/lang/AbstractStringBuilder", "isLatin1", "()Z"⟩ : MethodName) jdk_68_method_68_code 1 (some .boolean) :: ws) ({ frames := 0, cells := 0, slots := 0, locals := 0 } : Room)) (fun α U => α = #[(.ref a)] ∧ Z.Warmed39 U.vm ∧ U.heap = h0) (fun _ _ _ _ _ => True) (fun _ U ω U' => ∃ ν Λ, ω = .returned ν ∧ QI 1 h0 n0 ν U'.heap Λ ∧ FrameEnd U ω U' Λ ({ frames := 0, cells := 0, slots := 0, locals := 0 } : Room).cells ({ frames := 0, cells := 0, slots := 0, locals := 0 } : Room).slots) := by
  refine MetFree.of_bodySF (plainFor_of_name own_pn_java_lang_AbstractStringBuilder) hisR ?_
  intro p e s m args below meth c s₁ Bd hml0 hP hK
  obtain ⟨rfl, hZ, hh⟩ := hP
  have hx := Bd.exec
  have hby := Bd.bytes
  have hml : c.maxLocals = 1 := hml0
  have hown : s.vm.findClass "java/lang/AbstractStringBuilder" = some m.cls := findClass_of_methodNamed Bd.named
  have hnm := (name_of_methodNamed Bd.named Bd.method).1
  have X0 : Stand p l e ({ frames := 0, cells := 0, slots := 0, locals := 0 } : Room) s m #[(.ref a)] below meth c s₁ [] 0 0 := Stand.of_body Bd
  have e0 : s₁.heap = h0 := by rw [← hh, Bd.state]; rfl
  have N0 := Fr.nil n0
  have KK0 : Keep h0 h0 [] := Keep.refl h0 []
  obtain ⟨PS, hPS⟩ : ∃ P : State → Prop, P = fun τ => Steps p.tables e below (s₁.setTop (entryFrame m #[(.ref a)] 1)) τ := ⟨_, rfl⟩
  have pre0 : ∀ τ, Steps p.tables e below (s₁.setTop (mkF m 0 #[.val (.ref a)] [])) τ → PS τ := by rw [hPS]; exact fun τ κ => castTop (own_ef28 m a) κ
  obtain ⟨T11, X11, e11, st11⟩ := getS2 X0 hx hZ hown (host := "") (Or.inl (own_W78 hw)) Via.refl e0 (O2.ext OLD0.2) (g := (mkF m 0 #[.val (.ref a)] [])) rfl (Jvm.hb hby d28_0)
  have pre12 := fun (τ : State) kt => pre0 τ (st11 τ kt)
  obtain ⟨T13, X13, e13, st13⟩ := getF X11 hx hZ hown (host := "") (Or.inl (own_W81 hw)) Via.refl e11 F2 (g := (mkF m 7 #[.val (.ref a)] [(.ref a)])) rfl rfl (Jvm.hb hby d28_7)
  have pre14 := fun (τ : State) kt => pre12 τ (by
    show Steps p.tables e below (T11.setTop (mkF m 3 #[.val (.ref a)] [(.int cz)])) τ
    refine XS.ifNo X11.here hx rfl (Jvm.hb hby d28_3) rfl ((if0 _ _).trans (feq P5).1) ?_
    refine XS.aloadN X11.here hx rfl (Jvm.hb hby d28_6) rfl rfl ?_
    exact st13 τ kt)
  have pre15 := fun (τ : State) kt => pre14 τ (by
    show Steps p.tables e below (T13.setTop (mkF m 10 #[.val (.ref a)] [(.int (0 : Int32))])) τ
    refine XS.ifNo X13.here hx rfl (Jvm.hb hby d28_10) rfl ((if0 _ _).trans (teq rfl).2) ?_
    refine XS.iconst X13.here hx rfl (Jvm.hb hby d28_13) ?_
    refine XS.goto X13.here hx rfl (pc0 := 14) (pc' := 18) rfl (Jvm.hb hby d28_14) (by decide) (by decide) ?_
    exact kt)
  obtain ⟨fs, hrL, hrun, hended, hW, hsame⟩ := X13.leave (v := some (.int (1 : Int32))) (fun h => by rw [Bd.returns] at h; cases h)
  refine ⟨_, _, cast (congrFun hPS _) (pre15 _ ?_), hrun, hended, _, _, rfl, ?_, ⟨_, rfl⟩, hW, hsame.mono (by decide) (by decide)⟩
  · show Steps p.tables e below (T13.setTop (mkF m 18 #[.val (.ref a)] [(.int (1 : Int32))])) _
    exact retN X13 hx (t := .boolean) Bd.returns (by simp) (Jvm.hb hby d28_18) hrL
  · show QI 1 h0 n0 _ T13.heap _
    rw [e13]
    exact ⟨rfl, N0, rfl⟩
theorem d16_0 : decode jdk_42_method_54_code 0 = .ok (.aload_n 0, 1) := by decide +kernel
theorem d16_1 : decode jdk_42_method_54_code 1 = .ok (.getfield 9, 3) := by decide +kernel
theorem d16_4 : decode jdk_42_method_54_code 4 = .ok (.arraylength, 1) := by decide +kernel
theorem d16_5 : decode jdk_42_method_54_code 5 = .ok (.aload_n 0, 1) := by decide +kernel
theorem d16_6 : decode jdk_42_method_54_code 6 = .ok (.invokevirtual 335, 3) := by decide +kernel
theorem d16_9 : decode jdk_42_method_54_code 9 = .ok (.ishr, 1) := by decide +kernel
theorem d16_10 : decode jdk_42_method_54_code 10 = .ok (.ireturn, 1) := by decide +kernel
theorem own_ef16 (m : MethodId) (x0 : Addr) : entryFrame m #[(.ref x0)] 1 = mkF m 0 #[.val (.ref x0)] [] := by first | (simp [entryFrame, mkF, argsToLocals, Value.category]; done) | rfl
set_option maxRecDepth 65536 in
set_option maxHeartbeats 40000000 in
theorem rmLen (l : Launch) (Z : State) (a0 : Array Value) (hw : ∀ d ∈ tables_1, d.before a0 Z = true) (ws : List Jvm.Cond) (a : Addr) (cz : Int32) (vb : Addr) (kb : ClassId) (z : Int32) (vs : List Value) (h0 : Heap) (n0 : Nat) (Z0 : n0 ≤ h0.size) (E7 : Exa Z h0 a "java/lang/String") (F1 : Fld Z h0 a "java/lang/String" "value" "[B" (.ref vb)) (F2 : Fld Z h0 a "java/lang/String" "coder" "B" (.int (0 : Int32))) (VB : Arv Z h0 vb kb .byte z vs (.int (0 : Int32))) (O2 : Sta Z Z.heap "java/lang/String" "COMPACT_STRINGS" "Z" (.int cz)) (P5 : ¬ cz = 0) (OLD0 : Old Z n0 h0) :
    MetFree l (⟨"java/lang/String", "length", "()I"⟩ : MethodName) (head1 (Jvm.Cond.code (⟨"java/lang/String", "length", "()I"⟩ : MethodName) jdk_42_method_54_code 1 (some .int) :: ws) ({ frames := 1, cells := 0, slots := 0, locals := 13 } : Room)) (fun α U => α = #[(.ref a)] ∧ Z.Warmed39 U.vm ∧ U.heap = h0) (fun _ _ _ _ _ => True) (fun _ U ω U' => ∃ ν Λ, ω = .returned ν ∧ QI z h0 n0 ν U'.heap Λ ∧ FrameEnd U ω U' Λ ({ frames := 1, cells := 0, slots := 0, locals := 13 } : Room).cells ({ frames := 1, cells := 0, slots := 0, locals := 13 } : Room).slots) := by
  refine MetFree.of_bodySF (plainFor_of_name own_pn_java_lang_String) hisR ?_
  intro p e s m args below meth c s₁ Bd hml0 hP hK
  obtain ⟨rfl, hZ, hh⟩ := hP
  have hx := Bd.exec
  have hby := Bd.bytes
  have hml : c.maxLocals = 1 := hml0
  have hown : s.vm.findClass "java/lang/String" = some m.cls := findClass_of_methodNamed Bd.named
  have hnm := (name_of_methodNamed Bd.named Bd.method).1
  have X0 : Stand p l e ({ frames := 1, cells := 0, slots := 0, locals := 13 } : Room) s m #[(.ref a)] below meth c s₁ [] 0 0 := Stand.of_body Bd
  have e0 : s₁.heap = h0 := by rw [← hh, Bd.state]; rfl
  have N0 := Fr.nil n0
  have KK0 : Keep h0 h0 [] := Keep.refl h0 []
  obtain ⟨PS, hPS⟩ : ∃ P : State → Prop, P = fun τ => Steps p.tables e below (s₁.setTop (entryFrame m #[(.ref a)] 1)) τ := ⟨_, rfl⟩
  have pre0 : ∀ τ, Steps p.tables e below (s₁.setTop (mkF m 0 #[.val (.ref a)] [])) τ → PS τ := by rw [hPS]; exact fun τ κ => castTop (own_ef16 m a) κ
  obtain ⟨T16, X16, e16, st16⟩ := getF X0 hx hZ hown (host := "") (Or.inl (own_W32 hw)) Via.refl e0 F1 (g := (mkF m 1 #[.val (.ref a)] [(.ref a)])) rfl rfl (Jvm.hb hby d16_1)
  have pre17 := fun (τ : State) kt => pre0 τ (by
    show Steps p.tables e below (s₁.setTop (mkF m 0 #[.val (.ref a)] [])) τ
    refine XS.aloadN X0.here hx rfl (Jvm.hb hby d16_0) rfl rfl ?_
    exact st16 τ kt)
  obtain ⟨cl18, Ar18, q18, S18, M18, H18, U18⟩ := id VB
  have pre19 := fun (τ : State) kt => pre17 τ (by
    show Steps p.tables e below (T16.setTop (mkF m 4 #[.val (.ref a)] [(.ref vb)])) τ
    refine X16.arraylength hx ((congrArg (fun (HH : Heap) => HH[vb]?) (e16 : T16.heap = h0)).trans Ar18.1) (State.isArrayOf_alike hZ.alike Ar18.2.1) (g := (mkF m 4 #[.val (.ref a)] [(.ref vb)])) rfl rfl (Jvm.hb hby d16_4) _ ?_
    exact kt)
  have pre20 : ∀ τ, Steps p.tables e below (T16.setTop (mkF m 5 #[.val (.ref a)] [(.int z)])) τ → PS τ := by
    have hq := pre19
    rw [len_of S18 M18] at hq
    exact hq
  obtain ⟨_, T21, L21, X21, ⟨rfl, Nq21, eq21⟩, st21⟩ := own_virt (y := own_mn0) (b := a) X16 hx hZ hown (own_W98 hw) (own_W99 hw) (own_W101 hw) (own_W100 hw) (by decide) (rmCod l Z a0 hw [] a cz h0 n0 (Nat.le_trans Z0 KK0.1) F2 O2 P5 OLD0) (own_W102 hw) (own_W6 hw) 1 (by decide) (by decide) E7 e16 (mkF m 6 #[.val (.ref a)] [(.ref a), (.int z)]) rfl (by rw [hml]; rfl) [] [(.int z)] rfl (lenOf own_pd___B rfl) rfl (Nat.le_refl _) (Jvm.hb hby d16_6) (by decide) (by decide)
  have N21 := Fr.app N0 Nq21
  have pre22 := fun (τ : State) kt => pre20 τ (by
    show Steps p.tables e below (T16.setTop (mkF m 5 #[.val (.ref a)] [(.int z)])) τ
    refine XS.aloadN X16.here hx rfl (Jvm.hb hby d16_5) rfl rfl ?_
    exact st21 τ kt)
  have pre23 := fun (τ : State) kt => pre22 τ (by
    show Steps p.tables e below (T21.setTop (mkF m 9 #[.val (.ref a)] [(.int (0 : Int32)), (.int z)])) τ
    refine XT.ishr X21.here hx rfl (Jvm.hb hby d16_9) rfl ?_
    exact kt)
  have pre24 : ∀ τ, Steps p.tables e below (T21.setTop (mkF m 10 #[.val (.ref a)] [(.int z)])) τ → PS τ := by have hq := pre23; rw [own_shr0] at hq; exact hq
  obtain ⟨fs, hrL, hrun, hended, hW, hsame⟩ := X21.leave (v := some (.int z)) (fun h => by rw [Bd.returns] at h; cases h)
  refine ⟨_, _, cast (congrFun hPS _) (pre24 _ ?_), hrun, hended, _, _, rfl, ?_, ⟨_, rfl⟩, hW, hsame.mono (by decide) (by decide)⟩
  · show Steps p.tables e below (T21.setTop (mkF m 10 #[.val (.ref a)] [(.int z)])) _
    exact retI X21 hx Bd.returns (Jvm.hb hby d16_10) hrL
  · show QI z h0 n0 _ T21.heap _
    rw [eq21]
    exact ⟨rfl, N21, rfl⟩
theorem d11_0 : decode jdk_42_method_55_code 0 = .ok (.aload_n 0, 1) := by decide +kernel
theorem d11_1 : decode jdk_42_method_55_code 1 = .ok (.getfield 9, 3) := by decide +kernel
theorem d11_4 : decode jdk_42_method_55_code 4 = .ok (.arraylength, 1) := by decide +kernel
theorem d11_5 : decode jdk_42_method_55_code 5 = .ok (.ifCond .ne 7, 3) := by decide +kernel
theorem d11_8 : decode jdk_42_method_55_code 8 = .ok (.iconst 1, 1) := by decide +kernel
theorem d11_9 : decode jdk_42_method_55_code 9 = .ok (.goto 4, 3) := by decide +kernel
theorem d11_12 : decode jdk_42_method_55_code 12 = .ok (.iconst 0, 1) := by decide +kernel
theorem d11_13 : decode jdk_42_method_55_code 13 = .ok (.ireturn, 1) := by decide +kernel
theorem own_ef11 (m : MethodId) (x0 : Addr) : entryFrame m #[(.ref x0)] 1 = mkF m 0 #[.val (.ref x0)] [] := by first | (simp [entryFrame, mkF, argsToLocals, Value.category]; done) | rfl
set_option maxRecDepth 65536 in
set_option maxHeartbeats 40000000 in
theorem rmEmp (l : Launch) (Z : State) (a0 : Array Value) (hw : ∀ d ∈ tables_1, d.before a0 Z = true) (ws : List Jvm.Cond) (a : Addr) (vb : Addr) (kb : ClassId) (z : Int32) (vs : List Value) (h0 : Heap) (n0 : Nat) (Z0 : n0 ≤ h0.size) (F1 : Fld Z h0 a "java/lang/String" "value" "[B" (.ref vb)) (VB : Arv Z h0 vb kb .byte z vs (.int (0 : Int32))) :
    MetFree l (⟨"java/lang/String", "isEmpty", "()Z"⟩ : MethodName) (head1 (Jvm.Cond.code (⟨"java/lang/String", "isEmpty", "()Z"⟩ : MethodName) jdk_42_method_55_code 1 (some .boolean) :: ws) ({ frames := 0, cells := 0, slots := 0, locals := 0 } : Room)) (fun α U => α = #[(.ref a)] ∧ Z.Warmed39 U.vm ∧ U.heap = h0) (fun _ _ _ _ _ => True) (fun _ U ω U' => ∃ ν Λ, ω = .returned ν ∧ QI (if z = 0 then 1 else 0) h0 n0 ν U'.heap Λ ∧ FrameEnd U ω U' Λ ({ frames := 0, cells := 0, slots := 0, locals := 0 } : Room).cells ({ frames := 0, cells := 0, slots := 0, locals := 0 } : Room).slots) := by
  refine MetFree.of_bodySF (plainFor_of_name own_pn_java_lang_String) hisR ?_
  intro p e s m args below meth c s₁ Bd hml0 hP hK
  obtain ⟨rfl, hZ, hh⟩ := hP
  have hx := Bd.exec
  have hby := Bd.bytes
  have hml : c.maxLocals = 1 := hml0
  have hown : s.vm.findClass "java/lang/String" = some m.cls := findClass_of_methodNamed Bd.named
  have hnm := (name_of_methodNamed Bd.named Bd.method).1
  have X0 : Stand p l e ({ frames := 0, cells := 0, slots := 0, locals := 0 } : Room) s m #[(.ref a)] below meth c s₁ [] 0 0 := Stand.of_body Bd
  have e0 : s₁.heap = h0 := by rw [← hh, Bd.state]; rfl
  have N0 := Fr.nil n0
  have KK0 : Keep h0 h0 [] := Keep.refl h0 []
  obtain ⟨PS, hPS⟩ : ∃ P : State → Prop, P = fun τ => Steps p.tables e below (s₁.setTop (entryFrame m #[(.ref a)] 1)) τ := ⟨_, rfl⟩
  have pre0 : ∀ τ, Steps p.tables e below (s₁.setTop (mkF m 0 #[.val (.ref a)] [])) τ → PS τ := by rw [hPS]; exact fun τ κ => castTop (own_ef11 m a) κ
  obtain ⟨T25, X25, e25, st25⟩ := getF X0 hx hZ hown (host := "") (Or.inl (own_W32 hw)) Via.refl e0 F1 (g := (mkF m 1 #[.val (.ref a)] [(.ref a)])) rfl rfl (Jvm.hb hby d11_1)
  have pre26 := fun (τ : State) kt => pre0 τ (by
    show Steps p.tables e below (s₁.setTop (mkF m 0 #[.val (.ref a)] [])) τ
    refine XS.aloadN X0.here hx rfl (Jvm.hb hby d11_0) rfl rfl ?_
    exact st25 τ kt)
  obtain ⟨cl27, Ar27, q27, S27, M27, H27, U27⟩ := id VB
  have pre28 := fun (τ : State) kt => pre26 τ (by
    show Steps p.tables e below (T25.setTop (mkF m 4 #[.val (.ref a)] [(.ref vb)])) τ
    refine X25.arraylength hx ((congrArg (fun (HH : Heap) => HH[vb]?) (e25 : T25.heap = h0)).trans Ar27.1) (State.isArrayOf_alike hZ.alike Ar27.2.1) (g := (mkF m 4 #[.val (.ref a)] [(.ref vb)])) rfl rfl (Jvm.hb hby d11_4) _ ?_
    exact kt)
  have pre29 : ∀ τ, Steps p.tables e below (T25.setTop (mkF m 5 #[.val (.ref a)] [(.int z)])) τ → PS τ := by
    have hq := pre28
    rw [len_of S27 M27] at hq
    exact hq
  by_cases q : z = (0 : Int32)
  · skip
    have pre30 := fun (τ : State) kt => pre29 τ (by
      show Steps p.tables e below (T25.setTop (mkF m 5 #[.val (.ref a)] [(.int z)])) τ
      refine XS.ifNo X25.here hx rfl (Jvm.hb hby d11_5) rfl ((if0 _ _).trans (teq q).2) ?_
      refine XS.iconst X25.here hx rfl (Jvm.hb hby d11_8) ?_
      refine XS.goto X25.here hx rfl (pc0 := 9) (pc' := 13) rfl (Jvm.hb hby d11_9) (by decide) (by decide) ?_
      exact kt)
    obtain ⟨fs, hrL, hrun, hended, hW, hsame⟩ := X25.leave (v := some (.int (1 : Int32))) (fun h => by rw [Bd.returns] at h; cases h)
    refine ⟨_, _, cast (congrFun hPS _) (pre30 _ ?_), hrun, hended, _, _, rfl, ?_, ⟨_, rfl⟩, hW, hsame.mono (by decide) (by decide)⟩
    · show Steps p.tables e below (T25.setTop (mkF m 13 #[.val (.ref a)] [(.int (1 : Int32))])) _
      exact retN X25 hx (t := .boolean) Bd.returns (by simp) (Jvm.hb hby d11_13) hrL
    · show QI (if z = 0 then 1 else 0) h0 n0 _ T25.heap _
      rw [e25]
      unfold QI
      rw [if_pos q]
      exact ⟨rfl, N0, rfl⟩
  · skip
    have pre31 := fun (τ : State) kt => pre29 τ (by
      show Steps p.tables e below (T25.setTop (mkF m 5 #[.val (.ref a)] [(.int z)])) τ
      refine XS.ifYes X25.here hx rfl (pc0 := 5) (pc' := 12) rfl (Jvm.hb hby d11_5) rfl ((if0 _ _).trans (feq q).2) (by decide) (by decide) ?_
      refine XS.iconst X25.here hx rfl (Jvm.hb hby d11_12) ?_
      exact kt)
    obtain ⟨fs, hrL, hrun, hended, hW, hsame⟩ := X25.leave (v := some (.int (0 : Int32))) (fun h => by rw [Bd.returns] at h; cases h)
    refine ⟨_, _, cast (congrFun hPS _) (pre31 _ ?_), hrun, hended, _, _, rfl, ?_, ⟨_, rfl⟩, hW, hsame.mono (by decide) (by decide)⟩
    · show Steps p.tables e below (T25.setTop (mkF m 13 #[.val (.ref a)] [(.int (0 : Int32))])) _
      exact retN X25 hx (t := .boolean) Bd.returns (by simp) (Jvm.hb hby d11_13) hrL
    · show QI (if z = 0 then 1 else 0) h0 n0 _ T25.heap _
      rw [e25]
      unfold QI
      rw [if_neg q]
      exact ⟨rfl, N0, rfl⟩
theorem d18_0 : decode jdk_68_method_9_code 0 = .ok (.aload_n 0, 1) := by decide +kernel
theorem d18_1 : decode jdk_68_method_9_code 1 = .ok (.getfield 15, 3) := by decide +kernel
theorem d18_4 : decode jdk_68_method_9_code 4 = .ok (.arraylength, 1) := by decide +kernel
theorem d18_5 : decode jdk_68_method_9_code 5 = .ok (.aload_n 0, 1) := by decide +kernel
theorem d18_6 : decode jdk_68_method_9_code 6 = .ok (.getfield 22, 3) := by decide +kernel
theorem d18_9 : decode jdk_68_method_9_code 9 = .ok (.ishr, 1) := by decide +kernel
theorem d18_10 : decode jdk_68_method_9_code 10 = .ok (.istore_n 2, 1) := by decide +kernel
theorem d18_11 : decode jdk_68_method_9_code 11 = .ok (.iload_n 1, 1) := by decide +kernel
theorem d18_12 : decode jdk_68_method_9_code 12 = .ok (.iload_n 2, 1) := by decide +kernel
theorem d18_13 : decode jdk_68_method_9_code 13 = .ok (.isub, 1) := by decide +kernel
theorem d18_14 : decode jdk_68_method_9_code 14 = .ok (.ifCond .le 24, 3) := by decide +kernel
theorem d18_17 : decode jdk_68_method_9_code 17 = .ok (.aload_n 0, 1) := by decide +kernel
theorem d18_18 : decode jdk_68_method_9_code 18 = .ok (.aload_n 0, 1) := by decide +kernel
theorem d18_19 : decode jdk_68_method_9_code 19 = .ok (.getfield 15, 3) := by decide +kernel
theorem d18_22 : decode jdk_68_method_9_code 22 = .ok (.aload_n 0, 1) := by decide +kernel
theorem d18_23 : decode jdk_68_method_9_code 23 = .ok (.iload_n 1, 1) := by decide +kernel
theorem d18_24 : decode jdk_68_method_9_code 24 = .ok (.invokevirtual 104, 3) := by decide +kernel
theorem d18_27 : decode jdk_68_method_9_code 27 = .ok (.aload_n 0, 1) := by decide +kernel
theorem d18_28 : decode jdk_68_method_9_code 28 = .ok (.getfield 22, 3) := by decide +kernel
theorem d18_31 : decode jdk_68_method_9_code 31 = .ok (.ishl, 1) := by decide +kernel
theorem d18_32 : decode jdk_68_method_9_code 32 = .ok (.invokestatic 108, 3) := by decide +kernel
theorem d18_35 : decode jdk_68_method_9_code 35 = .ok (.putfield 15, 3) := by decide +kernel
theorem d18_38 : decode jdk_68_method_9_code 38 = .ok (.return_, 1) := by decide +kernel
theorem own_ef18 (m : MethodId) (x0 : Addr) (x1 : Int32) : entryFrame m #[(.ref x0), (.int x1)] 3 = mkF m 0 #[.val (.ref x0), .val (.int x1), .unset] [] := by first | (simp [entryFrame, mkF, argsToLocals, Value.category]; done) | rfl
set_option maxRecDepth 65536 in
set_option maxHeartbeats 40000000 in
theorem rmEns (l : Launch) (Z : State) (a0 : Array Value) (hw : ∀ d ∈ tables_1, d.before a0 Z = true) (ws : List Jvm.Cond) (a : Addr) (mc : Int32) (bv : Addr) (kd : ClassId) (vd : List Value) (h0 : Heap) (n0 : Nat) (Z0 : n0 ≤ h0.size) (FV : Fld Z h0 a "java/lang/AbstractStringBuilder" "value" "[B" (.ref bv)) (FC : Fld Z h0 a "java/lang/AbstractStringBuilder" "coder" "B" (.int (0 : Int32))) (VD : Arv Z h0 bv kd .byte (16 : Int32) vd (.int (0 : Int32))) (hcap : ¬ ((0 : Int32) < (mc - ((16 : Int32) >>> ((0 : Int32) &&& 31))))) :
    MetFree l (⟨"java/lang/AbstractStringBuilder", "ensureCapacityInternal", "(I)V"⟩ : MethodName) (head1 (Jvm.Cond.code (⟨"java/lang/AbstractStringBuilder", "ensureCapacityInternal", "(I)V"⟩ : MethodName) jdk_68_method_9_code 3 none :: ws) ({ frames := 0, cells := 0, slots := 0, locals := 0 } : Room)) (fun α U => α = #[(.ref a), (.int mc)] ∧ Z.Warmed39 U.vm ∧ U.heap = h0) (fun _ _ _ _ _ => True) (fun _ U ω U' => ∃ ν Λ, ω = .returned ν ∧ QU h0 n0 ν U'.heap Λ ∧ FrameEnd U ω U' Λ ({ frames := 0, cells := 0, slots := 0, locals := 0 } : Room).cells ({ frames := 0, cells := 0, slots := 0, locals := 0 } : Room).slots) := by
  refine MetFree.of_bodySF (plainFor_of_name own_pn_java_lang_AbstractStringBuilder) hisR ?_
  intro p e s m args below meth c s₁ Bd hml0 hP hK
  obtain ⟨rfl, hZ, hh⟩ := hP
  have hx := Bd.exec
  have hby := Bd.bytes
  have hml : c.maxLocals = 3 := hml0
  have hown : s.vm.findClass "java/lang/AbstractStringBuilder" = some m.cls := findClass_of_methodNamed Bd.named
  have hnm := (name_of_methodNamed Bd.named Bd.method).1
  have X0 : Stand p l e ({ frames := 0, cells := 0, slots := 0, locals := 0 } : Room) s m #[(.ref a), (.int mc)] below meth c s₁ [] 0 0 := Stand.of_body Bd
  have e0 : s₁.heap = h0 := by rw [← hh, Bd.state]; rfl
  have N0 := Fr.nil n0
  have KK0 : Keep h0 h0 [] := Keep.refl h0 []
  obtain ⟨PS, hPS⟩ : ∃ P : State → Prop, P = fun τ => Steps p.tables e below (s₁.setTop (entryFrame m #[(.ref a), (.int mc)] 3)) τ := ⟨_, rfl⟩
  have pre0 : ∀ τ, Steps p.tables e below (s₁.setTop (mkF m 0 #[.val (.ref a), .val (.int mc), .unset] [])) τ → PS τ := by rw [hPS]; exact fun τ κ => castTop (own_ef18 m a mc) κ
  obtain ⟨T32, X32, e32, st32⟩ := getF X0 hx hZ hown (host := "") (Or.inl (own_W79 hw)) Via.refl e0 FV (g := (mkF m 1 #[.val (.ref a), .val (.int mc), .unset] [(.ref a)])) rfl rfl (Jvm.hb hby d18_1)
  have pre33 := fun (τ : State) kt => pre0 τ (by
    show Steps p.tables e below (s₁.setTop (mkF m 0 #[.val (.ref a), .val (.int mc), .unset] [])) τ
    refine XS.aloadN X0.here hx rfl (Jvm.hb hby d18_0) rfl rfl ?_
    exact st32 τ kt)
  obtain ⟨cl34, Ar34, q34, S34, M34, H34, U34⟩ := id VD
  have pre35 := fun (τ : State) kt => pre33 τ (by
    show Steps p.tables e below (T32.setTop (mkF m 4 #[.val (.ref a), .val (.int mc), .unset] [(.ref bv)])) τ
    refine X32.arraylength hx ((congrArg (fun (HH : Heap) => HH[bv]?) (e32 : T32.heap = h0)).trans Ar34.1) (State.isArrayOf_alike hZ.alike Ar34.2.1) (g := (mkF m 4 #[.val (.ref a), .val (.int mc), .unset] [(.ref bv)])) rfl rfl (Jvm.hb hby d18_4) _ ?_
    exact kt)
  have pre36 : ∀ τ, Steps p.tables e below (T32.setTop (mkF m 5 #[.val (.ref a), .val (.int mc), .unset] [(.int (16 : Int32))])) τ → PS τ := by
    have hq := pre35
    rw [len_of S34 M34] at hq
    exact hq
  obtain ⟨T37, X37, e37, st37⟩ := getF X32 hx hZ hown (host := "") (Or.inl (own_W81 hw)) Via.refl e32 FC (g := (mkF m 6 #[.val (.ref a), .val (.int mc), .unset] [(.ref a), (.int (16 : Int32))])) rfl rfl (Jvm.hb hby d18_6)
  have pre38 := fun (τ : State) kt => pre36 τ (by
    show Steps p.tables e below (T32.setTop (mkF m 5 #[.val (.ref a), .val (.int mc), .unset] [(.int (16 : Int32))])) τ
    refine XS.aloadN X32.here hx rfl (Jvm.hb hby d18_5) rfl rfl ?_
    exact st37 τ kt)
  have pre39 := fun (τ : State) kt => pre38 τ (by
    show Steps p.tables e below (T37.setTop (mkF m 9 #[.val (.ref a), .val (.int mc), .unset] [(.int (0 : Int32)), (.int (16 : Int32))])) τ
    refine XT.ishr X37.here hx rfl (Jvm.hb hby d18_9) rfl ?_
    refine XS.istoreN X37.here hx rfl (Jvm.hb hby d18_10) rfl (l' := #[.val (.ref a), .val (.int mc), .val (.int ((16 : Int32) >>> ((0 : Int32) &&& 31)))]) rfl ?_
    refine XS.iloadN X37.here hx rfl (Jvm.hb hby d18_11) rfl ?_
    refine XS.iloadN X37.here hx rfl (Jvm.hb hby d18_12) rfl ?_
    refine XS.isub X37.here hx rfl (Jvm.hb hby d18_13) rfl ?_
    refine XS.ifYes X37.here hx rfl (pc0 := 14) (pc' := 38) rfl (Jvm.hb hby d18_14) rfl ((if0 _ _).trans (flt hcap).2.2.2) (by decide) (by decide) ?_
    exact kt)
  obtain ⟨fs, hrL, hrun, hended, hW, hsame⟩ := X37.leave (v := none) (fun _ => rfl)
  refine ⟨_, _, cast (congrFun hPS _) (pre39 _ ?_), hrun, hended, _, _, rfl, ?_, ⟨_, rfl⟩, hW, hsame.mono (by decide) (by decide)⟩
  · show Steps p.tables e below (T37.setTop (mkF m 38 #[.val (.ref a), .val (.int mc), .val (.int ((16 : Int32) >>> ((0 : Int32) &&& 31)))] [])) _
    exact X37.returnOut hx Bd.returns (Jvm.hb hby d18_38) hrL
  · show QU h0 n0 _ T37.heap _
    rw [e37]
    exact ⟨rfl, N0, rfl⟩
theorem d20_0 : decode jdk_68_method_71_code 0 = .ok (.getstatic 18, 3) := by decide +kernel
theorem d20_3 : decode jdk_68_method_71_code 3 = .ok (.ifCond .eq 18, 3) := by decide +kernel
theorem d20_6 : decode jdk_68_method_71_code 6 = .ok (.aload_n 0, 1) := by decide +kernel
theorem d20_7 : decode jdk_68_method_71_code 7 = .ok (.getfield 22, 3) := by decide +kernel
theorem d20_10 : decode jdk_68_method_71_code 10 = .ok (.aload_n 1, 1) := by decide +kernel
theorem d20_11 : decode jdk_68_method_71_code 11 = .ok (.invokevirtual 40, 3) := by decide +kernel
theorem d20_14 : decode jdk_68_method_71_code 14 = .ok (.if_icmp .eq 7, 3) := by decide +kernel
theorem d20_17 : decode jdk_68_method_71_code 17 = .ok (.aload_n 0, 1) := by decide +kernel
theorem d20_18 : decode jdk_68_method_71_code 18 = .ok (.invokevirtual 195, 3) := by decide +kernel
theorem d20_21 : decode jdk_68_method_71_code 21 = .ok (.return_, 1) := by decide +kernel
theorem own_ef20 (m : MethodId) (x0 : Addr) (x1 : Addr) : entryFrame m #[(.ref x0), (.ref x1)] 2 = mkF m 0 #[.val (.ref x0), .val (.ref x1)] [] := by first | (simp [entryFrame, mkF, argsToLocals, Value.category]; done) | rfl
set_option maxRecDepth 65536 in
set_option maxHeartbeats 40000000 in
theorem rmInf (l : Launch) (Z : State) (a0 : Array Value) (hw : ∀ d ∈ tables_1, d.before a0 Z = true) (ws : List Jvm.Cond) (a : Addr) (st : Addr) (cz : Int32)  (h0 : Heap) (n0 : Nat) (Z0 : n0 ≤ h0.size) (FC : Fld Z h0 a "java/lang/AbstractStringBuilder" "coder" "B" (.int (0 : Int32))) (ES : Exa Z h0 st "java/lang/String") (F2 : Fld Z h0 st "java/lang/String" "coder" "B" (.int (0 : Int32))) (O2 : Sta Z Z.heap "java/lang/String" "COMPACT_STRINGS" "Z" (.int cz)) (P5 : ¬ cz = 0) (OLD0 : Old Z n0 h0) :
    MetFree l (⟨"java/lang/AbstractStringBuilder", "inflateIfNeededFor", "(Ljava/lang/String;)V"⟩ : MethodName) (head1 (Jvm.Cond.code (⟨"java/lang/AbstractStringBuilder", "inflateIfNeededFor", "(Ljava/lang/String;)V"⟩ : MethodName) jdk_68_method_71_code 2 none :: ws) ({ frames := 1, cells := 0, slots := 0, locals := 13 } : Room)) (fun α U => α = #[(.ref a), (.ref st)] ∧ Z.Warmed39 U.vm ∧ U.heap = h0) (fun _ _ _ _ _ => True) (fun _ U ω U' => ∃ ν Λ, ω = .returned ν ∧ QU h0 n0 ν U'.heap Λ ∧ FrameEnd U ω U' Λ ({ frames := 1, cells := 0, slots := 0, locals := 13 } : Room).cells ({ frames := 1, cells := 0, slots := 0, locals := 13 } : Room).slots) := by
  refine MetFree.of_bodySF (plainFor_of_name own_pn_java_lang_AbstractStringBuilder) hisR ?_
  intro p e s m args below meth c s₁ Bd hml0 hP hK
  obtain ⟨rfl, hZ, hh⟩ := hP
  have hx := Bd.exec
  have hby := Bd.bytes
  have hml : c.maxLocals = 2 := hml0
  have hown : s.vm.findClass "java/lang/AbstractStringBuilder" = some m.cls := findClass_of_methodNamed Bd.named
  have hnm := (name_of_methodNamed Bd.named Bd.method).1
  have X0 : Stand p l e ({ frames := 1, cells := 0, slots := 0, locals := 13 } : Room) s m #[(.ref a), (.ref st)] below meth c s₁ [] 0 0 := Stand.of_body Bd
  have e0 : s₁.heap = h0 := by rw [← hh, Bd.state]; rfl
  have N0 := Fr.nil n0
  have KK0 : Keep h0 h0 [] := Keep.refl h0 []
  obtain ⟨PS, hPS⟩ : ∃ P : State → Prop, P = fun τ => Steps p.tables e below (s₁.setTop (entryFrame m #[(.ref a), (.ref st)] 2)) τ := ⟨_, rfl⟩
  have pre0 : ∀ τ, Steps p.tables e below (s₁.setTop (mkF m 0 #[.val (.ref a), .val (.ref st)] [])) τ → PS τ := by rw [hPS]; exact fun τ κ => castTop (own_ef20 m a st) κ
  obtain ⟨T40, X40, e40, st40⟩ := getS2 X0 hx hZ hown (host := "") (Or.inl (own_W78 hw)) Via.refl e0 (O2.ext OLD0.2) (g := (mkF m 0 #[.val (.ref a), .val (.ref st)] [])) rfl (Jvm.hb hby d20_0)
  have pre41 := fun (τ : State) kt => pre0 τ (st40 τ kt)
  obtain ⟨T42, X42, e42, st42⟩ := getF X40 hx hZ hown (host := "") (Or.inl (own_W81 hw)) Via.refl e40 FC (g := (mkF m 7 #[.val (.ref a), .val (.ref st)] [(.ref a)])) rfl rfl (Jvm.hb hby d20_7)
  have pre43 := fun (τ : State) kt => pre41 τ (by
    show Steps p.tables e below (T40.setTop (mkF m 3 #[.val (.ref a), .val (.ref st)] [(.int cz)])) τ
    refine XS.ifNo X40.here hx rfl (Jvm.hb hby d20_3) rfl ((if0 _ _).trans (feq P5).1) ?_
    refine XS.aloadN X40.here hx rfl (Jvm.hb hby d20_6) rfl rfl ?_
    exact st42 τ kt)
  obtain ⟨_, T44, L44, X44, ⟨rfl, Nq44, eq44⟩, st44⟩ := own_virt (y := own_mn0) (b := st) X42 hx hZ hown (own_W120 hw) (own_W99 hw) (own_W101 hw) (own_W100 hw) (by decide) (rmCod l Z a0 hw [] st cz h0 n0 (Nat.le_trans Z0 KK0.1) F2 O2 P5 OLD0) (own_W102 hw) (own_W6 hw) 1 (by decide) (by decide) ES e42 (mkF m 11 #[.val (.ref a), .val (.ref st)] [(.ref st), (.int (0 : Int32))]) rfl (by rw [hml]; rfl) [] [(.int (0 : Int32))] rfl (lenOf own_pd___B rfl) rfl (Nat.le_refl _) (Jvm.hb hby d20_11) (by decide) (by decide)
  have N44 := Fr.app N0 Nq44
  have pre45 := fun (τ : State) kt => pre43 τ (by
    show Steps p.tables e below (T42.setTop (mkF m 10 #[.val (.ref a), .val (.ref st)] [(.int (0 : Int32))])) τ
    refine XS.aloadN X42.here hx rfl (Jvm.hb hby d20_10) rfl rfl ?_
    exact st44 τ kt)
  have pre46 := fun (τ : State) kt => pre45 τ (by
    show Steps p.tables e below (T44.setTop (mkF m 14 #[.val (.ref a), .val (.ref st)] [(.int (0 : Int32)), (.int (0 : Int32))])) τ
    refine XS.icmpYes X44.here hx rfl (pc0 := 14) (pc' := 21) rfl (Jvm.hb hby d20_14) rfl (teq rfl).1 (by decide) (by decide) ?_
    exact kt)
  obtain ⟨fs, hrL, hrun, hended, hW, hsame⟩ := X44.leave (v := none) (fun _ => rfl)
  refine ⟨_, _, cast (congrFun hPS _) (pre46 _ ?_), hrun, hended, _, _, rfl, ?_, ⟨_, rfl⟩, hW, hsame.mono (by decide) (by decide)⟩
  · show Steps p.tables e below (T44.setTop (mkF m 21 #[.val (.ref a), .val (.ref st)] [])) _
    exact X44.returnOut hx Bd.returns (Jvm.hb hby d20_21) hrL
  · show QU h0 n0 _ T44.heap _
    rw [eq44]
    exact ⟨rfl, N44, rfl⟩
def QG (Z : State) (bv : Addr) (kd : ClassId) (vd vs : List Value) (dp z : Int32) (h0 : Heap) (n0 : Nat) (v : Option Value) (h : Heap) (L : List Loc) : Prop := v = none ∧ Fr n0 L ∧ Keep h0 h [bv] ∧ Arv Z h bv kd .byte (16 : Int32) (own_cpl vd vs 0 dp z) (.int (0 : Int32))
theorem d21_0 : decode jdk_42_method_147_code 0 = .ok (.aload_n 0, 1) := by decide +kernel
theorem d21_1 : decode jdk_42_method_147_code 1 = .ok (.invokevirtual 335, 3) := by decide +kernel
theorem d21_4 : decode jdk_42_method_147_code 4 = .ok (.iload_n 3, 1) := by decide +kernel
theorem d21_5 : decode jdk_42_method_147_code 5 = .ok (.if_icmp .ne 23, 3) := by decide +kernel
theorem d21_8 : decode jdk_42_method_147_code 8 = .ok (.aload_n 0, 1) := by decide +kernel
theorem d21_9 : decode jdk_42_method_147_code 9 = .ok (.getfield 9, 3) := by decide +kernel
theorem d21_12 : decode jdk_42_method_147_code 12 = .ok (.iconst 0, 1) := by decide +kernel
theorem d21_13 : decode jdk_42_method_147_code 13 = .ok (.aload_n 1, 1) := by decide +kernel
theorem d21_14 : decode jdk_42_method_147_code 14 = .ok (.iload_n 2, 1) := by decide +kernel
theorem d21_15 : decode jdk_42_method_147_code 15 = .ok (.iload_n 3, 1) := by decide +kernel
theorem d21_16 : decode jdk_42_method_147_code 16 = .ok (.ishl, 1) := by decide +kernel
theorem d21_17 : decode jdk_42_method_147_code 17 = .ok (.aload_n 0, 1) := by decide +kernel
theorem d21_18 : decode jdk_42_method_147_code 18 = .ok (.getfield 9, 3) := by decide +kernel
theorem d21_21 : decode jdk_42_method_147_code 21 = .ok (.arraylength, 1) := by decide +kernel
theorem d21_22 : decode jdk_42_method_147_code 22 = .ok (.invokestatic 212, 3) := by decide +kernel
theorem d21_25 : decode jdk_42_method_147_code 25 = .ok (.goto 18, 3) := by decide +kernel
theorem d21_28 : decode jdk_42_method_147_code 28 = .ok (.aload_n 0, 1) := by decide +kernel
theorem d21_29 : decode jdk_42_method_147_code 29 = .ok (.getfield 9, 3) := by decide +kernel
theorem d21_32 : decode jdk_42_method_147_code 32 = .ok (.iconst 0, 1) := by decide +kernel
theorem d21_33 : decode jdk_42_method_147_code 33 = .ok (.aload_n 1, 1) := by decide +kernel
theorem d21_34 : decode jdk_42_method_147_code 34 = .ok (.iload_n 2, 1) := by decide +kernel
theorem d21_35 : decode jdk_42_method_147_code 35 = .ok (.aload_n 0, 1) := by decide +kernel
theorem d21_36 : decode jdk_42_method_147_code 36 = .ok (.getfield 9, 3) := by decide +kernel
theorem d21_39 : decode jdk_42_method_147_code 39 = .ok (.arraylength, 1) := by decide +kernel
theorem d21_40 : decode jdk_42_method_147_code 40 = .ok (.invokestatic 106, 3) := by decide +kernel
theorem d21_43 : decode jdk_42_method_147_code 43 = .ok (.return_, 1) := by decide +kernel
theorem own_ef21 (m : MethodId) (x0 : Addr) (x1 : Addr) (x2 : Int32) (x3 : Int32) : entryFrame m #[(.ref x0), (.ref x1), (.int x2), (.int x3)] 4 = mkF m 0 #[.val (.ref x0), .val (.ref x1), .val (.int x2), .val (.int x3)] [] := by first | (simp [entryFrame, mkF, argsToLocals, Value.category]; done) | rfl
set_option maxRecDepth 65536 in
set_option maxHeartbeats 40000000 in
theorem rmGB (l : Launch) (Z : State) (a0 : Array Value) (hw : ∀ d ∈ tables_1, d.before a0 Z = true) (ws : List Jvm.Cond) (a : Addr) (bv : Addr) (dp : Int32) (cd : Int32) (cz : Int32) (vb : Addr) (kb kd : ClassId) (z : Int32) (vs vd : List Value) (h0 : Heap) (n0 : Nat) (Z0 : n0 ≤ h0.size) (hcd : cd = (0 : Int32)) (E7 : Exa Z h0 a "java/lang/String") (F1 : Fld Z h0 a "java/lang/String" "value" "[B" (.ref vb)) (F2 : Fld Z h0 a "java/lang/String" "coder" "B" (.int (0 : Int32))) (VB : Arv Z h0 vb kb .byte z vs (.int (0 : Int32))) (VD : Arv Z h0 bv kd .byte (16 : Int32) vd (.int (0 : Int32))) (hb1 : ¬ dp < 0) (hb2 : dp.toNatClampNeg + z.toNatClampNeg ≤ 16) (hb3 : vd.length = 16) (gb : n0 ≤ bv) (O2 : Sta Z Z.heap "java/lang/String" "COMPACT_STRINGS" "Z" (.int cz)) (P5 : ¬ cz = 0) (OLD0 : Old Z n0 h0) :
    MetFree l (⟨"java/lang/String", "getBytes", "([BIB)V"⟩ : MethodName) (head1 (Jvm.Cond.code (⟨"java/lang/String", "getBytes", "([BIB)V"⟩ : MethodName) jdk_42_method_147_code 4 none :: ws) ({ frames := 1, cells := 0, slots := 0, locals := 40 } : Room)) (fun α U => α = #[(.ref a), (.ref bv), (.int dp), (.int cd)] ∧ Z.Warmed39 U.vm ∧ U.heap = h0) (fun _ _ _ _ _ => True) (fun _ U ω U' => ∃ ν Λ, ω = .returned ν ∧ QG Z bv kd vd vs dp z h0 n0 ν U'.heap Λ ∧ FrameEnd U ω U' Λ ({ frames := 1, cells := 0, slots := 0, locals := 40 } : Room).cells ({ frames := 1, cells := 0, slots := 0, locals := 40 } : Room).slots) := by
  refine MetFree.of_bodySF (plainFor_of_name own_pn_java_lang_String) hisR ?_
  intro p e s m args below meth c s₁ Bd hml0 hP hK
  obtain ⟨rfl, hZ, hh⟩ := hP
  have hx := Bd.exec
  have hby := Bd.bytes
  have hml : c.maxLocals = 4 := hml0
  have hown : s.vm.findClass "java/lang/String" = some m.cls := findClass_of_methodNamed Bd.named
  have hnm := (name_of_methodNamed Bd.named Bd.method).1
  have X0 : Stand p l e ({ frames := 1, cells := 0, slots := 0, locals := 40 } : Room) s m #[(.ref a), (.ref bv), (.int dp), (.int cd)] below meth c s₁ [] 0 0 := Stand.of_body Bd
  have e0 : s₁.heap = h0 := by rw [← hh, Bd.state]; rfl
  have N0 := Fr.nil n0
  have KK0 : Keep h0 h0 [bv] := Keep.refl h0 [bv]
  obtain ⟨PS, hPS⟩ : ∃ P : State → Prop, P = fun τ => Steps p.tables e below (s₁.setTop (entryFrame m #[(.ref a), (.ref bv), (.int dp), (.int cd)] 4)) τ := ⟨_, rfl⟩
  have pre0 : ∀ τ, Steps p.tables e below (s₁.setTop (mkF m 0 #[.val (.ref a), .val (.ref bv), .val (.int dp), .val (.int cd)] [])) τ → PS τ := by rw [hPS]; exact fun τ κ => castTop (own_ef21 m a bv dp cd) κ
  have pre47 : ∀ τ, Steps p.tables e below (s₁.setTop (mkF m 0 #[.val (.ref a), .val (.ref bv), .val (.int dp), .val (.int (0 : Int32))] [])) τ → PS τ := by have hq := pre0; rw [hcd] at hq; exact hq
  obtain ⟨_, T48, L48, X48, ⟨rfl, Nq48, eq48⟩, st48⟩ := own_virt (y := own_mn0) (b := a) X0 hx hZ hown (own_W98 hw) (own_W99 hw) (own_W101 hw) (own_W100 hw) (by decide) (rmCod l Z a0 hw [] a cz h0 n0 (Nat.le_trans Z0 KK0.1) F2 O2 P5 OLD0) (own_W102 hw) (own_W6 hw) 0 (by decide) (by decide) E7 e0 (mkF m 1 #[.val (.ref a), .val (.ref bv), .val (.int dp), .val (.int (0 : Int32))] [(.ref a)]) rfl (by rw [hml]; rfl) [] [] rfl (lenOf own_pd___B rfl) rfl (Nat.le_refl _) (Jvm.hb hby d21_1) (by decide) (by decide)
  have N48 := Fr.app N0 Nq48
  have pre49 := fun (τ : State) kt => pre47 τ (by
    show Steps p.tables e below (s₁.setTop (mkF m 0 #[.val (.ref a), .val (.ref bv), .val (.int dp), .val (.int (0 : Int32))] [])) τ
    refine XS.aloadN X0.here hx rfl (Jvm.hb hby d21_0) rfl rfl ?_
    exact st48 τ kt)
  obtain ⟨T50, X50, e50, st50⟩ := getF X48 hx hZ hown (host := "") (Or.inl (own_W32 hw)) Via.refl eq48 F1 (g := (mkF m 9 #[.val (.ref a), .val (.ref bv), .val (.int dp), .val (.int (0 : Int32))] [(.ref a)])) rfl rfl (Jvm.hb hby d21_9)
  have pre51 := fun (τ : State) kt => pre49 τ (by
    show Steps p.tables e below (T48.setTop (mkF m 4 #[.val (.ref a), .val (.ref bv), .val (.int dp), .val (.int (0 : Int32))] [(.int (0 : Int32))])) τ
    refine XS.iloadN X48.here hx rfl (Jvm.hb hby d21_4) rfl ?_
    refine XS.icmpNo X48.here hx rfl (Jvm.hb hby d21_5) rfl (teq rfl).2 ?_
    refine XS.aloadN X48.here hx rfl (Jvm.hb hby d21_8) rfl rfl ?_
    exact st50 τ kt)
  have pre52 := fun (τ : State) kt => pre51 τ (by
    show Steps p.tables e below (T50.setTop (mkF m 12 #[.val (.ref a), .val (.ref bv), .val (.int dp), .val (.int (0 : Int32))] [(.ref vb)])) τ
    refine XS.iconst X50.here hx rfl (Jvm.hb hby d21_12) ?_
    refine XS.aloadN X50.here hx rfl (Jvm.hb hby d21_13) rfl rfl ?_
    refine XS.iloadN X50.here hx rfl (Jvm.hb hby d21_14) rfl ?_
    refine XS.iloadN X50.here hx rfl (Jvm.hb hby d21_15) rfl ?_
    refine XT.ishl X50.here hx rfl (Jvm.hb hby d21_16) rfl ?_
    refine XS.aloadN X50.here hx rfl (Jvm.hb hby d21_17) rfl rfl ?_
    exact kt)
  have pre53 : ∀ τ, Steps p.tables e below (T50.setTop (mkF m 18 #[.val (.ref a), .val (.ref bv), .val (.int dp), .val (.int (0 : Int32))] [(.ref a), (.int dp), (.ref bv), (.int (0 : Int32)), (.ref vb)])) τ → PS τ := by have hq := pre52; rw [own_shl0] at hq; exact hq
  obtain ⟨T54, X54, e54, st54⟩ := getF X50 hx hZ hown (host := "") (Or.inl (own_W32 hw)) Via.refl e50 F1 (g := (mkF m 18 #[.val (.ref a), .val (.ref bv), .val (.int dp), .val (.int (0 : Int32))] [(.ref a), (.int dp), (.ref bv), (.int (0 : Int32)), (.ref vb)])) rfl rfl (Jvm.hb hby d21_18)
  have pre55 := fun (τ : State) kt => pre53 τ (st54 τ kt)
  obtain ⟨cl56, Ar56, q56, S56, M56, H56, U56⟩ := id VB
  have pre57 := fun (τ : State) kt => pre55 τ (by
    show Steps p.tables e below (T54.setTop (mkF m 21 #[.val (.ref a), .val (.ref bv), .val (.int dp), .val (.int (0 : Int32))] [(.ref vb), (.int dp), (.ref bv), (.int (0 : Int32)), (.ref vb)])) τ
    refine X54.arraylength hx ((congrArg (fun (HH : Heap) => HH[vb]?) (e54 : T54.heap = h0)).trans Ar56.1) (State.isArrayOf_alike hZ.alike Ar56.2.1) (g := (mkF m 21 #[.val (.ref a), .val (.ref bv), .val (.int dp), .val (.int (0 : Int32))] [(.ref vb), (.int dp), (.ref bv), (.int (0 : Int32)), (.ref vb)])) rfl rfl (Jvm.hb hby d21_21) _ ?_
    exact kt)
  have pre58 : ∀ τ, Steps p.tables e below (T54.setTop (mkF m 22 #[.val (.ref a), .val (.ref bv), .val (.int dp), .val (.int (0 : Int32))] [(.int z), (.int dp), (.ref bv), (.int (0 : Int32)), (.ref vb)])) τ → PS τ := by
    have hq := pre57
    rw [len_of S56 M56] at hq
    exact hq
  obtain ⟨T59, h59, L59, X59, e59, N59, Kq59, V59, st59⟩ := cpA (sp := (0 : Int32)) (dp := dp) (nn := z) X54 hx hZ hown (own_W126 hw) (own_W129 hw) (own_W127 hw) (own_W128 hw) e54 VB VD (Or.inl ⟨rfl, rfl⟩) (by decide) hb1 (own_arv_nn VB) (by rw [show (0 : Int32).toNatClampNeg = 0 by decide]; omega) (by rw [show (16 : Int32).toNatClampNeg = 16 by decide]; exact hb2) rfl (by rw [hb3]; exact hb2) N48 gb (g := (mkF m 22 #[.val (.ref a), .val (.ref bv), .val (.int dp), .val (.int (0 : Int32))] [(.int z), (.int dp), (.ref bv), (.int (0 : Int32)), (.ref vb)])) rfl (by rw [hml]; rfl) (rest := []) rfl (Jvm.hb hby d21_22) (by decide) (W := 0) (by show 2 * 0 + _ ≤ _; exact Nat.le_of_eq rfl) (by decide)
  have K59 : Keep h0 h59 [bv] := KK0.trans Kq59 (allS (Or.inl (by simp)) (all0))
  have Va59 : Arv Z h59 bv kd .byte (16 : Int32) (own_cpl vd vs 0 dp z) (.int (0 : Int32)) := V59
  have pre60 := fun (τ : State) kt => pre58 τ (st59 τ kt)
  have pre61 := fun (τ : State) kt => pre60 τ (by
    show Steps p.tables e below (T59.setTop (mkF m 25 #[.val (.ref a), .val (.ref bv), .val (.int dp), .val (.int (0 : Int32))] [])) τ
    refine XS.goto X59.here hx rfl (pc0 := 25) (pc' := 43) rfl (Jvm.hb hby d21_25) (by decide) (by decide) ?_
    exact kt)
  obtain ⟨fs, hrL, hrun, hended, hW, hsame⟩ := X59.leave (v := none) (fun _ => rfl)
  refine ⟨_, _, cast (congrFun hPS _) (pre61 _ ?_), hrun, hended, _, _, rfl, ?_, ⟨_, rfl⟩, hW, hsame.mono (by decide) (by decide)⟩
  · show Steps p.tables e below (T59.setTop (mkF m 43 #[.val (.ref a), .val (.ref bv), .val (.int dp), .val (.int (0 : Int32))] [])) _
    exact X59.returnOut hx Bd.returns (Jvm.hb hby d21_43) hrL
  · show QG Z bv kd vd vs dp z h0 n0 _ T59.heap _
    rw [e59]
    exact ⟨rfl, N59, K59, Va59⟩
theorem d19_0 : decode jdk_68_method_73_code 0 = .ok (.aload_n 0, 1) := by decide +kernel
theorem d19_1 : decode jdk_68_method_73_code 1 = .ok (.aload_n 2, 1) := by decide +kernel
theorem d19_2 : decode jdk_68_method_73_code 2 = .ok (.invokevirtual 397, 3) := by decide +kernel
theorem d19_5 : decode jdk_68_method_73_code 5 = .ok (.aload_n 2, 1) := by decide +kernel
theorem d19_6 : decode jdk_68_method_73_code 6 = .ok (.aload_n 0, 1) := by decide +kernel
theorem d19_7 : decode jdk_68_method_73_code 7 = .ok (.getfield 15, 3) := by decide +kernel
theorem d19_10 : decode jdk_68_method_73_code 10 = .ok (.iload_n 1, 1) := by decide +kernel
theorem d19_11 : decode jdk_68_method_73_code 11 = .ok (.aload_n 0, 1) := by decide +kernel
theorem d19_12 : decode jdk_68_method_73_code 12 = .ok (.getfield 22, 3) := by decide +kernel
theorem d19_15 : decode jdk_68_method_73_code 15 = .ok (.invokevirtual 399, 3) := by decide +kernel
theorem d19_18 : decode jdk_68_method_73_code 18 = .ok (.return_, 1) := by decide +kernel
theorem own_ef19 (m : MethodId) (x0 : Addr) (x1 : Int32) (x2 : Addr) : entryFrame m #[(.ref x0), (.int x1), (.ref x2)] 3 = mkF m 0 #[.val (.ref x0), .val (.int x1), .val (.ref x2)] [] := by first | (simp [entryFrame, mkF, argsToLocals, Value.category]; done) | rfl
set_option maxRecDepth 65536 in
set_option maxHeartbeats 40000000 in
theorem rmPut (l : Launch) (Z : State) (a0 : Array Value) (hw : ∀ d ∈ tables_1, d.before a0 Z = true) (ws : List Jvm.Cond) (a : Addr) (dp : Int32) (st : Addr) (cz : Int32) (vb bv : Addr) (kb kd : ClassId) (z : Int32) (vs vd : List Value) (h0 : Heap) (n0 : Nat) (Z0 : n0 ≤ h0.size) (EB : Exa Z h0 a "java/lang/StringBuilder") (FV : Fld Z h0 a "java/lang/AbstractStringBuilder" "value" "[B" (.ref bv)) (FC : Fld Z h0 a "java/lang/AbstractStringBuilder" "coder" "B" (.int (0 : Int32))) (VD : Arv Z h0 bv kd .byte (16 : Int32) vd (.int (0 : Int32))) (ES : Exa Z h0 st "java/lang/String") (F1 : Fld Z h0 st "java/lang/String" "value" "[B" (.ref vb)) (F2 : Fld Z h0 st "java/lang/String" "coder" "B" (.int (0 : Int32))) (VB : Arv Z h0 vb kb .byte z vs (.int (0 : Int32))) (hb1 : ¬ dp < 0) (hb2 : dp.toNatClampNeg + z.toNatClampNeg ≤ 16) (hb3 : vd.length = 16) (gb : n0 ≤ bv) (O2 : Sta Z Z.heap "java/lang/String" "COMPACT_STRINGS" "Z" (.int cz)) (P5 : ¬ cz = 0) (OLD0 : Old Z n0 h0) :
    MetFree l (⟨"java/lang/AbstractStringBuilder", "putStringAt", "(ILjava/lang/String;)V"⟩ : MethodName) (head1 (Jvm.Cond.code (⟨"java/lang/AbstractStringBuilder", "putStringAt", "(ILjava/lang/String;)V"⟩ : MethodName) jdk_68_method_73_code 3 none :: ws) ({ frames := 2, cells := 0, slots := 0, locals := 60 } : Room)) (fun α U => α = #[(.ref a), (.int dp), (.ref st)] ∧ Z.Warmed39 U.vm ∧ U.heap = h0) (fun _ _ _ _ _ => True) (fun _ U ω U' => ∃ ν Λ, ω = .returned ν ∧ QG Z bv kd vd vs dp z h0 n0 ν U'.heap Λ ∧ FrameEnd U ω U' Λ ({ frames := 2, cells := 0, slots := 0, locals := 60 } : Room).cells ({ frames := 2, cells := 0, slots := 0, locals := 60 } : Room).slots) := by
  refine MetFree.of_bodySF (plainFor_of_name own_pn_java_lang_AbstractStringBuilder) hisR ?_
  intro p e s m args below meth c s₁ Bd hml0 hP hK
  obtain ⟨rfl, hZ, hh⟩ := hP
  have hx := Bd.exec
  have hby := Bd.bytes
  have hml : c.maxLocals = 3 := hml0
  have hown : s.vm.findClass "java/lang/AbstractStringBuilder" = some m.cls := findClass_of_methodNamed Bd.named
  have hnm := (name_of_methodNamed Bd.named Bd.method).1
  have X0 : Stand p l e ({ frames := 2, cells := 0, slots := 0, locals := 60 } : Room) s m #[(.ref a), (.int dp), (.ref st)] below meth c s₁ [] 0 0 := Stand.of_body Bd
  have e0 : s₁.heap = h0 := by rw [← hh, Bd.state]; rfl
  have N0 := Fr.nil n0
  have KK0 : Keep h0 h0 [bv] := Keep.refl h0 [bv]
  obtain ⟨PS, hPS⟩ : ∃ P : State → Prop, P = fun τ => Steps p.tables e below (s₁.setTop (entryFrame m #[(.ref a), (.int dp), (.ref st)] 3)) τ := ⟨_, rfl⟩
  have pre0 : ∀ τ, Steps p.tables e below (s₁.setTop (mkF m 0 #[.val (.ref a), .val (.int dp), .val (.ref st)] [])) τ → PS τ := by rw [hPS]; exact fun τ κ => castTop (own_ef19 m a dp st) κ
  obtain ⟨_, T62, L62, X62, ⟨rfl, Nq62, eq62⟩, st62⟩ := own_priv (y := own_mn1) (b := a) X0 hx hZ hown (own_W115 hw) (own_W117 hw) (own_W118 hw) (own_W116 hw) (by decide) (rmInf l Z a0 hw [] a st cz h0 n0 (Nat.le_trans Z0 KK0.1) FC ES F2 O2 P5 OLD0) (own_W119 hw) (own_W75 hw) 0 (by decide) (by decide) EB e0 (mkF m 2 #[.val (.ref a), .val (.int dp), .val (.ref st)] [(.ref st), (.ref a)]) rfl (by rw [hml]; rfl) [(.ref st)] [] rfl (lenOf own_pd__Ljava_lang_String__V rfl) rfl (Nat.le_refl _) (Jvm.hb hby d19_2) (by decide) (by decide)
  have N62 := Fr.app N0 Nq62
  have pre63 := fun (τ : State) kt => pre0 τ (by
    show Steps p.tables e below (s₁.setTop (mkF m 0 #[.val (.ref a), .val (.int dp), .val (.ref st)] [])) τ
    refine XS.aloadN X0.here hx rfl (Jvm.hb hby d19_0) rfl rfl ?_
    refine XS.aloadN X0.here hx rfl (Jvm.hb hby d19_1) rfl rfl ?_
    exact st62 τ kt)
  obtain ⟨T64, X64, e64, st64⟩ := getF X62 hx hZ hown (host := "") (Or.inl (own_W79 hw)) Via.refl eq62 FV (g := (mkF m 7 #[.val (.ref a), .val (.int dp), .val (.ref st)] [(.ref a), (.ref st)])) rfl rfl (Jvm.hb hby d19_7)
  have pre65 := fun (τ : State) kt => pre63 τ (by
    show Steps p.tables e below (T62.setTop (mkF m 5 #[.val (.ref a), .val (.int dp), .val (.ref st)] [])) τ
    refine XS.aloadN X62.here hx rfl (Jvm.hb hby d19_5) rfl rfl ?_
    refine XS.aloadN X62.here hx rfl (Jvm.hb hby d19_6) rfl rfl ?_
    exact st64 τ kt)
  obtain ⟨T66, X66, e66, st66⟩ := getF X64 hx hZ hown (host := "") (Or.inl (own_W81 hw)) Via.refl e64 FC (g := (mkF m 12 #[.val (.ref a), .val (.int dp), .val (.ref st)] [(.ref a), (.int dp), (.ref bv), (.ref st)])) rfl rfl (Jvm.hb hby d19_12)
  have pre67 := fun (τ : State) kt => pre65 τ (by
    show Steps p.tables e below (T64.setTop (mkF m 10 #[.val (.ref a), .val (.int dp), .val (.ref st)] [(.ref bv), (.ref st)])) τ
    refine XS.iloadN X64.here hx rfl (Jvm.hb hby d19_10) rfl ?_
    refine XS.aloadN X64.here hx rfl (Jvm.hb hby d19_11) rfl rfl ?_
    exact st66 τ kt)
  obtain ⟨_, T68, L68, X68, ⟨rfl, Nq68, Kq68, va68⟩, st68⟩ := own_virt (y := own_mn2) (b := st) X66 hx hZ hown (own_W121 hw) (own_W122 hw) (own_W124 hw) (own_W123 hw) (by decide) (rmGB l Z a0 hw [] st bv dp (0 : Int32) cz vb kb kd z vs vd h0 n0 (Nat.le_trans Z0 KK0.1) rfl ES F1 F2 VB VD hb1 hb2 hb3 gb O2 P5 OLD0) (own_W125 hw) (own_W6 hw) 0 (by decide) (by decide) ES e66 (mkF m 15 #[.val (.ref a), .val (.int dp), .val (.ref st)] [(.int (0 : Int32)), (.int dp), (.ref bv), (.ref st)]) rfl (by rw [hml]; rfl) [(.ref bv), (.int dp), (.int (0 : Int32))] [] rfl (lenOf own_pd___BIB_V rfl) rfl (Nat.le_refl _) (Jvm.hb hby d19_15) (by decide) (by decide)
  have N68 := Fr.app N62 Nq68
  have K68 : Keep h0 T68.heap [bv] := KK0.trans Kq68 (allS (Or.inl (by simp)) (all0))
  have pre69 := fun (τ : State) kt => pre67 τ (st68 τ kt)
  obtain ⟨fs, hrL, hrun, hended, hW, hsame⟩ := X68.leave (v := none) (fun _ => rfl)
  refine ⟨_, _, cast (congrFun hPS _) (pre69 _ ?_), hrun, hended, _, _, rfl, ?_, ⟨_, rfl⟩, hW, hsame.mono (by decide) (by decide)⟩
  · show Steps p.tables e below (T68.setTop (mkF m 18 #[.val (.ref a), .val (.int dp), .val (.ref st)] [])) _
    exact X68.returnOut hx Bd.returns (Jvm.hb hby d19_18) hrL
  · show QG Z bv kd vd vs dp z h0 n0 _ T68.heap _
    exact ⟨rfl, N68, K68, va68⟩
def QA (Z : State) (a bv : Addr) (kd : ClassId) (vd vs : List Value) (dp z : Int32) (h0 : Heap) (n0 : Nat) (v : Option Value) (h : Heap) (L : List Loc) : Prop := v = some (.ref a) ∧ Fr n0 L ∧ Keep h0 h [a, bv] ∧ Fld Z h a "java/lang/AbstractStringBuilder" "value" "[B" (.ref bv) ∧ Fld Z h a "java/lang/AbstractStringBuilder" "coder" "B" (.int (0 : Int32)) ∧ Fld Z h a "java/lang/AbstractStringBuilder" "count" "I" (.int (dp + z)) ∧ Arv Z h bv kd .byte (16 : Int32) (own_cpl vd vs 0 dp z) (.int (0 : Int32))
theorem d15_0 : decode jdk_68_method_22_code 0 = .ok (.aload_n 1, 1) := by decide +kernel
theorem d15_1 : decode jdk_68_method_22_code 1 = .ok (.ifnonnull 8, 3) := by decide +kernel
theorem d15_4 : decode jdk_68_method_22_code 4 = .ok (.aload_n 0, 1) := by decide +kernel
theorem d15_5 : decode jdk_68_method_22_code 5 = .ok (.invokevirtual 204, 3) := by decide +kernel
theorem d15_8 : decode jdk_68_method_22_code 8 = .ok (.areturn, 1) := by decide +kernel
theorem d15_9 : decode jdk_68_method_22_code 9 = .ok (.aload_n 1, 1) := by decide +kernel
theorem d15_10 : decode jdk_68_method_22_code 10 = .ok (.invokevirtual 32, 3) := by decide +kernel
theorem d15_13 : decode jdk_68_method_22_code 13 = .ok (.istore_n 2, 1) := by decide +kernel
theorem d15_14 : decode jdk_68_method_22_code 14 = .ok (.aload_n 0, 1) := by decide +kernel
theorem d15_15 : decode jdk_68_method_22_code 15 = .ok (.aload_n 0, 1) := by decide +kernel
theorem d15_16 : decode jdk_68_method_22_code 16 = .ok (.getfield 79, 3) := by decide +kernel
theorem d15_19 : decode jdk_68_method_22_code 19 = .ok (.iload_n 2, 1) := by decide +kernel
theorem d15_20 : decode jdk_68_method_22_code 20 = .ok (.iadd, 1) := by decide +kernel
theorem d15_21 : decode jdk_68_method_22_code 21 = .ok (.invokevirtual 100, 3) := by decide +kernel
theorem d15_24 : decode jdk_68_method_22_code 24 = .ok (.aload_n 0, 1) := by decide +kernel
theorem d15_25 : decode jdk_68_method_22_code 25 = .ok (.aload_n 0, 1) := by decide +kernel
theorem d15_26 : decode jdk_68_method_22_code 26 = .ok (.getfield 79, 3) := by decide +kernel
theorem d15_29 : decode jdk_68_method_22_code 29 = .ok (.aload_n 1, 1) := by decide +kernel
theorem d15_30 : decode jdk_68_method_22_code 30 = .ok (.invokevirtual 208, 3) := by decide +kernel
theorem d15_33 : decode jdk_68_method_22_code 33 = .ok (.aload_n 0, 1) := by decide +kernel
theorem d15_34 : decode jdk_68_method_22_code 34 = .ok (.dup, 1) := by decide +kernel
theorem d15_35 : decode jdk_68_method_22_code 35 = .ok (.getfield 79, 3) := by decide +kernel
theorem d15_38 : decode jdk_68_method_22_code 38 = .ok (.iload_n 2, 1) := by decide +kernel
theorem d15_39 : decode jdk_68_method_22_code 39 = .ok (.iadd, 1) := by decide +kernel
theorem d15_40 : decode jdk_68_method_22_code 40 = .ok (.putfield 79, 3) := by decide +kernel
theorem d15_43 : decode jdk_68_method_22_code 43 = .ok (.aload_n 0, 1) := by decide +kernel
theorem d15_44 : decode jdk_68_method_22_code 44 = .ok (.areturn, 1) := by decide +kernel
theorem own_ef15 (m : MethodId) (x0 : Addr) (x1 : Addr) : entryFrame m #[(.ref x0), (.ref x1)] 3 = mkF m 0 #[.val (.ref x0), .val (.ref x1), .unset] [] := by first | (simp [entryFrame, mkF, argsToLocals, Value.category]; done) | rfl
set_option maxRecDepth 65536 in
set_option maxHeartbeats 40000000 in
theorem rmApA (l : Launch) (Z : State) (a0 : Array Value) (hw : ∀ d ∈ tables_1, d.before a0 Z = true) (ws : List Jvm.Cond) (a : Addr) (st : Addr) (cz : Int32) (vb bv : Addr) (kb kd : ClassId) (z dp : Int32) (vs vd : List Value) (h0 : Heap) (n0 : Nat) (Z0 : n0 ≤ h0.size) (EB : Exa Z h0 a "java/lang/StringBuilder") (FV : Fld Z h0 a "java/lang/AbstractStringBuilder" "value" "[B" (.ref bv)) (FC : Fld Z h0 a "java/lang/AbstractStringBuilder" "coder" "B" (.int (0 : Int32))) (FN : Fld Z h0 a "java/lang/AbstractStringBuilder" "count" "I" (.int dp)) (VD : Arv Z h0 bv kd .byte (16 : Int32) vd (.int (0 : Int32))) (ES : Exa Z h0 st "java/lang/String") (F1 : Fld Z h0 st "java/lang/String" "value" "[B" (.ref vb)) (F2 : Fld Z h0 st "java/lang/String" "coder" "B" (.int (0 : Int32))) (VB : Arv Z h0 vb kb .byte z vs (.int (0 : Int32))) (hcap : ¬ ((0 : Int32) < ((dp + z) - ((16 : Int32) >>> ((0 : Int32) &&& 31))))) (hb1 : ¬ dp < 0) (hb2 : dp.toNatClampNeg + z.toNatClampNeg ≤ 16) (hb3 : vd.length = 16) (gb : n0 ≤ bv) (ga : n0 ≤ a) (nb : bv ≠ a) (ns : st ≠ a) (nv : vb ≠ a) (nbv : vb ≠ bv) (nsv : st ≠ bv) (nab : a ≠ bv) (O2 : Sta Z Z.heap "java/lang/String" "COMPACT_STRINGS" "Z" (.int cz)) (P5 : ¬ cz = 0) (OLD0 : Old Z n0 h0) :
    MetFree l (⟨"java/lang/AbstractStringBuilder", "append", "(Ljava/lang/String;)Ljava/lang/AbstractStringBuilder;"⟩ : MethodName) (head1 (Jvm.Cond.code (⟨"java/lang/AbstractStringBuilder", "append", "(Ljava/lang/String;)Ljava/lang/AbstractStringBuilder;"⟩ : MethodName) jdk_68_method_22_code 3 (some (.object "java/lang/AbstractStringBuilder")) :: ws) ({ frames := 3, cells := 0, slots := 0, locals := 80 } : Room)) (fun α U => α = #[(.ref a), (.ref st)] ∧ Z.Warmed39 U.vm ∧ U.heap = h0) (fun _ _ _ _ _ => True) (fun _ U ω U' => ∃ ν Λ, ω = .returned ν ∧ QA Z a bv kd vd vs dp z h0 n0 ν U'.heap Λ ∧ FrameEnd U ω U' Λ ({ frames := 3, cells := 0, slots := 0, locals := 80 } : Room).cells ({ frames := 3, cells := 0, slots := 0, locals := 80 } : Room).slots) := by
  refine MetFree.of_bodySF (plainFor_of_name own_pn_java_lang_AbstractStringBuilder) hisR ?_
  intro p e s m args below meth c s₁ Bd hml0 hP hK
  obtain ⟨rfl, hZ, hh⟩ := hP
  have hx := Bd.exec
  have hby := Bd.bytes
  have hml : c.maxLocals = 3 := hml0
  have hown : s.vm.findClass "java/lang/AbstractStringBuilder" = some m.cls := findClass_of_methodNamed Bd.named
  have hnm := (name_of_methodNamed Bd.named Bd.method).1
  have X0 : Stand p l e ({ frames := 3, cells := 0, slots := 0, locals := 80 } : Room) s m #[(.ref a), (.ref st)] below meth c s₁ [] 0 0 := Stand.of_body Bd
  have e0 : s₁.heap = h0 := by rw [← hh, Bd.state]; rfl
  have N0 := Fr.nil n0
  have KK0 : Keep h0 h0 [a, bv] := Keep.refl h0 [a, bv]
  obtain ⟨PS, hPS⟩ : ∃ P : State → Prop, P = fun τ => Steps p.tables e below (s₁.setTop (entryFrame m #[(.ref a), (.ref st)] 3)) τ := ⟨_, rfl⟩
  have pre0 : ∀ τ, Steps p.tables e below (s₁.setTop (mkF m 0 #[.val (.ref a), .val (.ref st), .unset] [])) τ → PS τ := by rw [hPS]; exact fun τ κ => castTop (own_ef15 m a st) κ
  obtain ⟨_, T70, L70, X70, ⟨rfl, Nq70, eq70⟩, st70⟩ := own_virt (y := own_mn3) (b := st) X0 hx hZ hown (own_W93 hw) (own_W94 hw) (own_W96 hw) (own_W95 hw) (by decide) (rmLen l Z a0 hw [] st cz vb kb z vs h0 n0 (Nat.le_trans Z0 KK0.1) ES F1 F2 VB O2 P5 OLD0) (own_W97 hw) (own_W6 hw) 0 (by decide) (by decide) ES e0 (mkF m 10 #[.val (.ref a), .val (.ref st), .unset] [(.ref st)]) rfl (by rw [hml]; rfl) [] [] rfl (lenOf own_pd___I rfl) rfl (Nat.le_refl _) (Jvm.hb hby d15_10) (by decide) (by decide)
  have N70 := Fr.app N0 Nq70
  have pre71 := fun (τ : State) kt => pre0 τ (by
    show Steps p.tables e below (s₁.setTop (mkF m 0 #[.val (.ref a), .val (.ref st), .unset] [])) τ
    refine XS.aloadN X0.here hx rfl (Jvm.hb hby d15_0) rfl rfl ?_
    refine XT.ifnonnullYes X0.here hx rfl (pc0 := 1) (pc' := 9) rfl (Jvm.hb hby d15_1) rfl (by decide) (by decide) ?_
    refine XS.aloadN X0.here hx rfl (Jvm.hb hby d15_9) rfl rfl ?_
    exact st70 τ kt)
  obtain ⟨T72, X72, e72, st72⟩ := getF X70 hx hZ hown (host := "") (Or.inl (own_W103 hw)) Via.refl eq70 FN (g := (mkF m 16 #[.val (.ref a), .val (.ref st), .val (.int z)] [(.ref a), (.ref a)])) rfl rfl (Jvm.hb hby d15_16)
  have pre73 := fun (τ : State) kt => pre71 τ (by
    show Steps p.tables e below (T70.setTop (mkF m 13 #[.val (.ref a), .val (.ref st), .unset] [(.int z)])) τ
    refine XS.istoreN X70.here hx rfl (Jvm.hb hby d15_13) rfl (l' := #[.val (.ref a), .val (.ref st), .val (.int z)]) rfl ?_
    refine XS.aloadN X70.here hx rfl (Jvm.hb hby d15_14) rfl rfl ?_
    refine XS.aloadN X70.here hx rfl (Jvm.hb hby d15_15) rfl rfl ?_
    exact st72 τ kt)
  obtain ⟨_, T74, L74, X74, ⟨rfl, Nq74, eq74⟩, st74⟩ := own_priv (y := own_mn4) (b := a) X72 hx hZ hown (own_W105 hw) (own_W107 hw) (own_W108 hw) (own_W106 hw) (by decide) (rmEns l Z a0 hw [] a (dp + z) bv kd vd h0 n0 (Nat.le_trans Z0 KK0.1) FV FC VD hcap) (own_W109 hw) (own_W75 hw) 0 (by decide) (by decide) EB e72 (mkF m 21 #[.val (.ref a), .val (.ref st), .val (.int z)] [(.int (dp + z)), (.ref a)]) rfl (by rw [hml]; rfl) [(.int (dp + z))] [] rfl (lenOf own_pd__I_V rfl) rfl (Nat.le_refl _) (Jvm.hb hby d15_21) (by decide) (by decide)
  have N74 := Fr.app N70 Nq74
  have pre75 := fun (τ : State) kt => pre73 τ (by
    show Steps p.tables e below (T72.setTop (mkF m 19 #[.val (.ref a), .val (.ref st), .val (.int z)] [(.int dp), (.ref a)])) τ
    refine XS.iloadN X72.here hx rfl (Jvm.hb hby d15_19) rfl ?_
    refine XS.iadd X72.here hx rfl (Jvm.hb hby d15_20) rfl ?_
    exact st74 τ kt)
  obtain ⟨T76, X76, e76, st76⟩ := getF X74 hx hZ hown (host := "") (Or.inl (own_W103 hw)) Via.refl eq74 FN (g := (mkF m 26 #[.val (.ref a), .val (.ref st), .val (.int z)] [(.ref a), (.ref a)])) rfl rfl (Jvm.hb hby d15_26)
  have pre77 := fun (τ : State) kt => pre75 τ (by
    show Steps p.tables e below (T74.setTop (mkF m 24 #[.val (.ref a), .val (.ref st), .val (.int z)] [])) τ
    refine XS.aloadN X74.here hx rfl (Jvm.hb hby d15_24) rfl rfl ?_
    refine XS.aloadN X74.here hx rfl (Jvm.hb hby d15_25) rfl rfl ?_
    exact st76 τ kt)
  obtain ⟨_, T78, L78, X78, ⟨rfl, Nq78, Kq78, va78⟩, st78⟩ := own_priv (y := own_mn5) (b := a) X76 hx hZ hown (own_W110 hw) (own_W112 hw) (own_W113 hw) (own_W111 hw) (by decide) (rmPut l Z a0 hw [] a dp st cz vb bv kb kd z vs vd h0 n0 (Nat.le_trans Z0 KK0.1) EB FV FC VD ES F1 F2 VB hb1 hb2 hb3 gb O2 P5 OLD0) (own_W114 hw) (own_W75 hw) 0 (by decide) (by decide) EB e76 (mkF m 30 #[.val (.ref a), .val (.ref st), .val (.int z)] [(.ref st), (.int dp), (.ref a)]) rfl (by rw [hml]; rfl) [(.int dp), (.ref st)] [] rfl (lenOf own_pd__ILjava_lang_String__V rfl) rfl (Nat.le_refl _) (Jvm.hb hby d15_30) (by decide) (by decide)
  have N78 := Fr.app N74 Nq78
  have K78 : Keep h0 T78.heap [a, bv] := KK0.trans Kq78 (allS (Or.inl (by simp)) (all0))
  have pre79 := fun (τ : State) kt => pre77 τ (by
    show Steps p.tables e below (T76.setTop (mkF m 29 #[.val (.ref a), .val (.ref st), .val (.int z)] [(.int dp), (.ref a)])) τ
    refine XS.aloadN X76.here hx rfl (Jvm.hb hby d15_29) rfl rfl ?_
    exact st78 τ kt)
  have f81 := FN.keep Kq78 (ninS nab (nin0))
  obtain ⟨T80, X80, e80, st80⟩ := getF X78 hx hZ hown (host := "") (Or.inl (own_W103 hw)) Via.refl rfl f81 (g := (mkF m 35 #[.val (.ref a), .val (.ref st), .val (.int z)] [(.ref a), (.ref a)])) rfl rfl (Jvm.hb hby d15_35)
  have pre82 := fun (τ : State) kt => pre79 τ (by
    show Steps p.tables e below (T78.setTop (mkF m 33 #[.val (.ref a), .val (.ref st), .val (.int z)] [])) τ
    refine XS.aloadN X78.here hx rfl (Jvm.hb hby d15_33) rfl rfl ?_
    refine XS.dup X78.here hx rfl (Jvm.hb hby d15_34) rfl rfl ?_
    exact st80 τ kt)
  have f84 := EB.keep Kq78
  obtain ⟨T83, h83, X83, e83, W83, st83⟩ := putF X80 hx hZ hown (host := "") (Or.inl (own_W103 hw)) Via.refl e80 f81 f84 (Or.inl (own_W104 hw)) (own_W66 hw) (ty := .int) (by decide) rfl rfl (g := (mkF m 40 #[.val (.ref a), .val (.ref st), .val (.int z)] [(.int (dp + z)), (.ref a)])) rfl rfl (Jvm.hb hby d15_40)
  have fw83 := Fld.same W83 f81
  have N83 := Fr.snoc X83 N78 ga
  have K83 : Keep h0 h83 [a, bv] := K78.wr W83 (Or.inl (by simp))
  have pre85 := fun (τ : State) kt => pre82 τ (by
    show Steps p.tables e below (T80.setTop (mkF m 38 #[.val (.ref a), .val (.ref st), .val (.int z)] [(.int dp), (.ref a)])) τ
    refine XS.iloadN X80.here hx rfl (Jvm.hb hby d15_38) rfl ?_
    refine XS.iadd X80.here hx rfl (Jvm.hb hby d15_39) rfl ?_
    exact st83 τ kt)
  have f86 := FV.keep Kq78 (ninS nab (nin0))
  have f87 := (f86.other W83 (Or.inr (slot_ne (Or.inl (own_W80 hw)) (Or.inl (own_W104 hw)) (by decide) (t := (.array .byte)) (t' := .int) (by decide) (by decide))))
  have f88 := FC.keep Kq78 (ninS nab (nin0))
  have f89 := (f88.other W83 (Or.inr (slot_ne (Or.inl (own_W82 hw)) (Or.inl (own_W104 hw)) (by decide) (t := .byte) (t' := .int) (by decide) (by decide))))
  have f90 := va78.other W83 nb
  have pre91 := fun (τ : State) kt => pre85 τ (by
    show Steps p.tables e below (T83.setTop (mkF m 43 #[.val (.ref a), .val (.ref st), .val (.int z)] [])) τ
    refine XS.aloadN X83.here hx rfl (Jvm.hb hby d15_43) rfl rfl ?_
    exact kt)
  obtain ⟨fs, hrL, hrun, hended, hW, hsame⟩ := X83.leave (v := some (.ref a)) (fun h => by rw [Bd.returns] at h; cases h)
  refine ⟨_, _, cast (congrFun hPS _) (pre91 _ ?_), hrun, hended, _, _, rfl, ?_, ⟨_, rfl⟩, hW, hsame.mono (by decide) (by decide)⟩
  · show Steps p.tables e below (T83.setTop (mkF m 44 #[.val (.ref a), .val (.ref st), .val (.int z)] [(.ref a)])) _
    exact retOut X83 hx Bd.returns rfl (Or.inr (Or.inr (Or.inr (Or.inr ⟨rfl, rfl, rfl⟩)))) (Jvm.hb hby d15_44) hrL
  · show QA Z a bv kd vd vs dp z h0 n0 _ T83.heap _
    rw [e83]
    exact ⟨rfl, N83, K83, f87, f89, fw83, f90⟩
theorem d14_0 : decode jdk_67_method_7_code 0 = .ok (.aload_n 0, 1) := by decide +kernel
theorem d14_1 : decode jdk_67_method_7_code 1 = .ok (.aload_n 1, 1) := by decide +kernel
theorem d14_2 : decode jdk_67_method_7_code 2 = .ok (.invokespecial 29, 3) := by decide +kernel
theorem d14_5 : decode jdk_67_method_7_code 5 = .ok (.pop, 1) := by decide +kernel
theorem d14_6 : decode jdk_67_method_7_code 6 = .ok (.aload_n 0, 1) := by decide +kernel
theorem d14_7 : decode jdk_67_method_7_code 7 = .ok (.areturn, 1) := by decide +kernel
theorem own_pn_java_lang_StringBuilder : plainName "java/lang/StringBuilder" = true := by first | (simp [plainName, overriddenIn]; done) | decide +kernel
theorem own_ef14 (m : MethodId) (x0 : Addr) (x1 : Addr) : entryFrame m #[(.ref x0), (.ref x1)] 2 = mkF m 0 #[.val (.ref x0), .val (.ref x1)] [] := by first | (simp [entryFrame, mkF, argsToLocals, Value.category]; done) | rfl
set_option maxRecDepth 65536 in
set_option maxHeartbeats 40000000 in
theorem rmAp (l : Launch) (Z : State) (a0 : Array Value) (hw : ∀ d ∈ tables_1, d.before a0 Z = true) (ws : List Jvm.Cond) (a : Addr) (st : Addr) (cz : Int32) (vb bv : Addr) (kb kd : ClassId) (z dp : Int32) (vs vd : List Value) (h0 : Heap) (n0 : Nat) (Z0 : n0 ≤ h0.size) (EB : Exa Z h0 a "java/lang/StringBuilder") (FV : Fld Z h0 a "java/lang/AbstractStringBuilder" "value" "[B" (.ref bv)) (FC : Fld Z h0 a "java/lang/AbstractStringBuilder" "coder" "B" (.int (0 : Int32))) (FN : Fld Z h0 a "java/lang/AbstractStringBuilder" "count" "I" (.int dp)) (VD : Arv Z h0 bv kd .byte (16 : Int32) vd (.int (0 : Int32))) (ES : Exa Z h0 st "java/lang/String") (F1 : Fld Z h0 st "java/lang/String" "value" "[B" (.ref vb)) (F2 : Fld Z h0 st "java/lang/String" "coder" "B" (.int (0 : Int32))) (VB : Arv Z h0 vb kb .byte z vs (.int (0 : Int32))) (hcap : ¬ ((0 : Int32) < ((dp + z) - ((16 : Int32) >>> ((0 : Int32) &&& 31))))) (hb1 : ¬ dp < 0) (hb2 : dp.toNatClampNeg + z.toNatClampNeg ≤ 16) (hb3 : vd.length = 16) (gb : n0 ≤ bv) (ga : n0 ≤ a) (nb : bv ≠ a) (ns : st ≠ a) (nv : vb ≠ a) (nbv : vb ≠ bv) (nsv : st ≠ bv) (nab : a ≠ bv) (O2 : Sta Z Z.heap "java/lang/String" "COMPACT_STRINGS" "Z" (.int cz)) (P5 : ¬ cz = 0) (OLD0 : Old Z n0 h0) :
    MetFree l (⟨"java/lang/StringBuilder", "append", "(Ljava/lang/String;)Ljava/lang/StringBuilder;"⟩ : MethodName) (head1 (Jvm.Cond.code (⟨"java/lang/StringBuilder", "append", "(Ljava/lang/String;)Ljava/lang/StringBuilder;"⟩ : MethodName) jdk_67_method_7_code 2 (some (.object "java/lang/StringBuilder")) :: ws) ({ frames := 4, cells := 0, slots := 0, locals := 95 } : Room)) (fun α U => α = #[(.ref a), (.ref st)] ∧ Z.Warmed39 U.vm ∧ U.heap = h0) (fun _ _ _ _ _ => True) (fun _ U ω U' => ∃ ν Λ, ω = .returned ν ∧ QA Z a bv kd vd vs dp z h0 n0 ν U'.heap Λ ∧ FrameEnd U ω U' Λ ({ frames := 4, cells := 0, slots := 0, locals := 95 } : Room).cells ({ frames := 4, cells := 0, slots := 0, locals := 95 } : Room).slots) := by
  refine MetFree.of_bodySF (plainFor_of_name own_pn_java_lang_StringBuilder) hisR ?_
  intro p e s m args below meth c s₁ Bd hml0 hP hK
  obtain ⟨rfl, hZ, hh⟩ := hP
  have hx := Bd.exec
  have hby := Bd.bytes
  have hml : c.maxLocals = 2 := hml0
  have hown : s.vm.findClass "java/lang/StringBuilder" = some m.cls := findClass_of_methodNamed Bd.named
  have hnm := (name_of_methodNamed Bd.named Bd.method).1
  have X0 : Stand p l e ({ frames := 4, cells := 0, slots := 0, locals := 95 } : Room) s m #[(.ref a), (.ref st)] below meth c s₁ [] 0 0 := Stand.of_body Bd
  have e0 : s₁.heap = h0 := by rw [← hh, Bd.state]; rfl
  have N0 := Fr.nil n0
  have KK0 : Keep h0 h0 [a, bv] := Keep.refl h0 [a, bv]
  obtain ⟨PS, hPS⟩ : ∃ P : State → Prop, P = fun τ => Steps p.tables e below (s₁.setTop (entryFrame m #[(.ref a), (.ref st)] 2)) τ := ⟨_, rfl⟩
  have pre0 : ∀ τ, Steps p.tables e below (s₁.setTop (mkF m 0 #[.val (.ref a), .val (.ref st)] [])) τ → PS τ := by rw [hPS]; exact fun τ κ => castTop (own_ef14 m a st) κ
  obtain ⟨_, T92, L92, X92, ⟨rfl, Nq92, Kq92, qv92, qc92, qn92, va92⟩, st92⟩ := own_super (y := own_mn6) (b := a) X0 hx hZ hown (own_W88 hw) (own_same (y := own_mn6) (y2 := own_mn4) (by decide) (own_W89 hw) (own_W108 hw) rfl) (own_W89 hw) (own_W90 hw) (by decide) (rmApA l Z a0 hw [] a st cz vb bv kb kd z dp vs vd h0 n0 (Nat.le_trans Z0 KK0.1) EB FV FC FN VD ES F1 F2 VB  hcap hb1 hb2 hb3 gb ga nb ns nv nbv nsv nab O2 P5 OLD0) (own_W92 hw) (own_W75 hw) 0 (by decide) (by decide) EB e0 (mkF m 2 #[.val (.ref a), .val (.ref st)] [(.ref st), (.ref a)]) rfl (by rw [hml]; rfl) [(.ref st)] [] rfl (lenOf own_pd__Ljava_lang_String__Ljava_lang_AbstractStringBuilder_ rfl) rfl (Nat.le_refl _) (Jvm.hb hby d14_2) (by decide) (by decide)
  have N92 := Fr.app N0 Nq92
  have K92 : Keep h0 T92.heap [a, bv] := KK0.trans Kq92 (allS (Or.inl (by simp)) (allS (Or.inl (by simp)) (all0)))
  have pre93 := fun (τ : State) kt => pre0 τ (by
    show Steps p.tables e below (s₁.setTop (mkF m 0 #[.val (.ref a), .val (.ref st)] [])) τ
    refine XS.aloadN X0.here hx rfl (Jvm.hb hby d14_0) rfl rfl ?_
    refine XS.aloadN X0.here hx rfl (Jvm.hb hby d14_1) rfl rfl ?_
    exact st92 τ kt)
  have pre94 := fun (τ : State) kt => pre93 τ (by
    show Steps p.tables e below (T92.setTop (mkF m 5 #[.val (.ref a), .val (.ref st)] [(.ref a)])) τ
    refine XT.pop X92.here hx rfl (Jvm.hb hby d14_5) rfl rfl ?_
    refine XS.aloadN X92.here hx rfl (Jvm.hb hby d14_6) rfl rfl ?_
    exact kt)
  obtain ⟨fs, hrL, hrun, hended, hW, hsame⟩ := X92.leave (v := some (.ref a)) (fun h => by rw [Bd.returns] at h; cases h)
  refine ⟨_, _, cast (congrFun hPS _) (pre94 _ ?_), hrun, hended, _, _, rfl, ?_, ⟨_, rfl⟩, hW, hsame.mono (by decide) (by decide)⟩
  · show Steps p.tables e below (T92.setTop (mkF m 7 #[.val (.ref a), .val (.ref st)] [(.ref a)])) _
    exact retOut X92 hx Bd.returns rfl (Or.inr (Or.inr (Or.inr (Or.inr ⟨rfl, rfl, rfl⟩)))) (Jvm.hb hby d14_7) hrL
  · show QA Z a bv kd vd vs dp z h0 n0 _ T92.heap _
    exact ⟨rfl, N92, K92, qv92, qc92, qn92, va92⟩
def QB (Z : State) (a : Addr) (h0 : Heap) (n0 : Nat) (v : Option Value) (h : Heap) (L : List Loc) : Prop := ∃ (bv : Addr) (kd : ClassId), v = none ∧ Fr n0 L ∧ Keep h0 h [a] ∧ n0 ≤ bv ∧ h0.size ≤ bv ∧ bv ≠ a ∧ Fld Z h a "java/lang/AbstractStringBuilder" "value" "[B" (.ref bv) ∧ Fld Z h a "java/lang/AbstractStringBuilder" "coder" "B" (.int (0 : Int32)) ∧ Fld Z h a "java/lang/AbstractStringBuilder" "count" "I" (.int (0 : Int32)) ∧ Arv Z h bv kd .byte (16 : Int32) own_z16 (.int (0 : Int32))
theorem d13_0 : decode jdk_68_method_2_code 0 = .ok (.aload_n 0, 1) := by decide +kernel
theorem d13_1 : decode jdk_68_method_2_code 1 = .ok (.invokespecial 3, 3) := by decide +kernel
theorem d13_4 : decode jdk_68_method_2_code 4 = .ok (.getstatic 18, 3) := by decide +kernel
theorem d13_7 : decode jdk_68_method_2_code 7 = .ok (.ifCond .eq 18, 3) := by decide +kernel
theorem d13_10 : decode jdk_68_method_2_code 10 = .ok (.aload_n 0, 1) := by decide +kernel
theorem d13_11 : decode jdk_68_method_2_code 11 = .ok (.iload_n 1, 1) := by decide +kernel
theorem d13_12 : decode jdk_68_method_2_code 12 = .ok (.newarray .byte, 2) := by decide +kernel
theorem d13_14 : decode jdk_68_method_2_code 14 = .ok (.putfield 15, 3) := by decide +kernel
theorem d13_17 : decode jdk_68_method_2_code 17 = .ok (.aload_n 0, 1) := by decide +kernel
theorem d13_18 : decode jdk_68_method_2_code 18 = .ok (.iconst 0, 1) := by decide +kernel
theorem d13_19 : decode jdk_68_method_2_code 19 = .ok (.putfield 22, 3) := by decide +kernel
theorem d13_22 : decode jdk_68_method_2_code 22 = .ok (.goto 16, 3) := by decide +kernel
theorem d13_25 : decode jdk_68_method_2_code 25 = .ok (.aload_n 0, 1) := by decide +kernel
theorem d13_26 : decode jdk_68_method_2_code 26 = .ok (.iload_n 1, 1) := by decide +kernel
theorem d13_27 : decode jdk_68_method_2_code 27 = .ok (.invokestatic 26, 3) := by decide +kernel
theorem d13_30 : decode jdk_68_method_2_code 30 = .ok (.putfield 15, 3) := by decide +kernel
theorem d13_33 : decode jdk_68_method_2_code 33 = .ok (.aload_n 0, 1) := by decide +kernel
theorem d13_34 : decode jdk_68_method_2_code 34 = .ok (.iconst 1, 1) := by decide +kernel
theorem d13_35 : decode jdk_68_method_2_code 35 = .ok (.putfield 22, 3) := by decide +kernel
theorem d13_38 : decode jdk_68_method_2_code 38 = .ok (.return_, 1) := by decide +kernel
theorem own_ef13 (m : MethodId) (x0 : Addr) (x1 : Int32) : entryFrame m #[(.ref x0), (.int x1)] 2 = mkF m 0 #[.val (.ref x0), .val (.int x1)] [] := by first | (simp [entryFrame, mkF, argsToLocals, Value.category]; done) | rfl
set_option maxRecDepth 65536 in
set_option maxHeartbeats 40000000 in
theorem rmASB (l : Launch) (Z : State) (a0 : Array Value) (hw : ∀ d ∈ tables_1, d.before a0 Z = true) (ws : List Jvm.Cond) (a : Addr) (ic : Int32) (cz : Int32)  (h0 : Heap) (n0 : Nat) (Z0 : n0 ≤ h0.size) (hic : ic = (16 : Int32)) (EB : Exa Z h0 a "java/lang/StringBuilder") (FV : Fld Z h0 a "java/lang/AbstractStringBuilder" "value" "[B" .null) (FC : Fld Z h0 a "java/lang/AbstractStringBuilder" "coder" "B" (.int (0 : Int32))) (FN : Fld Z h0 a "java/lang/AbstractStringBuilder" "count" "I" (.int (0 : Int32))) (ga : n0 ≤ a) (O2 : Sta Z Z.heap "java/lang/String" "COMPACT_STRINGS" "Z" (.int cz)) (P5 : ¬ cz = 0) (OLD0 : Old Z n0 h0) :
    MetFree l (⟨"java/lang/AbstractStringBuilder", "<init>", "(I)V"⟩ : MethodName) (head1 (Jvm.Cond.code (⟨"java/lang/AbstractStringBuilder", "<init>", "(I)V"⟩ : MethodName) jdk_68_method_2_code 2 none :: ws) ({ frames := 1, cells := 1, slots := 16, locals := 12 } : Room)) (fun α U => α = #[(.ref a), (.int ic)] ∧ Z.Warmed39 U.vm ∧ U.heap = h0) (fun _ _ _ _ _ => True) (fun _ U ω U' => ∃ ν Λ, ω = .returned ν ∧ QB Z a h0 n0 ν U'.heap Λ ∧ FrameEnd U ω U' Λ ({ frames := 1, cells := 1, slots := 16, locals := 12 } : Room).cells ({ frames := 1, cells := 1, slots := 16, locals := 12 } : Room).slots) := by
  refine MetFree.of_bodySF (plainFor_of_name own_pn_java_lang_AbstractStringBuilder) hisR ?_
  intro p e s m args below meth c s₁ Bd hml0 hP hK
  obtain ⟨rfl, hZ, hh⟩ := hP
  have hx := Bd.exec
  have hby := Bd.bytes
  have hml : c.maxLocals = 2 := hml0
  have hown : s.vm.findClass "java/lang/AbstractStringBuilder" = some m.cls := findClass_of_methodNamed Bd.named
  have hnm := (name_of_methodNamed Bd.named Bd.method).1
  have X0 : Stand p l e ({ frames := 1, cells := 1, slots := 16, locals := 12 } : Room) s m #[(.ref a), (.int ic)] below meth c s₁ [] 0 0 := Stand.of_body Bd
  have e0 : s₁.heap = h0 := by rw [← hh, Bd.state]; rfl
  have N0 := Fr.nil n0
  have KK0 : Keep h0 h0 [a] := Keep.refl h0 [a]
  obtain ⟨PS, hPS⟩ : ∃ P : State → Prop, P = fun τ => Steps p.tables e below (s₁.setTop (entryFrame m #[(.ref a), (.int ic)] 2)) τ := ⟨_, rfl⟩
  have pre0 : ∀ τ, Steps p.tables e below (s₁.setTop (mkF m 0 #[.val (.ref a), .val (.int ic)] [])) τ → PS τ := by rw [hPS]; exact fun τ κ => castTop (own_ef13 m a ic) κ
  have pre95 : ∀ τ, Steps p.tables e below (s₁.setTop (mkF m 0 #[.val (.ref a), .val (.int (16 : Int32))] [])) τ → PS τ := by have hq := pre0; rw [hic] at hq; exact hq
  obtain ⟨T96, X96, e96, st96⟩ := initO X0 hx hZ hown (own_W77 hw) (own_W16 hw) (own_W17 hw) e0 (g := (mkF m 1 #[.val (.ref a), .val (.int (16 : Int32))] [(.ref a)])) rfl (by rw [hml]; rfl) rfl (Jvm.hb hby d13_1) (by decide) (W := 0) (by show 2 * 0 + _ ≤ _; exact Nat.le_of_eq rfl) (by decide)
  have pre97 := fun (τ : State) kt => pre95 τ (by
    show Steps p.tables e below (s₁.setTop (mkF m 0 #[.val (.ref a), .val (.int (16 : Int32))] [])) τ
    refine XS.aloadN X0.here hx rfl (Jvm.hb hby d13_0) rfl rfl ?_
    exact st96 τ kt)
  obtain ⟨T98, X98, e98, st98⟩ := getS2 X96 hx hZ hown (host := "") (Or.inl (own_W78 hw)) Via.refl e96 (O2.ext OLD0.2) (g := (mkF m 4 #[.val (.ref a), .val (.int (16 : Int32))] [])) rfl (Jvm.hb hby d13_4)
  have pre99 := fun (τ : State) kt => pre97 τ (st98 τ kt)
  obtain ⟨T100, h100, k100, X100, e100, E100, A100, st100⟩ := newP (aty := .byte) X98 hx hZ (own_W23 hw) e98 (g := (mkF m 12 #[.val (.ref a), .val (.int (16 : Int32))] [(.int (16 : Int32)), (.ref a)])) rfl (Jvm.hb hby d13_12) rfl (by decide) (cap := 16) (by decide) (by decide) (by decide) (by decide)
  obtain ⟨bv, g100⟩ : ∃ z, z = h0.size := ⟨_, rfl⟩
  rw [← g100] at A100 st100
  have ne_a_bv : a ≠ bv := Nat.ne_of_lt (Nat.lt_of_lt_of_le EB.lt (Nat.le_of_eq g100.symm))
  have g_bv : n0 ≤ bv := Nat.le_trans (Nat.le_trans Z0 KK0.1) (Nat.le_of_eq g100.symm)
  have sz_bv : h0.size ≤ bv := Nat.le_trans KK0.1 (Nat.le_of_eq g100.symm)
  have K100 : Keep h0 h100 [a] := KK0.ext E100
  have V_bv : Arv Z h100 bv k100 .byte (16 : Int32) [(.int (0 : Int32)), (.int (0 : Int32)), (.int (0 : Int32)), (.int (0 : Int32)), (.int (0 : Int32)), (.int (0 : Int32)), (.int (0 : Int32)), (.int (0 : Int32)), (.int (0 : Int32)), (.int (0 : Int32)), (.int (0 : Int32)), (.int (0 : Int32)), (.int (0 : Int32)), (.int (0 : Int32)), (.int (0 : Int32)), (.int (0 : Int32))] (.int (0 : Int32)) := (Arv.new A100 (by decide)).pad (pad_rep [] (.int (0 : Int32)) 16)
  have pre101 := fun (τ : State) kt => pre99 τ (by
    show Steps p.tables e below (T98.setTop (mkF m 7 #[.val (.ref a), .val (.int (16 : Int32))] [(.int cz)])) τ
    refine XS.ifNo X98.here hx rfl (Jvm.hb hby d13_7) rfl ((if0 _ _).trans (feq P5).1) ?_
    refine XS.aloadN X98.here hx rfl (Jvm.hb hby d13_10) rfl rfl ?_
    refine XS.iloadN X98.here hx rfl (Jvm.hb hby d13_11) rfl ?_
    exact st100 τ kt)
  have f103 := FV.ext E100
  have f104 := EB.ext E100
  obtain ⟨T102, h102, X102, e102, W102, st102⟩ := putF X100 hx hZ hown (host := "") (Or.inl (own_W79 hw)) Via.refl e100 f103 f104 (Or.inl (own_W80 hw)) (own_W66 hw) (ty := (.array .byte)) (by decide) rfl rfl (g := (mkF m 14 #[.val (.ref a), .val (.int (16 : Int32))] [(.ref bv), (.ref a)])) rfl rfl (Jvm.hb hby d13_14)
  have fw102 := Fld.same W102 f103
  have N102 := Fr.snoc X102 N0 ga
  have K102 : Keep h0 h102 [a] := K100.wr W102 (Or.inl (by simp))
  have pre105 := fun (τ : State) kt => pre101 τ (st102 τ kt)
  have f107 := FC.ext E100
  have f108 := (f107.other W102 (Or.inr (slot_ne (Or.inl (own_W82 hw)) (Or.inl (own_W80 hw)) (by decide) (t := .byte) (t' := (.array .byte)) (by decide) (by decide))))
  have f109 := f104.wr W102
  obtain ⟨T106, h106, X106, e106, W106, st106⟩ := putFN X102 hx hZ hown (own_W81 hw) Via.refl e102 f108 f109 (Or.inl (own_W82 hw)) (own_W66 hw) (ty := .byte) (v' := (.int (nar .byte (0 : Int32)))) (by decide) rfl (fits_nar_byte _) (g := (mkF m 19 #[.val (.ref a), .val (.int (16 : Int32))] [(.int (0 : Int32)), (.ref a)])) rfl rfl (Jvm.hb hby d13_19)
  have fw106 := Fld.same W106 f108
  have N106 := Fr.snoc X106 N102 ga
  have K106 : Keep h0 h106 [a] := K102.wr W106 (Or.inl (by simp))
  have pre110 := fun (τ : State) kt => pre105 τ (by
    show Steps p.tables e below (T102.setTop (mkF m 17 #[.val (.ref a), .val (.int (16 : Int32))] [])) τ
    refine XS.aloadN X102.here hx rfl (Jvm.hb hby d13_17) rfl rfl ?_
    refine XS.iconst X102.here hx rfl (Jvm.hb hby d13_18) ?_
    exact st106 τ kt)
  have f111 := (fw102.other W106 (Or.inr (slot_ne (Or.inl (own_W80 hw)) (Or.inl (own_W82 hw)) (by decide) (t := (.array .byte)) (t' := .byte) (by decide) (by decide))))
  have f112 := FN.ext E100
  have f113 := (f112.other W102 (Or.inr (slot_ne (Or.inl (own_W104 hw)) (Or.inl (own_W80 hw)) (by decide) (t := .int) (t' := (.array .byte)) (by decide) (by decide))))
  have f114 := (f113.other W106 (Or.inr (slot_ne (Or.inl (own_W104 hw)) (Or.inl (own_W82 hw)) (by decide) (t := .int) (t' := .byte) (by decide) (by decide))))
  have f115 := V_bv.other W102 (Ne.symm ne_a_bv)
  have f116 := f115.other W106 (Ne.symm ne_a_bv)
  have nba : bv ≠ a := Ne.symm ne_a_bv
  have pre117 := fun (τ : State) kt => pre110 τ (by
    show Steps p.tables e below (T106.setTop (mkF m 22 #[.val (.ref a), .val (.int (16 : Int32))] [])) τ
    refine XS.goto X106.here hx rfl (pc0 := 22) (pc' := 38) rfl (Jvm.hb hby d13_22) (by decide) (by decide) ?_
    exact kt)
  obtain ⟨fs, hrL, hrun, hended, hW, hsame⟩ := X106.leave (v := none) (fun _ => rfl)
  refine ⟨_, _, cast (congrFun hPS _) (pre117 _ ?_), hrun, hended, _, _, rfl, ?_, ⟨_, rfl⟩, hW, hsame.mono (by decide) (by decide)⟩
  · show Steps p.tables e below (T106.setTop (mkF m 38 #[.val (.ref a), .val (.int (16 : Int32))] [])) _
    exact X106.returnOut hx Bd.returns (Jvm.hb hby d13_38) hrL
  · show QB Z a h0 n0 _ T106.heap _
    rw [e106]
    exact ⟨bv, k100, rfl, N106, K106, g_bv, sz_bv, nba, f111, fw106, f114, f116⟩
theorem d12_0 : decode jdk_67_method_1_code 0 = .ok (.aload_n 0, 1) := by decide +kernel
theorem d12_1 : decode jdk_67_method_1_code 1 = .ok (.bipush 16, 2) := by decide +kernel
theorem d12_3 : decode jdk_67_method_1_code 3 = .ok (.invokespecial 1, 3) := by decide +kernel
theorem d12_6 : decode jdk_67_method_1_code 6 = .ok (.return_, 1) := by decide +kernel
theorem own_ef12 (m : MethodId) (x0 : Addr) : entryFrame m #[(.ref x0)] 1 = mkF m 0 #[.val (.ref x0)] [] := by first | (simp [entryFrame, mkF, argsToLocals, Value.category]; done) | rfl
set_option maxRecDepth 65536 in
set_option maxHeartbeats 40000000 in
theorem rmSBI (l : Launch) (Z : State) (a0 : Array Value) (hw : ∀ d ∈ tables_1, d.before a0 Z = true) (ws : List Jvm.Cond) (a : Addr) (cz : Int32)  (h0 : Heap) (n0 : Nat) (Z0 : n0 ≤ h0.size) (EB : Exa Z h0 a "java/lang/StringBuilder") (FV : Fld Z h0 a "java/lang/AbstractStringBuilder" "value" "[B" .null) (FC : Fld Z h0 a "java/lang/AbstractStringBuilder" "coder" "B" (.int (0 : Int32))) (FN : Fld Z h0 a "java/lang/AbstractStringBuilder" "count" "I" (.int (0 : Int32))) (ga : n0 ≤ a) (O2 : Sta Z Z.heap "java/lang/String" "COMPACT_STRINGS" "Z" (.int cz)) (P5 : ¬ cz = 0) (OLD0 : Old Z n0 h0) :
    MetFree l (⟨"java/lang/StringBuilder", "<init>", "()V"⟩ : MethodName) (head1 (Jvm.Cond.code (⟨"java/lang/StringBuilder", "<init>", "()V"⟩ : MethodName) jdk_67_method_1_code 1 none :: ws) ({ frames := 2, cells := 1, slots := 16, locals := 27 } : Room)) (fun α U => α = #[(.ref a)] ∧ Z.Warmed39 U.vm ∧ U.heap = h0) (fun _ _ _ _ _ => True) (fun _ U ω U' => ∃ ν Λ, ω = .returned ν ∧ QB Z a h0 n0 ν U'.heap Λ ∧ FrameEnd U ω U' Λ ({ frames := 2, cells := 1, slots := 16, locals := 27 } : Room).cells ({ frames := 2, cells := 1, slots := 16, locals := 27 } : Room).slots) := by
  refine MetFree.of_bodySF (plainFor_of_name own_pn_java_lang_StringBuilder) hisR ?_
  intro p e s m args below meth c s₁ Bd hml0 hP hK
  obtain ⟨rfl, hZ, hh⟩ := hP
  have hx := Bd.exec
  have hby := Bd.bytes
  have hml : c.maxLocals = 1 := hml0
  have hown : s.vm.findClass "java/lang/StringBuilder" = some m.cls := findClass_of_methodNamed Bd.named
  have hnm := (name_of_methodNamed Bd.named Bd.method).1
  have X0 : Stand p l e ({ frames := 2, cells := 1, slots := 16, locals := 27 } : Room) s m #[(.ref a)] below meth c s₁ [] 0 0 := Stand.of_body Bd
  have e0 : s₁.heap = h0 := by rw [← hh, Bd.state]; rfl
  have N0 := Fr.nil n0
  have KK0 : Keep h0 h0 [a] := Keep.refl h0 [a]
  obtain ⟨PS, hPS⟩ : ∃ P : State → Prop, P = fun τ => Steps p.tables e below (s₁.setTop (entryFrame m #[(.ref a)] 1)) τ := ⟨_, rfl⟩
  have pre0 : ∀ τ, Steps p.tables e below (s₁.setTop (mkF m 0 #[.val (.ref a)] [])) τ → PS τ := by rw [hPS]; exact fun τ κ => castTop (own_ef12 m a) κ
  obtain ⟨_, T118, L118, X118, ⟨bv, kd, rfl, Nq118, Kq118, gb, sb_, nba, qv, qc, qn, va⟩, st118⟩ := own_spec (y := own_mn7) (b := a) X0 hx hZ rfl hown (own_W71 hw) (own_W72 hw) (by decide) (rmASB l Z a0 hw [] a (16 : Int32) cz h0 n0 (Nat.le_trans Z0 KK0.1) rfl EB FV FC FN ga O2 P5 OLD0) (own_W76 hw) (own_W75 hw) 0 (by decide) (by decide) e0 (mkF m 3 #[.val (.ref a)] [(.int (16 : Int32)), (.ref a)]) rfl (by rw [hml]; rfl) [(.int (16 : Int32))] [] rfl (lenOf own_pd__I_V rfl) rfl (Nat.le_refl _) (Jvm.hb hby d12_3) (by decide) (by decide)
  have N118 := Fr.app N0 Nq118
  have K118 : Keep h0 T118.heap [a] := KK0.trans Kq118 (allS (Or.inl (by simp)) (all0))
  have pre119 := fun (τ : State) kt => pre0 τ (by
    show Steps p.tables e below (s₁.setTop (mkF m 0 #[.val (.ref a)] [])) τ
    refine XS.aloadN X0.here hx rfl (Jvm.hb hby d12_0) rfl rfl ?_
    refine XS.bipush X0.here hx rfl (Jvm.hb hby d12_1) ?_
    exact st118 τ kt)
  obtain ⟨fs, hrL, hrun, hended, hW, hsame⟩ := X118.leave (v := none) (fun _ => rfl)
  refine ⟨_, _, cast (congrFun hPS _) (pre119 _ ?_), hrun, hended, _, _, rfl, ?_, ⟨_, rfl⟩, hW, hsame.mono (by decide) (by decide)⟩
  · show Steps p.tables e below (T118.setTop (mkF m 6 #[.val (.ref a)] [])) _
    exact X118.returnOut hx Bd.returns (Jvm.hb hby d12_6) hrL
  · show QB Z a h0 n0 _ T118.heap _
    exact ⟨bv, kd, rfl, N118, K118, gb, sb_, nba, qv, qc, qn, va⟩
theorem d31_0 : decode jdk_65_method_131_code 0 = .ok (.iload_n 1, 1) := by decide +kernel
theorem d31_1 : decode jdk_65_method_131_code 1 = .ok (.iload_n 0, 1) := by decide +kernel
theorem d31_2 : decode jdk_65_method_131_code 2 = .ok (.if_icmp .ge 35, 3) := by decide +kernel
theorem d31_5 : decode jdk_65_method_131_code 5 = .ok (.new 43, 3) := by decide +kernel
theorem d31_8 : decode jdk_65_method_131_code 8 = .ok (.dup, 1) := by decide +kernel
theorem d31_9 : decode jdk_65_method_131_code 9 = .ok (.new 45, 3) := by decide +kernel
theorem d31_12 : decode jdk_65_method_131_code 12 = .ok (.dup, 1) := by decide +kernel
theorem d31_13 : decode jdk_65_method_131_code 13 = .ok (.invokespecial 47, 3) := by decide +kernel
theorem d31_16 : decode jdk_65_method_131_code 16 = .ok (.iload_n 0, 1) := by decide +kernel
theorem d31_17 : decode jdk_65_method_131_code 17 = .ok (.invokevirtual 54, 3) := by decide +kernel
theorem d31_20 : decode jdk_65_method_131_code 20 = .ok (.ldc_w 337, 3) := by decide +kernel
theorem d31_23 : decode jdk_65_method_131_code 23 = .ok (.invokevirtual 50, 3) := by decide +kernel
theorem d31_26 : decode jdk_65_method_131_code 26 = .ok (.iload_n 1, 1) := by decide +kernel
theorem d31_27 : decode jdk_65_method_131_code 27 = .ok (.invokevirtual 54, 3) := by decide +kernel
theorem d31_30 : decode jdk_65_method_131_code 30 = .ok (.invokevirtual 61, 3) := by decide +kernel
theorem d31_33 : decode jdk_65_method_131_code 33 = .ok (.invokespecial 65, 3) := by decide +kernel
theorem d31_36 : decode jdk_65_method_131_code 36 = .ok (.athrow, 1) := by decide +kernel
theorem d31_37 : decode jdk_65_method_131_code 37 = .ok (.return_, 1) := by decide +kernel
theorem own_pn_java_util_Arrays : plainName "java/util/Arrays" = true := by first | (simp [plainName, overriddenIn]; done) | decide +kernel
theorem own_ef31 (m : MethodId) (x0 : Int32) (x1 : Int32) : entryFrame m #[(.int x0), (.int x1)] 2 = mkF m 0 #[.val (.int x0), .val (.int x1)] [] := by first | (simp [entryFrame, mkF, argsToLocals, Value.category]; done) | rfl
set_option maxRecDepth 65536 in
set_option maxHeartbeats 40000000 in
theorem rmCL (l : Launch) (Z : State) (a0 : Array Value) (hw : ∀ d ∈ tables_1, d.before a0 Z = true) (ws : List Jvm.Cond) (ca : Int32) (cb : Int32)  (h0 : Heap) (n0 : Nat) (Z0 : n0 ≤ h0.size) (hc : ¬ cb < ca) :
    MetFree l (⟨"java/util/Arrays", "checkLength", "(II)V"⟩ : MethodName) (head1 (Jvm.Cond.code (⟨"java/util/Arrays", "checkLength", "(II)V"⟩ : MethodName) jdk_65_method_131_code 2 none :: ws) ({ frames := 0, cells := 0, slots := 0, locals := 0 } : Room)) (fun α U => α = #[(.int ca), (.int cb)] ∧ Z.Warmed39 U.vm ∧ U.heap = h0) (fun _ _ _ _ _ => True) (fun _ U ω U' => ∃ ν Λ, ω = .returned ν ∧ QU h0 n0 ν U'.heap Λ ∧ FrameEnd U ω U' Λ ({ frames := 0, cells := 0, slots := 0, locals := 0 } : Room).cells ({ frames := 0, cells := 0, slots := 0, locals := 0 } : Room).slots) := by
  refine MetFree.of_bodySF (plainFor_of_name own_pn_java_util_Arrays) hisR ?_
  intro p e s m args below meth c s₁ Bd hml0 hP hK
  obtain ⟨rfl, hZ, hh⟩ := hP
  have hx := Bd.exec
  have hby := Bd.bytes
  have hml : c.maxLocals = 2 := hml0
  have hown : s.vm.findClass "java/util/Arrays" = some m.cls := findClass_of_methodNamed Bd.named
  have hnm := (name_of_methodNamed Bd.named Bd.method).1
  have X0 : Stand p l e ({ frames := 0, cells := 0, slots := 0, locals := 0 } : Room) s m #[(.int ca), (.int cb)] below meth c s₁ [] 0 0 := Stand.of_body Bd
  have e0 : s₁.heap = h0 := by rw [← hh, Bd.state]; rfl
  have N0 := Fr.nil n0
  have KK0 : Keep h0 h0 [] := Keep.refl h0 []
  obtain ⟨PS, hPS⟩ : ∃ P : State → Prop, P = fun τ => Steps p.tables e below (s₁.setTop (entryFrame m #[(.int ca), (.int cb)] 2)) τ := ⟨_, rfl⟩
  have pre0 : ∀ τ, Steps p.tables e below (s₁.setTop (mkF m 0 #[.val (.int ca), .val (.int cb)] [])) τ → PS τ := by rw [hPS]; exact fun τ κ => castTop (own_ef31 m ca cb) κ
  have pre120 := fun (τ : State) kt => pre0 τ (by
    show Steps p.tables e below (s₁.setTop (mkF m 0 #[.val (.int ca), .val (.int cb)] [])) τ
    refine XS.iloadN X0.here hx rfl (Jvm.hb hby d31_0) rfl ?_
    refine XS.iloadN X0.here hx rfl (Jvm.hb hby d31_1) rfl ?_
    refine XS.icmpYes X0.here hx rfl (pc0 := 2) (pc' := 37) rfl (Jvm.hb hby d31_2) rfl (flt hc).2.1 (by decide) (by decide) ?_
    exact kt)
  obtain ⟨fs, hrL, hrun, hended, hW, hsame⟩ := X0.leave (v := none) (fun _ => rfl)
  refine ⟨_, _, cast (congrFun hPS _) (pre120 _ ?_), hrun, hended, _, _, rfl, ?_, ⟨_, rfl⟩, hW, hsame.mono (by decide) (by decide)⟩
  · show Steps p.tables e below (s₁.setTop (mkF m 37 #[.val (.int ca), .val (.int cb)] [])) _
    exact X0.returnOut hx Bd.returns (Jvm.hb hby d31_37) hrL
  · show QU h0 n0 _ s₁.heap _
    rw [e0]
    exact ⟨rfl, N0, rfl⟩
theorem d32_0 : decode jdk_29_method_69_code 0 = .ok (.iload_n 0, 1) := by decide +kernel
theorem d32_1 : decode jdk_29_method_69_code 1 = .ok (.iload_n 1, 1) := by decide +kernel
theorem d32_2 : decode jdk_29_method_69_code 2 = .ok (.if_icmp .gt 7, 3) := by decide +kernel
theorem d32_5 : decode jdk_29_method_69_code 5 = .ok (.iload_n 0, 1) := by decide +kernel
theorem d32_6 : decode jdk_29_method_69_code 6 = .ok (.goto 4, 3) := by decide +kernel
theorem d32_9 : decode jdk_29_method_69_code 9 = .ok (.iload_n 1, 1) := by decide +kernel
theorem d32_10 : decode jdk_29_method_69_code 10 = .ok (.ireturn, 1) := by decide +kernel
theorem own_ef32 (m : MethodId) (x0 : Int32) (x1 : Int32) : entryFrame m #[(.int x0), (.int x1)] 2 = mkF m 0 #[.val (.int x0), .val (.int x1)] [] := by first | (simp [entryFrame, mkF, argsToLocals, Value.category]; done) | rfl
set_option maxRecDepth 65536 in
set_option maxHeartbeats 40000000 in
theorem rmMin (l : Launch) (Z : State) (a0 : Array Value) (hw : ∀ d ∈ tables_1, d.before a0 Z = true) (ws : List Jvm.Cond) (ma : Int32) (mb : Int32)  (h0 : Heap) (n0 : Nat) (Z0 : n0 ≤ h0.size)  :
    MetFree l (⟨"java/lang/Math", "min", "(II)I"⟩ : MethodName) (head1 (Jvm.Cond.code (⟨"java/lang/Math", "min", "(II)I"⟩ : MethodName) jdk_29_method_69_code 2 (some .int) :: ws) ({ frames := 0, cells := 0, slots := 0, locals := 0 } : Room)) (fun α U => α = #[(.int ma), (.int mb)] ∧ Z.Warmed39 U.vm ∧ U.heap = h0) (fun _ _ _ _ _ => True) (fun _ U ω U' => ∃ ν Λ, ω = .returned ν ∧ QI (own_min ma mb) h0 n0 ν U'.heap Λ ∧ FrameEnd U ω U' Λ ({ frames := 0, cells := 0, slots := 0, locals := 0 } : Room).cells ({ frames := 0, cells := 0, slots := 0, locals := 0 } : Room).slots) := by
  refine MetFree.of_bodySF (Jvm.Free.JP.mathPlain rfl (by decide +kernel)) hisR ?_
  intro p e s m args below meth c s₁ Bd hml0 hP hK
  obtain ⟨rfl, hZ, hh⟩ := hP
  have hx := Bd.exec
  have hby := Bd.bytes
  have hml : c.maxLocals = 2 := hml0
  have hown : s.vm.findClass "java/lang/Math" = some m.cls := findClass_of_methodNamed Bd.named
  have hnm := (name_of_methodNamed Bd.named Bd.method).1
  have X0 : Stand p l e ({ frames := 0, cells := 0, slots := 0, locals := 0 } : Room) s m #[(.int ma), (.int mb)] below meth c s₁ [] 0 0 := Stand.of_body Bd
  have e0 : s₁.heap = h0 := by rw [← hh, Bd.state]; rfl
  have N0 := Fr.nil n0
  have KK0 : Keep h0 h0 [] := Keep.refl h0 []
  obtain ⟨PS, hPS⟩ : ∃ P : State → Prop, P = fun τ => Steps p.tables e below (s₁.setTop (entryFrame m #[(.int ma), (.int mb)] 2)) τ := ⟨_, rfl⟩
  have pre0 : ∀ τ, Steps p.tables e below (s₁.setTop (mkF m 0 #[.val (.int ma), .val (.int mb)] [])) τ → PS τ := by rw [hPS]; exact fun τ κ => castTop (own_ef32 m ma mb) κ
  have pre121 := fun (τ : State) kt => pre0 τ (by
    show Steps p.tables e below (s₁.setTop (mkF m 0 #[.val (.int ma), .val (.int mb)] [])) τ
    refine XS.iloadN X0.here hx rfl (Jvm.hb hby d32_0) rfl ?_
    refine XS.iloadN X0.here hx rfl (Jvm.hb hby d32_1) rfl ?_
    exact kt)
  by_cases q : mb < ma
  · skip
    have hr : own_min ma mb = mb := if_pos q
    have pre122 := fun (τ : State) kt => pre121 τ (by
      show Steps p.tables e below (s₁.setTop (mkF m 2 #[.val (.int ma), .val (.int mb)] [(.int mb), (.int ma)])) τ
      refine XS.icmpYes X0.here hx rfl (pc0 := 2) (pc' := 9) rfl (Jvm.hb hby d32_2) rfl (tlt q).2.2.1 (by decide) (by decide) ?_
      refine XS.iloadN X0.here hx rfl (Jvm.hb hby d32_9) rfl ?_
      exact kt)
    obtain ⟨fs, hrL, hrun, hended, hW, hsame⟩ := X0.leave (v := some (.int mb)) (fun h => by rw [Bd.returns] at h; cases h)
    refine ⟨_, _, cast (congrFun hPS _) (pre122 _ ?_), hrun, hended, _, _, rfl, ?_, ⟨_, rfl⟩, hW, hsame.mono (by decide) (by decide)⟩
    · show Steps p.tables e below (s₁.setTop (mkF m 10 #[.val (.int ma), .val (.int mb)] [(.int mb)])) _
      exact retI X0 hx Bd.returns (Jvm.hb hby d32_10) hrL
    · show QI (own_min ma mb) h0 n0 _ s₁.heap _
      rw [e0]
      exact ⟨congrArg (fun z => some (Value.int z)) hr.symm, N0, rfl⟩
  · skip
    have hr : own_min ma mb = ma := if_neg q
    have pre123 := fun (τ : State) kt => pre121 τ (by
      show Steps p.tables e below (s₁.setTop (mkF m 2 #[.val (.int ma), .val (.int mb)] [(.int mb), (.int ma)])) τ
      refine XS.icmpNo X0.here hx rfl (Jvm.hb hby d32_2) rfl (flt q).2.2.1 ?_
      refine XS.iloadN X0.here hx rfl (Jvm.hb hby d32_5) rfl ?_
      refine XS.goto X0.here hx rfl (pc0 := 6) (pc' := 10) rfl (Jvm.hb hby d32_6) (by decide) (by decide) ?_
      exact kt)
    obtain ⟨fs, hrL, hrun, hended, hW, hsame⟩ := X0.leave (v := some (.int ma)) (fun h => by rw [Bd.returns] at h; cases h)
    refine ⟨_, _, cast (congrFun hPS _) (pre123 _ ?_), hrun, hended, _, _, rfl, ?_, ⟨_, rfl⟩, hW, hsame.mono (by decide) (by decide)⟩
    · show Steps p.tables e below (s₁.setTop (mkF m 10 #[.val (.int ma), .val (.int mb)] [(.int ma)])) _
      exact retI X0 hx Bd.returns (Jvm.hb hby d32_10) hrL
    · show QI (own_min ma mb) h0 n0 _ s₁.heap _
      rw [e0]
      exact ⟨congrArg (fun z => some (Value.int z)) hr.symm, N0, rfl⟩
def QN (Z : State) (vd : List Value) (to : Int32) (h0 : Heap) (n0 : Nat) (v : Option Value) (h : Heap) (L : List Loc) : Prop := ∃ (nb : Addr) (kn : ClassId), v = some (.ref nb) ∧ Fr n0 L ∧ Keep h0 h [] ∧ n0 ≤ nb ∧ h0.size ≤ nb ∧ Arv Z h nb kn .byte to (own_cpl own_z16 vd 0 0 to) (.int (0 : Int32))
theorem d30_0 : decode jdk_65_method_133_code 0 = .ok (.iload_n 1, 1) := by decide +kernel
theorem d30_1 : decode jdk_65_method_133_code 1 = .ok (.iload_n 2, 1) := by decide +kernel
theorem d30_2 : decode jdk_65_method_133_code 2 = .ok (.invokestatic 343, 3) := by decide +kernel
theorem d30_5 : decode jdk_65_method_133_code 5 = .ok (.iload_n 2, 1) := by decide +kernel
theorem d30_6 : decode jdk_65_method_133_code 6 = .ok (.iload_n 1, 1) := by decide +kernel
theorem d30_7 : decode jdk_65_method_133_code 7 = .ok (.isub, 1) := by decide +kernel
theorem d30_8 : decode jdk_65_method_133_code 8 = .ok (.istore_n 3, 1) := by decide +kernel
theorem d30_9 : decode jdk_65_method_133_code 9 = .ok (.iload_n 3, 1) := by decide +kernel
theorem d30_10 : decode jdk_65_method_133_code 10 = .ok (.newarray .byte, 2) := by decide +kernel
theorem d30_12 : decode jdk_65_method_133_code 12 = .ok (.astore 4, 2) := by decide +kernel
theorem d30_14 : decode jdk_65_method_133_code 14 = .ok (.aload_n 0, 1) := by decide +kernel
theorem d30_15 : decode jdk_65_method_133_code 15 = .ok (.iload_n 1, 1) := by decide +kernel
theorem d30_16 : decode jdk_65_method_133_code 16 = .ok (.aload 4, 2) := by decide +kernel
theorem d30_18 : decode jdk_65_method_133_code 18 = .ok (.iconst 0, 1) := by decide +kernel
theorem d30_19 : decode jdk_65_method_133_code 19 = .ok (.aload_n 0, 1) := by decide +kernel
theorem d30_20 : decode jdk_65_method_133_code 20 = .ok (.arraylength, 1) := by decide +kernel
theorem d30_21 : decode jdk_65_method_133_code 21 = .ok (.iload_n 1, 1) := by decide +kernel
theorem d30_22 : decode jdk_65_method_133_code 22 = .ok (.isub, 1) := by decide +kernel
theorem d30_23 : decode jdk_65_method_133_code 23 = .ok (.iload_n 3, 1) := by decide +kernel
theorem d30_24 : decode jdk_65_method_133_code 24 = .ok (.invokestatic 304, 3) := by decide +kernel
theorem d30_27 : decode jdk_65_method_133_code 27 = .ok (.invokestatic 150, 3) := by decide +kernel
theorem d30_30 : decode jdk_65_method_133_code 30 = .ok (.aload 4, 2) := by decide +kernel
theorem d30_32 : decode jdk_65_method_133_code 32 = .ok (.areturn, 1) := by decide +kernel
theorem own_ef30 (m : MethodId) (x0 : Addr) (x1 : Int32) (x2 : Int32) : entryFrame m #[(.ref x0), (.int x1), (.int x2)] 5 = mkF m 0 #[.val (.ref x0), .val (.int x1), .val (.int x2), .unset, .unset] [] := by first | (simp [entryFrame, mkF, argsToLocals, Value.category]; done) | rfl
set_option maxRecDepth 65536 in
set_option maxHeartbeats 40000000 in
theorem rmCRB (l : Launch) (Z : State) (a0 : Array Value) (hw : ∀ d ∈ tables_1, d.before a0 Z = true) (ws : List Jvm.Cond) (bv : Addr) (fr : Int32) (to : Int32) (kd : ClassId) (vd : List Value) (h0 : Heap) (n0 : Nat) (Z0 : n0 ≤ h0.size) (hfr : fr = (0 : Int32)) (VD : Arv Z h0 bv kd .byte (16 : Int32) vd (.int (0 : Int32))) (to0 : ¬ to < 0) (to1 : to.toNatClampNeg ≤ 16) (hb3 : vd.length = 16) :
    MetFree l (⟨"java/util/Arrays", "copyOfRangeByte", "([BII)[B"⟩ : MethodName) (head1 (Jvm.Cond.code (⟨"java/util/Arrays", "copyOfRangeByte", "([BII)[B"⟩ : MethodName) jdk_65_method_133_code 5 (some (.array .byte)) :: ws) ({ frames := 1, cells := 1, slots := 16, locals := 40 } : Room)) (fun α U => α = #[(.ref bv), (.int fr), (.int to)] ∧ Z.Warmed39 U.vm ∧ U.heap = h0) (fun _ _ _ _ _ => True) (fun _ U ω U' => ∃ ν Λ, ω = .returned ν ∧ QN Z vd to h0 n0 ν U'.heap Λ ∧ FrameEnd U ω U' Λ ({ frames := 1, cells := 1, slots := 16, locals := 40 } : Room).cells ({ frames := 1, cells := 1, slots := 16, locals := 40 } : Room).slots) := by
  refine MetFree.of_bodySF (plainFor_of_name own_pn_java_util_Arrays) hisR ?_
  intro p e s m args below meth c s₁ Bd hml0 hP hK
  obtain ⟨rfl, hZ, hh⟩ := hP
  have hx := Bd.exec
  have hby := Bd.bytes
  have hml : c.maxLocals = 5 := hml0
  have hown : s.vm.findClass "java/util/Arrays" = some m.cls := findClass_of_methodNamed Bd.named
  have hnm := (name_of_methodNamed Bd.named Bd.method).1
  have X0 : Stand p l e ({ frames := 1, cells := 1, slots := 16, locals := 40 } : Room) s m #[(.ref bv), (.int fr), (.int to)] below meth c s₁ [] 0 0 := Stand.of_body Bd
  have e0 : s₁.heap = h0 := by rw [← hh, Bd.state]; rfl
  have N0 := Fr.nil n0
  have KK0 : Keep h0 h0 [] := Keep.refl h0 []
  obtain ⟨PS, hPS⟩ : ∃ P : State → Prop, P = fun τ => Steps p.tables e below (s₁.setTop (entryFrame m #[(.ref bv), (.int fr), (.int to)] 5)) τ := ⟨_, rfl⟩
  have pre0 : ∀ τ, Steps p.tables e below (s₁.setTop (mkF m 0 #[.val (.ref bv), .val (.int fr), .val (.int to), .unset, .unset] [])) τ → PS τ := by rw [hPS]; exact fun τ κ => castTop (own_ef30 m bv fr to) κ
  have pre124 : ∀ τ, Steps p.tables e below (s₁.setTop (mkF m 0 #[.val (.ref bv), .val (.int (0 : Int32)), .val (.int to), .unset, .unset] [])) τ → PS τ := by have hq := pre0; rw [hfr] at hq; exact hq
  obtain ⟨_, T125, L125, X125, ⟨rfl, Nq125, eq125⟩, st125⟩ := own_stat (y := own_mn8) X0 hx hZ hown (own_W168 hw) (own_W169 hw) (by decide) (rmCL l Z a0 hw [] (0 : Int32) to h0 n0 (Nat.le_trans Z0 KK0.1) to0) (own_W170 hw) (own_W163 hw) 0 (by decide) (by decide) e0 (mkF m 2 #[.val (.ref bv), .val (.int (0 : Int32)), .val (.int to), .unset, .unset] [(.int to), (.int (0 : Int32))]) rfl (by rw [hml]; rfl) [(.int (0 : Int32)), (.int to)] [] rfl (lenOf own_pd__II_V rfl) rfl (Nat.le_refl _) (Jvm.hb hby d30_2) (by decide) (by decide)
  have N125 := Fr.app N0 Nq125
  have pre126 := fun (τ : State) kt => pre124 τ (by
    show Steps p.tables e below (s₁.setTop (mkF m 0 #[.val (.ref bv), .val (.int (0 : Int32)), .val (.int to), .unset, .unset] [])) τ
    refine XS.iloadN X0.here hx rfl (Jvm.hb hby d30_0) rfl ?_
    refine XS.iloadN X0.here hx rfl (Jvm.hb hby d30_1) rfl ?_
    exact st125 τ kt)
  have pre127 := fun (τ : State) kt => pre126 τ (by
    show Steps p.tables e below (T125.setTop (mkF m 5 #[.val (.ref bv), .val (.int (0 : Int32)), .val (.int to), .unset, .unset] [])) τ
    refine XS.iloadN X125.here hx rfl (Jvm.hb hby d30_5) rfl ?_
    refine XS.iloadN X125.here hx rfl (Jvm.hb hby d30_6) rfl ?_
    refine XS.isub X125.here hx rfl (Jvm.hb hby d30_7) rfl ?_
    exact kt)
  have pre128 : ∀ τ, Steps p.tables e below (T125.setTop (mkF m 8 #[.val (.ref bv), .val (.int (0 : Int32)), .val (.int to), .unset, .unset] [(.int to)])) τ → PS τ := by have hq := pre127; rw [own_sub0] at hq; exact hq
  obtain ⟨T129, h129, k129, X129, e129, E129, A129, st129⟩ := newP (aty := .byte) X125 hx hZ (own_W23 hw) eq125 (g := (mkF m 10 #[.val (.ref bv), .val (.int (0 : Int32)), .val (.int to), .val (.int to), .unset] [(.int to)])) rfl (Jvm.hb hby d30_10) rfl to0 (cap := 16) to1 (by decide) (by decide) (by decide)
  obtain ⟨nb, g129⟩ : ∃ z, z = h0.size := ⟨_, rfl⟩
  rw [← g129] at A129 st129
  have ne_bv_nb : bv ≠ nb := Nat.ne_of_lt (Nat.lt_of_lt_of_le VD.lt (Nat.le_of_eq g129.symm))
  have g_nb : n0 ≤ nb := Nat.le_trans (Nat.le_trans Z0 KK0.1) (Nat.le_of_eq g129.symm)
  have sz_nb : h0.size ≤ nb := Nat.le_trans KK0.1 (Nat.le_of_eq g129.symm)
  have K129 : Keep h0 h129 [] := KK0.ext E129
  have V_nb : Arv Z h129 nb k129 .byte to [(.int (0 : Int32)), (.int (0 : Int32)), (.int (0 : Int32)), (.int (0 : Int32)), (.int (0 : Int32)), (.int (0 : Int32)), (.int (0 : Int32)), (.int (0 : Int32)), (.int (0 : Int32)), (.int (0 : Int32)), (.int (0 : Int32)), (.int (0 : Int32)), (.int (0 : Int32)), (.int (0 : Int32)), (.int (0 : Int32)), (.int (0 : Int32))] (.int (0 : Int32)) := (Arv.new A129 to0).pad (pad_rep [] (.int (0 : Int32)) 16)
  have pre130 := fun (τ : State) kt => pre128 τ (by
    show Steps p.tables e below (T125.setTop (mkF m 8 #[.val (.ref bv), .val (.int (0 : Int32)), .val (.int to), .unset, .unset] [(.int to)])) τ
    refine XS.istoreN X125.here hx rfl (Jvm.hb hby d30_8) rfl (l' := #[.val (.ref bv), .val (.int (0 : Int32)), .val (.int to), .val (.int to), .unset]) rfl ?_
    refine XS.iloadN X125.here hx rfl (Jvm.hb hby d30_9) rfl ?_
    exact st129 τ kt)
  have f131 := VD.ext E129
  obtain ⟨cl132, Ar132, q132, S132, M132, H132, U132⟩ := id f131
  have pre133 := fun (τ : State) kt => pre130 τ (by
    show Steps p.tables e below (T129.setTop (mkF m 12 #[.val (.ref bv), .val (.int (0 : Int32)), .val (.int to), .val (.int to), .unset] [(.ref nb)])) τ
    refine XS.astore X129.here hx rfl (Jvm.hb hby d30_12) rfl rfl (l' := #[.val (.ref bv), .val (.int (0 : Int32)), .val (.int to), .val (.int to), .val (.ref nb)]) rfl ?_
    refine XS.aloadN X129.here hx rfl (Jvm.hb hby d30_14) rfl rfl ?_
    refine XS.iloadN X129.here hx rfl (Jvm.hb hby d30_15) rfl ?_
    refine XS.aload X129.here hx rfl (Jvm.hb hby d30_16) rfl rfl ?_
    refine XS.iconst X129.here hx rfl (Jvm.hb hby d30_18) ?_
    refine XS.aloadN X129.here hx rfl (Jvm.hb hby d30_19) rfl rfl ?_
    refine X129.arraylength hx ((congrArg (fun (HH : Heap) => HH[bv]?) (e129 : T129.heap = h129)).trans Ar132.1) (State.isArrayOf_alike hZ.alike Ar132.2.1) (g := (mkF m 20 #[.val (.ref bv), .val (.int (0 : Int32)), .val (.int to), .val (.int to), .val (.ref nb)] [(.ref bv), (.int (0 : Int32)), (.ref nb), (.int (0 : Int32)), (.ref bv)])) rfl rfl (Jvm.hb hby d30_20) _ ?_
    exact kt)
  have pre134 : ∀ τ, Steps p.tables e below (T129.setTop (mkF m 21 #[.val (.ref bv), .val (.int (0 : Int32)), .val (.int to), .val (.int to), .val (.ref nb)] [(.int (16 : Int32)), (.int (0 : Int32)), (.ref nb), (.int (0 : Int32)), (.ref bv)])) τ → PS τ := by
    have hq := pre133
    rw [len_of S132 M132] at hq
    exact hq
  obtain ⟨_, T135, L135, X135, ⟨rfl, Nq135, eq135⟩, st135⟩ := own_stat (y := own_mn9) X129 hx hZ hown (own_W171 hw) (own_W172 hw) (by decide) (rmMin l Z a0 hw [] (16 : Int32) to h129 n0 (Nat.le_trans Z0 K129.1)) (own_W174 hw) (own_W173 hw) 4 (by decide) (by decide) e129 (mkF m 24 #[.val (.ref bv), .val (.int (0 : Int32)), .val (.int to), .val (.int to), .val (.ref nb)] [(.int to), (.int (16 : Int32)), (.int (0 : Int32)), (.ref nb), (.int (0 : Int32)), (.ref bv)]) rfl (by rw [hml]; rfl) [(.int (16 : Int32)), (.int to)] [(.int (0 : Int32)), (.ref nb), (.int (0 : Int32)), (.ref bv)] rfl (lenOf own_pd__II_I rfl) rfl (Nat.le_refl _) (Jvm.hb hby d30_24) (by decide) (by decide)
  have N135 := Fr.app N125 Nq135
  have pre136 := fun (τ : State) kt => pre134 τ (by
    show Steps p.tables e below (T129.setTop (mkF m 21 #[.val (.ref bv), .val (.int (0 : Int32)), .val (.int to), .val (.int to), .val (.ref nb)] [(.int (16 : Int32)), (.int (0 : Int32)), (.ref nb), (.int (0 : Int32)), (.ref bv)])) τ
    refine XS.iloadN X129.here hx rfl (Jvm.hb hby d30_21) rfl ?_
    refine XS.isub X129.here hx rfl (Jvm.hb hby d30_22) rfl ?_
    refine XS.iloadN X129.here hx rfl (Jvm.hb hby d30_23) rfl ?_
    exact st135 τ kt)
  have pre137 : ∀ τ, Steps p.tables e below (T135.setTop (mkF m 27 #[.val (.ref bv), .val (.int (0 : Int32)), .val (.int to), .val (.int to), .val (.ref nb)] [(.int to), (.int (0 : Int32)), (.ref nb), (.int (0 : Int32)), (.ref bv)])) τ → PS τ := by have hq := pre136; rw [own_min16 to0 to1] at hq; exact hq
  obtain ⟨T138, h138, L138, X138, e138, N138, Kq138, V138, st138⟩ := cpA (sp := (0 : Int32)) (dp := (0 : Int32)) (nn := to) X135 hx hZ hown (own_W175 hw) (own_W129 hw) (own_W127 hw) (own_W128 hw) eq135 f131 V_nb (Or.inl ⟨rfl, rfl⟩) (by decide) (by decide) to0 (by rw [show (0 : Int32).toNatClampNeg = 0 by decide, show (16 : Int32).toNatClampNeg = 16 by decide, Nat.zero_add]; exact to1) (by rw [show (0 : Int32).toNatClampNeg = 0 by decide, Nat.zero_add]; exact Nat.le_refl _) rfl (by rw [show (0 : Int32).toNatClampNeg = 0 by decide, Nat.zero_add]; exact to1) N135 g_nb (g := (mkF m 27 #[.val (.ref bv), .val (.int (0 : Int32)), .val (.int to), .val (.int to), .val (.ref nb)] [(.int to), (.int (0 : Int32)), (.ref nb), (.int (0 : Int32)), (.ref bv)])) rfl (by rw [hml]; rfl) (rest := []) rfl (Jvm.hb hby d30_27) (by decide) (W := 0) (by show 2 * 0 + _ ≤ _; exact Nat.le_of_eq rfl) (by decide)
  have K138 : Keep h0 h138 [] := K129.trans Kq138 (allS (Or.inr sz_nb) (all0))
  have Va138 : Arv Z h138 nb k129 .byte to (own_cpl own_z16 vd 0 0 to) (.int (0 : Int32)) := V138
  have pre139 := fun (τ : State) kt => pre137 τ (st138 τ kt)
  have pre140 := fun (τ : State) kt => pre139 τ (by
    show Steps p.tables e below (T138.setTop (mkF m 30 #[.val (.ref bv), .val (.int (0 : Int32)), .val (.int to), .val (.int to), .val (.ref nb)] [])) τ
    refine XS.aload X138.here hx rfl (Jvm.hb hby d30_30) rfl rfl ?_
    exact kt)
  obtain ⟨fs, hrL, hrun, hended, hW, hsame⟩ := X138.leave (v := some (.ref nb)) (fun h => by rw [Bd.returns] at h; cases h)
  refine ⟨_, _, cast (congrFun hPS _) (pre140 _ ?_), hrun, hended, _, _, rfl, ?_, ⟨_, rfl⟩, hW, hsame.mono (by decide) (by decide)⟩
  · show Steps p.tables e below (T138.setTop (mkF m 32 #[.val (.ref bv), .val (.int (0 : Int32)), .val (.int to), .val (.int to), .val (.ref nb)] [(.ref nb)])) _
    exact retOut X138 hx Bd.returns rfl (Or.inr (Or.inr (Or.inr (Or.inr ⟨rfl, rfl, rfl⟩)))) (Jvm.hb hby d30_32) hrL
  · show QN Z vd to h0 n0 _ T138.heap _
    rw [e138]
    exact ⟨nb, k129, rfl, N138, K138, g_nb, sz_nb, Va138⟩
theorem d29_0 : decode jdk_65_method_132_code 0 = .ok (.iload_n 1, 1) := by decide +kernel
theorem d29_1 : decode jdk_65_method_132_code 1 = .ok (.ifCond .ne 9, 3) := by decide +kernel
theorem d29_4 : decode jdk_65_method_132_code 4 = .ok (.iload_n 2, 1) := by decide +kernel
theorem d29_5 : decode jdk_65_method_132_code 5 = .ok (.aload_n 0, 1) := by decide +kernel
theorem d29_6 : decode jdk_65_method_132_code 6 = .ok (.arraylength, 1) := by decide +kernel
theorem d29_7 : decode jdk_65_method_132_code 7 = .ok (.if_icmp .eq 10, 3) := by decide +kernel
theorem d29_10 : decode jdk_65_method_132_code 10 = .ok (.aload_n 0, 1) := by decide +kernel
theorem d29_11 : decode jdk_65_method_132_code 11 = .ok (.iload_n 1, 1) := by decide +kernel
theorem d29_12 : decode jdk_65_method_132_code 12 = .ok (.iload_n 2, 1) := by decide +kernel
theorem d29_13 : decode jdk_65_method_132_code 13 = .ok (.invokestatic 339, 3) := by decide +kernel
theorem d29_16 : decode jdk_65_method_132_code 16 = .ok (.areturn, 1) := by decide +kernel
theorem d29_17 : decode jdk_65_method_132_code 17 = .ok (.aload_n 0, 1) := by decide +kernel
theorem d29_18 : decode jdk_65_method_132_code 18 = .ok (.invokevirtual 310, 3) := by decide +kernel
theorem d29_21 : decode jdk_65_method_132_code 21 = .ok (.checkcast 311, 3) := by decide +kernel
theorem d29_24 : decode jdk_65_method_132_code 24 = .ok (.areturn, 1) := by decide +kernel
theorem own_ef29 (m : MethodId) (x0 : Addr) (x1 : Int32) (x2 : Int32) : entryFrame m #[(.ref x0), (.int x1), (.int x2)] 3 = mkF m 0 #[.val (.ref x0), .val (.int x1), .val (.int x2)] [] := by first | (simp [entryFrame, mkF, argsToLocals, Value.category]; done) | rfl
set_option maxRecDepth 65536 in
set_option maxHeartbeats 40000000 in
theorem rmCR (l : Launch) (Z : State) (a0 : Array Value) (hw : ∀ d ∈ tables_1, d.before a0 Z = true) (ws : List Jvm.Cond) (bv : Addr) (fr : Int32) (to : Int32) (kd : ClassId) (vd : List Value) (h0 : Heap) (n0 : Nat) (Z0 : n0 ≤ h0.size) (hfr : fr = (0 : Int32)) (VD : Arv Z h0 bv kd .byte (16 : Int32) vd (.int (0 : Int32))) (to0 : ¬ to < 0) (to1 : to.toNatClampNeg ≤ 16) (hb3 : vd.length = 16) (to2 : ¬ to = (16 : Int32)) :
    MetFree l (⟨"java/util/Arrays", "copyOfRange", "([BII)[B"⟩ : MethodName) (head1 (Jvm.Cond.code (⟨"java/util/Arrays", "copyOfRange", "([BII)[B"⟩ : MethodName) jdk_65_method_132_code 3 (some (.array .byte)) :: ws) ({ frames := 2, cells := 1, slots := 16, locals := 60 } : Room)) (fun α U => α = #[(.ref bv), (.int fr), (.int to)] ∧ Z.Warmed39 U.vm ∧ U.heap = h0) (fun _ _ _ _ _ => True) (fun _ U ω U' => ∃ ν Λ, ω = .returned ν ∧ QN Z vd to h0 n0 ν U'.heap Λ ∧ FrameEnd U ω U' Λ ({ frames := 2, cells := 1, slots := 16, locals := 60 } : Room).cells ({ frames := 2, cells := 1, slots := 16, locals := 60 } : Room).slots) := by
  refine MetFree.of_bodySF (plainFor_of_name own_pn_java_util_Arrays) hisR ?_
  intro p e s m args below meth c s₁ Bd hml0 hP hK
  obtain ⟨rfl, hZ, hh⟩ := hP
  have hx := Bd.exec
  have hby := Bd.bytes
  have hml : c.maxLocals = 3 := hml0
  have hown : s.vm.findClass "java/util/Arrays" = some m.cls := findClass_of_methodNamed Bd.named
  have hnm := (name_of_methodNamed Bd.named Bd.method).1
  have X0 : Stand p l e ({ frames := 2, cells := 1, slots := 16, locals := 60 } : Room) s m #[(.ref bv), (.int fr), (.int to)] below meth c s₁ [] 0 0 := Stand.of_body Bd
  have e0 : s₁.heap = h0 := by rw [← hh, Bd.state]; rfl
  have N0 := Fr.nil n0
  have KK0 : Keep h0 h0 [] := Keep.refl h0 []
  obtain ⟨PS, hPS⟩ : ∃ P : State → Prop, P = fun τ => Steps p.tables e below (s₁.setTop (entryFrame m #[(.ref bv), (.int fr), (.int to)] 3)) τ := ⟨_, rfl⟩
  have pre0 : ∀ τ, Steps p.tables e below (s₁.setTop (mkF m 0 #[.val (.ref bv), .val (.int fr), .val (.int to)] [])) τ → PS τ := by rw [hPS]; exact fun τ κ => castTop (own_ef29 m bv fr to) κ
  have pre141 : ∀ τ, Steps p.tables e below (s₁.setTop (mkF m 0 #[.val (.ref bv), .val (.int (0 : Int32)), .val (.int to)] [])) τ → PS τ := by have hq := pre0; rw [hfr] at hq; exact hq
  obtain ⟨cl142, Ar142, q142, S142, M142, H142, U142⟩ := id VD
  have pre143 := fun (τ : State) kt => pre141 τ (by
    show Steps p.tables e below (s₁.setTop (mkF m 0 #[.val (.ref bv), .val (.int (0 : Int32)), .val (.int to)] [])) τ
    refine XS.iloadN X0.here hx rfl (Jvm.hb hby d29_0) rfl ?_
    refine XS.ifNo X0.here hx rfl (Jvm.hb hby d29_1) rfl ((if0 _ _).trans (teq rfl).2) ?_
    refine XS.iloadN X0.here hx rfl (Jvm.hb hby d29_4) rfl ?_
    refine XS.aloadN X0.here hx rfl (Jvm.hb hby d29_5) rfl rfl ?_
    refine X0.arraylength hx ((congrArg (fun (HH : Heap) => HH[bv]?) (e0 : s₁.heap = h0)).trans Ar142.1) (State.isArrayOf_alike hZ.alike Ar142.2.1) (g := (mkF m 6 #[.val (.ref bv), .val (.int (0 : Int32)), .val (.int to)] [(.ref bv), (.int to)])) rfl rfl (Jvm.hb hby d29_6) _ ?_
    exact kt)
  have pre144 : ∀ τ, Steps p.tables e below (s₁.setTop (mkF m 7 #[.val (.ref bv), .val (.int (0 : Int32)), .val (.int to)] [(.int (16 : Int32)), (.int to)])) τ → PS τ := by
    have hq := pre143
    rw [len_of S142 M142] at hq
    exact hq
  obtain ⟨_, T145, L145, X145, ⟨nb, kn, rfl, Nq145, Kq145, gn, sn, va⟩, st145⟩ := own_stat (y := own_mn10) X0 hx hZ hown (own_W165 hw) (own_W166 hw) (by decide) (rmCRB l Z a0 hw [] bv (0 : Int32) to kd vd h0 n0 (Nat.le_trans Z0 KK0.1) rfl VD to0 to1 hb3) (own_W167 hw) (own_W163 hw) 0 (by decide) (by decide) e0 (mkF m 13 #[.val (.ref bv), .val (.int (0 : Int32)), .val (.int to)] [(.int to), (.int (0 : Int32)), (.ref bv)]) rfl (by rw [hml]; rfl) [(.ref bv), (.int (0 : Int32)), (.int to)] [] rfl (lenOf own_pd___BII__B rfl) rfl (Nat.le_refl _) (Jvm.hb hby d29_13) (by decide) (by decide)
  have N145 := Fr.app N0 Nq145
  have K145 : Keep h0 T145.heap [] := KK0.trans Kq145 (all0)
  have pre146 := fun (τ : State) kt => pre144 τ (by
    show Steps p.tables e below (s₁.setTop (mkF m 7 #[.val (.ref bv), .val (.int (0 : Int32)), .val (.int to)] [(.int (16 : Int32)), (.int to)])) τ
    refine XS.icmpNo X0.here hx rfl (Jvm.hb hby d29_7) rfl (feq to2).1 ?_
    refine XS.aloadN X0.here hx rfl (Jvm.hb hby d29_10) rfl rfl ?_
    refine XS.iloadN X0.here hx rfl (Jvm.hb hby d29_11) rfl ?_
    refine XS.iloadN X0.here hx rfl (Jvm.hb hby d29_12) rfl ?_
    exact st145 τ kt)
  obtain ⟨fs, hrL, hrun, hended, hW, hsame⟩ := X145.leave (v := some (.ref nb)) (fun h => by rw [Bd.returns] at h; cases h)
  refine ⟨_, _, cast (congrFun hPS _) (pre146 _ ?_), hrun, hended, _, _, rfl, ?_, ⟨_, rfl⟩, hW, hsame.mono (by decide) (by decide)⟩
  · show Steps p.tables e below (T145.setTop (mkF m 16 #[.val (.ref bv), .val (.int (0 : Int32)), .val (.int to)] [(.ref nb)])) _
    exact retOut X145 hx Bd.returns rfl (Or.inr (Or.inr (Or.inr (Or.inr ⟨rfl, rfl, rfl⟩)))) (Jvm.hb hby d29_16) hrL
  · show QN Z vd to h0 n0 _ T145.heap _
    exact ⟨nb, kn, rfl, N145, K145, gn, sn, va⟩
theorem d25_0 : decode jdk_68_method_64_code 0 = .ok (.aload_n 0, 1) := by decide +kernel
theorem d25_1 : decode jdk_68_method_64_code 1 = .ok (.getfield 15, 3) := by decide +kernel
theorem d25_4 : decode jdk_68_method_64_code 4 = .ok (.areturn, 1) := by decide +kernel
theorem own_ef25 (m : MethodId) (x0 : Addr) : entryFrame m #[(.ref x0)] 1 = mkF m 0 #[.val (.ref x0)] [] := by first | (simp [entryFrame, mkF, argsToLocals, Value.category]; done) | rfl
set_option maxRecDepth 65536 in
set_option maxHeartbeats 40000000 in
theorem rmGV (l : Launch) (Z : State) (a0 : Array Value) (hw : ∀ d ∈ tables_1, d.before a0 Z = true) (ws : List Jvm.Cond) (a : Addr) (bv : Addr) (h0 : Heap) (n0 : Nat) (Z0 : n0 ≤ h0.size) (FV : Fld Z h0 a "java/lang/AbstractStringBuilder" "value" "[B" (.ref bv)) :
    MetFree l (⟨"java/lang/AbstractStringBuilder", "getValue", "()[B"⟩ : MethodName) (head1 (Jvm.Cond.code (⟨"java/lang/AbstractStringBuilder", "getValue", "()[B"⟩ : MethodName) jdk_68_method_64_code 1 (some (.array .byte)) :: ws) ({ frames := 0, cells := 0, slots := 0, locals := 0 } : Room)) (fun α U => α = #[(.ref a)] ∧ Z.Warmed39 U.vm ∧ U.heap = h0) (fun _ _ _ _ _ => True) (fun _ U ω U' => ∃ ν Λ, ω = .returned ν ∧ QRf bv h0 n0 ν U'.heap Λ ∧ FrameEnd U ω U' Λ ({ frames := 0, cells := 0, slots := 0, locals := 0 } : Room).cells ({ frames := 0, cells := 0, slots := 0, locals := 0 } : Room).slots) := by
  refine MetFree.of_bodySF (plainFor_of_name own_pn_java_lang_AbstractStringBuilder) hisR ?_
  intro p e s m args below meth c s₁ Bd hml0 hP hK
  obtain ⟨rfl, hZ, hh⟩ := hP
  have hx := Bd.exec
  have hby := Bd.bytes
  have hml : c.maxLocals = 1 := hml0
  have hown : s.vm.findClass "java/lang/AbstractStringBuilder" = some m.cls := findClass_of_methodNamed Bd.named
  have hnm := (name_of_methodNamed Bd.named Bd.method).1
  have X0 : Stand p l e ({ frames := 0, cells := 0, slots := 0, locals := 0 } : Room) s m #[(.ref a)] below meth c s₁ [] 0 0 := Stand.of_body Bd
  have e0 : s₁.heap = h0 := by rw [← hh, Bd.state]; rfl
  have N0 := Fr.nil n0
  have KK0 : Keep h0 h0 [] := Keep.refl h0 []
  obtain ⟨PS, hPS⟩ : ∃ P : State → Prop, P = fun τ => Steps p.tables e below (s₁.setTop (entryFrame m #[(.ref a)] 1)) τ := ⟨_, rfl⟩
  have pre0 : ∀ τ, Steps p.tables e below (s₁.setTop (mkF m 0 #[.val (.ref a)] [])) τ → PS τ := by rw [hPS]; exact fun τ κ => castTop (own_ef25 m a) κ
  obtain ⟨T147, X147, e147, st147⟩ := getF X0 hx hZ hown (host := "") (Or.inl (own_W79 hw)) Via.refl e0 FV (g := (mkF m 1 #[.val (.ref a)] [(.ref a)])) rfl rfl (Jvm.hb hby d25_1)
  have pre148 := fun (τ : State) kt => pre0 τ (by
    show Steps p.tables e below (s₁.setTop (mkF m 0 #[.val (.ref a)] [])) τ
    refine XS.aloadN X0.here hx rfl (Jvm.hb hby d25_0) rfl rfl ?_
    exact st147 τ kt)
  obtain ⟨fs, hrL, hrun, hended, hW, hsame⟩ := X147.leave (v := some (.ref bv)) (fun h => by rw [Bd.returns] at h; cases h)
  refine ⟨_, _, cast (congrFun hPS _) (pre148 _ ?_), hrun, hended, _, _, rfl, ?_, ⟨_, rfl⟩, hW, hsame.mono (by decide) (by decide)⟩
  · show Steps p.tables e below (T147.setTop (mkF m 4 #[.val (.ref a)] [(.ref bv)])) _
    exact retOut X147 hx Bd.returns rfl (Or.inr (Or.inr (Or.inr (Or.inr ⟨rfl, rfl, rfl⟩)))) (Jvm.hb hby d25_4) hrL
  · show QRf bv h0 n0 _ T147.heap _
    rw [e147]
    exact ⟨rfl, N0, rfl⟩
theorem d27_0 : decode jdk_68_method_6_code 0 = .ok (.aload_n 0, 1) := by decide +kernel
theorem d27_1 : decode jdk_68_method_6_code 1 = .ok (.getfield 79, 3) := by decide +kernel
theorem d27_4 : decode jdk_68_method_6_code 4 = .ok (.ireturn, 1) := by decide +kernel
theorem own_ef27 (m : MethodId) (x0 : Addr) : entryFrame m #[(.ref x0)] 1 = mkF m 0 #[.val (.ref x0)] [] := by first | (simp [entryFrame, mkF, argsToLocals, Value.category]; done) | rfl
set_option maxRecDepth 65536 in
set_option maxHeartbeats 40000000 in
theorem rmAL (l : Launch) (Z : State) (a0 : Array Value) (hw : ∀ d ∈ tables_1, d.before a0 Z = true) (ws : List Jvm.Cond) (a : Addr) (cn : Int32) (h0 : Heap) (n0 : Nat) (Z0 : n0 ≤ h0.size) (FN : Fld Z h0 a "java/lang/AbstractStringBuilder" "count" "I" (.int cn)) :
    MetFree l (⟨"java/lang/AbstractStringBuilder", "length", "()I"⟩ : MethodName) (head1 (Jvm.Cond.code (⟨"java/lang/AbstractStringBuilder", "length", "()I"⟩ : MethodName) jdk_68_method_6_code 1 (some .int) :: ws) ({ frames := 0, cells := 0, slots := 0, locals := 0 } : Room)) (fun α U => α = #[(.ref a)] ∧ Z.Warmed39 U.vm ∧ U.heap = h0) (fun _ _ _ _ _ => True) (fun _ U ω U' => ∃ ν Λ, ω = .returned ν ∧ QI cn h0 n0 ν U'.heap Λ ∧ FrameEnd U ω U' Λ ({ frames := 0, cells := 0, slots := 0, locals := 0 } : Room).cells ({ frames := 0, cells := 0, slots := 0, locals := 0 } : Room).slots) := by
  refine MetFree.of_bodySF (plainFor_of_name own_pn_java_lang_AbstractStringBuilder) hisR ?_
  intro p e s m args below meth c s₁ Bd hml0 hP hK
  obtain ⟨rfl, hZ, hh⟩ := hP
  have hx := Bd.exec
  have hby := Bd.bytes
  have hml : c.maxLocals = 1 := hml0
  have hown : s.vm.findClass "java/lang/AbstractStringBuilder" = some m.cls := findClass_of_methodNamed Bd.named
  have hnm := (name_of_methodNamed Bd.named Bd.method).1
  have X0 : Stand p l e ({ frames := 0, cells := 0, slots := 0, locals := 0 } : Room) s m #[(.ref a)] below meth c s₁ [] 0 0 := Stand.of_body Bd
  have e0 : s₁.heap = h0 := by rw [← hh, Bd.state]; rfl
  have N0 := Fr.nil n0
  have KK0 : Keep h0 h0 [] := Keep.refl h0 []
  obtain ⟨PS, hPS⟩ : ∃ P : State → Prop, P = fun τ => Steps p.tables e below (s₁.setTop (entryFrame m #[(.ref a)] 1)) τ := ⟨_, rfl⟩
  have pre0 : ∀ τ, Steps p.tables e below (s₁.setTop (mkF m 0 #[.val (.ref a)] [])) τ → PS τ := by rw [hPS]; exact fun τ κ => castTop (own_ef27 m a) κ
  obtain ⟨T149, X149, e149, st149⟩ := getF X0 hx hZ hown (host := "") (Or.inl (own_W103 hw)) Via.refl e0 FN (g := (mkF m 1 #[.val (.ref a)] [(.ref a)])) rfl rfl (Jvm.hb hby d27_1)
  have pre150 := fun (τ : State) kt => pre0 τ (by
    show Steps p.tables e below (s₁.setTop (mkF m 0 #[.val (.ref a)] [])) τ
    refine XS.aloadN X0.here hx rfl (Jvm.hb hby d27_0) rfl rfl ?_
    exact st149 τ kt)
  obtain ⟨fs, hrL, hrun, hended, hW, hsame⟩ := X149.leave (v := some (.int cn)) (fun h => by rw [Bd.returns] at h; cases h)
  refine ⟨_, _, cast (congrFun hPS _) (pre150 _ ?_), hrun, hended, _, _, rfl, ?_, ⟨_, rfl⟩, hW, hsame.mono (by decide) (by decide)⟩
  · show Steps p.tables e below (T149.setTop (mkF m 4 #[.val (.ref a)] [(.int cn)])) _
    exact retI X149 hx Bd.returns (Jvm.hb hby d27_4) hrL
  · show QI cn h0 n0 _ T149.heap _
    rw [e149]
    exact ⟨rfl, N0, rfl⟩
theorem d26_0 : decode jdk_67_method_93_code 0 = .ok (.aload_n 0, 1) := by decide +kernel
theorem d26_1 : decode jdk_67_method_93_code 1 = .ok (.invokespecial 343, 3) := by decide +kernel
theorem d26_4 : decode jdk_67_method_93_code 4 = .ok (.ireturn, 1) := by decide +kernel
theorem own_ef26 (m : MethodId) (x0 : Addr) : entryFrame m #[(.ref x0)] 1 = mkF m 0 #[.val (.ref x0)] [] := by first | (simp [entryFrame, mkF, argsToLocals, Value.category]; done) | rfl
set_option maxRecDepth 65536 in
set_option maxHeartbeats 40000000 in
theorem rmSL (l : Launch) (Z : State) (a0 : Array Value) (hw : ∀ d ∈ tables_1, d.before a0 Z = true) (ws : List Jvm.Cond) (a : Addr) (cn : Int32) (h0 : Heap) (n0 : Nat) (Z0 : n0 ≤ h0.size) (EB : Exa Z h0 a "java/lang/StringBuilder") (FN : Fld Z h0 a "java/lang/AbstractStringBuilder" "count" "I" (.int cn)) :
    MetFree l (⟨"java/lang/StringBuilder", "length", "()I"⟩ : MethodName) (head1 (Jvm.Cond.code (⟨"java/lang/StringBuilder", "length", "()I"⟩ : MethodName) jdk_67_method_93_code 1 (some .int) :: ws) ({ frames := 1, cells := 0, slots := 0, locals := 12 } : Room)) (fun α U => α = #[(.ref a)] ∧ Z.Warmed39 U.vm ∧ U.heap = h0) (fun _ _ _ _ _ => True) (fun _ U ω U' => ∃ ν Λ, ω = .returned ν ∧ QI cn h0 n0 ν U'.heap Λ ∧ FrameEnd U ω U' Λ ({ frames := 1, cells := 0, slots := 0, locals := 12 } : Room).cells ({ frames := 1, cells := 0, slots := 0, locals := 12 } : Room).slots) := by
  refine MetFree.of_bodySF (plainFor_of_name own_pn_java_lang_StringBuilder) hisR ?_
  intro p e s m args below meth c s₁ Bd hml0 hP hK
  obtain ⟨rfl, hZ, hh⟩ := hP
  have hx := Bd.exec
  have hby := Bd.bytes
  have hml : c.maxLocals = 1 := hml0
  have hown : s.vm.findClass "java/lang/StringBuilder" = some m.cls := findClass_of_methodNamed Bd.named
  have hnm := (name_of_methodNamed Bd.named Bd.method).1
  have X0 : Stand p l e ({ frames := 1, cells := 0, slots := 0, locals := 12 } : Room) s m #[(.ref a)] below meth c s₁ [] 0 0 := Stand.of_body Bd
  have e0 : s₁.heap = h0 := by rw [← hh, Bd.state]; rfl
  have N0 := Fr.nil n0
  have KK0 : Keep h0 h0 [] := Keep.refl h0 []
  obtain ⟨PS, hPS⟩ : ∃ P : State → Prop, P = fun τ => Steps p.tables e below (s₁.setTop (entryFrame m #[(.ref a)] 1)) τ := ⟨_, rfl⟩
  have pre0 : ∀ τ, Steps p.tables e below (s₁.setTop (mkF m 0 #[.val (.ref a)] [])) τ → PS τ := by rw [hPS]; exact fun τ κ => castTop (own_ef26 m a) κ
  obtain ⟨_, T151, L151, X151, ⟨rfl, Nq151, eq151⟩, st151⟩ := own_super (y := own_mn11) (b := a) X0 hx hZ hown (own_W154 hw) (own_same (y := own_mn11) (y2 := own_mn4) (by decide) (own_W150 hw) (own_W108 hw) rfl) (own_W150 hw) (own_W90 hw) (by decide) (rmAL l Z a0 hw [] a cn h0 n0 (Nat.le_trans Z0 KK0.1) FN) (own_W155 hw) (own_W75 hw) 0 (by decide) (by decide) EB e0 (mkF m 1 #[.val (.ref a)] [(.ref a)]) rfl (by rw [hml]; rfl) [] [] rfl (lenOf own_pd___I rfl) rfl (Nat.le_refl _) (Jvm.hb hby d26_1) (by decide) (by decide)
  have N151 := Fr.app N0 Nq151
  have pre152 := fun (τ : State) kt => pre0 τ (by
    show Steps p.tables e below (s₁.setTop (mkF m 0 #[.val (.ref a)] [])) τ
    refine XS.aloadN X0.here hx rfl (Jvm.hb hby d26_0) rfl rfl ?_
    exact st151 τ kt)
  obtain ⟨fs, hrL, hrun, hended, hW, hsame⟩ := X151.leave (v := some (.int cn)) (fun h => by rw [Bd.returns] at h; cases h)
  refine ⟨_, _, cast (congrFun hPS _) (pre152 _ ?_), hrun, hended, _, _, rfl, ?_, ⟨_, rfl⟩, hW, hsame.mono (by decide) (by decide)⟩
  · show Steps p.tables e below (T151.setTop (mkF m 4 #[.val (.ref a)] [(.int cn)])) _
    exact retI X151 hx Bd.returns (Jvm.hb hby d26_4) hrL
  · show QI cn h0 n0 _ T151.heap _
    rw [eq151]
    exact ⟨rfl, N151, rfl⟩
def QS (Z : State) (a : Addr) (vd : List Value) (to : Int32) (h0 : Heap) (n0 : Nat) (v : Option Value) (h : Heap) (L : List Loc) : Prop := ∃ (nb : Addr) (kn : ClassId), v = none ∧ Fr n0 L ∧ Keep h0 h [a] ∧ Fld Z h a "java/lang/String" "coder" "B" (.int (0 : Int32)) ∧ Fld Z h a "java/lang/String" "value" "[B" (.ref nb) ∧ Arv Z h nb kn .byte to (own_cpl own_z16 vd 0 0 to) (.int (0 : Int32))
theorem d24_0 : decode jdk_42_method_150_code 0 = .ok (.aload_n 0, 1) := by decide +kernel
theorem d24_1 : decode jdk_42_method_150_code 1 = .ok (.invokespecial 1, 3) := by decide +kernel
theorem d24_4 : decode jdk_42_method_150_code 4 = .ok (.aload_n 1, 1) := by decide +kernel
theorem d24_5 : decode jdk_42_method_150_code 5 = .ok (.invokevirtual 552, 3) := by decide +kernel
theorem d24_8 : decode jdk_42_method_150_code 8 = .ok (.astore_n 3, 1) := by decide +kernel
theorem d24_9 : decode jdk_42_method_150_code 9 = .ok (.aload_n 1, 1) := by decide +kernel
theorem d24_10 : decode jdk_42_method_150_code 10 = .ok (.invokevirtual 549, 3) := by decide +kernel
theorem d24_13 : decode jdk_42_method_150_code 13 = .ok (.istore 4, 2) := by decide +kernel
theorem d24_15 : decode jdk_42_method_150_code 15 = .ok (.aload_n 1, 1) := by decide +kernel
theorem d24_16 : decode jdk_42_method_150_code 16 = .ok (.invokevirtual 1047, 3) := by decide +kernel
theorem d24_19 : decode jdk_42_method_150_code 19 = .ok (.ifCond .eq 22, 3) := by decide +kernel
theorem d24_22 : decode jdk_42_method_150_code 22 = .ok (.aload_n 0, 1) := by decide +kernel
theorem d24_23 : decode jdk_42_method_150_code 23 = .ok (.iconst 0, 1) := by decide +kernel
theorem d24_24 : decode jdk_42_method_150_code 24 = .ok (.putfield 15, 3) := by decide +kernel
theorem d24_27 : decode jdk_42_method_150_code 27 = .ok (.aload_n 0, 1) := by decide +kernel
theorem d24_28 : decode jdk_42_method_150_code 28 = .ok (.aload_n 3, 1) := by decide +kernel
theorem d24_29 : decode jdk_42_method_150_code 29 = .ok (.iconst 0, 1) := by decide +kernel
theorem d24_30 : decode jdk_42_method_150_code 30 = .ok (.iload 4, 2) := by decide +kernel
theorem d24_32 : decode jdk_42_method_150_code 32 = .ok (.invokestatic 54, 3) := by decide +kernel
theorem d24_35 : decode jdk_42_method_150_code 35 = .ok (.putfield 9, 3) := by decide +kernel
theorem d24_38 : decode jdk_42_method_150_code 38 = .ok (.goto 59, 3) := by decide +kernel
theorem d24_41 : decode jdk_42_method_150_code 41 = .ok (.getstatic 38, 3) := by decide +kernel
theorem d24_44 : decode jdk_42_method_150_code 44 = .ok (.ifCond .eq 35, 3) := by decide +kernel
theorem d24_47 : decode jdk_42_method_150_code 47 = .ok (.aload_n 1, 1) := by decide +kernel
theorem d24_48 : decode jdk_42_method_150_code 48 = .ok (.getfield 1048, 3) := by decide +kernel
theorem d24_51 : decode jdk_42_method_150_code 51 = .ok (.ifCond .eq 28, 3) := by decide +kernel
theorem d24_54 : decode jdk_42_method_150_code 54 = .ok (.aload_n 0, 1) := by decide +kernel
theorem d24_55 : decode jdk_42_method_150_code 55 = .ok (.aload_n 3, 1) := by decide +kernel
theorem d24_56 : decode jdk_42_method_150_code 56 = .ok (.iconst 0, 1) := by decide +kernel
theorem d24_57 : decode jdk_42_method_150_code 57 = .ok (.iload 4, 2) := by decide +kernel
theorem d24_59 : decode jdk_42_method_150_code 59 = .ok (.invokestatic 1051, 3) := by decide +kernel
theorem d24_62 : decode jdk_42_method_150_code 62 = .ok (.putfield 9, 3) := by decide +kernel
theorem d24_65 : decode jdk_42_method_150_code 65 = .ok (.aload_n 0, 1) := by decide +kernel
theorem d24_66 : decode jdk_42_method_150_code 66 = .ok (.aload_n 0, 1) := by decide +kernel
theorem d24_67 : decode jdk_42_method_150_code 67 = .ok (.getfield 9, 3) := by decide +kernel
theorem d24_70 : decode jdk_42_method_150_code 70 = .ok (.iload 4, 2) := by decide +kernel
theorem d24_72 : decode jdk_42_method_150_code 72 = .ok (.invokestatic 47, 3) := by decide +kernel
theorem d24_75 : decode jdk_42_method_150_code 75 = .ok (.putfield 15, 3) := by decide +kernel
theorem d24_78 : decode jdk_42_method_150_code 78 = .ok (.return_, 1) := by decide +kernel
theorem d24_79 : decode jdk_42_method_150_code 79 = .ok (.aload_n 0, 1) := by decide +kernel
theorem d24_80 : decode jdk_42_method_150_code 80 = .ok (.iconst 1, 1) := by decide +kernel
theorem d24_81 : decode jdk_42_method_150_code 81 = .ok (.putfield 15, 3) := by decide +kernel
theorem d24_84 : decode jdk_42_method_150_code 84 = .ok (.aload_n 0, 1) := by decide +kernel
theorem d24_85 : decode jdk_42_method_150_code 85 = .ok (.aload_n 3, 1) := by decide +kernel
theorem d24_86 : decode jdk_42_method_150_code 86 = .ok (.iconst 0, 1) := by decide +kernel
theorem d24_87 : decode jdk_42_method_150_code 87 = .ok (.iload 4, 2) := by decide +kernel
theorem d24_89 : decode jdk_42_method_150_code 89 = .ok (.iconst 1, 1) := by decide +kernel
theorem d24_90 : decode jdk_42_method_150_code 90 = .ok (.ishl, 1) := by decide +kernel
theorem d24_91 : decode jdk_42_method_150_code 91 = .ok (.invokestatic 54, 3) := by decide +kernel
theorem d24_94 : decode jdk_42_method_150_code 94 = .ok (.putfield 9, 3) := by decide +kernel
theorem d24_97 : decode jdk_42_method_150_code 97 = .ok (.return_, 1) := by decide +kernel
theorem own_ef24_xxn (m : MethodId) (x0 : Addr) (x1 : Addr) : entryFrame m #[(.ref x0), (.ref x1), .null] 5 = mkF m 0 #[.val (.ref x0), .val (.ref x1), .val .null, .unset, .unset] [] := by first | (simp [entryFrame, mkF, argsToLocals, Value.category]; done) | rfl
set_option maxRecDepth 65536 in
set_option maxHeartbeats 40000000 in
theorem rmSI (l : Launch) (Z : State) (a0 : Array Value) (hw : ∀ d ∈ tables_1, d.before a0 Z = true) (ws : List Jvm.Cond) (a : Addr) (sb : Addr) (cz : Int32) (bv : Addr) (kd : ClassId) (vd : List Value) (to : Int32) (h0 : Heap) (n0 : Nat) (Z0 : n0 ≤ h0.size) (E7 : Exa Z h0 a "java/lang/String") (F1 : Fld Z h0 a "java/lang/String" "value" "[B" .null) (F2 : Fld Z h0 a "java/lang/String" "coder" "B" (.int (0 : Int32))) (ga : n0 ≤ a) (EB : Exa Z h0 sb "java/lang/StringBuilder") (FV : Fld Z h0 sb "java/lang/AbstractStringBuilder" "value" "[B" (.ref bv)) (FC : Fld Z h0 sb "java/lang/AbstractStringBuilder" "coder" "B" (.int (0 : Int32))) (FN : Fld Z h0 sb "java/lang/AbstractStringBuilder" "count" "I" (.int to)) (VD : Arv Z h0 bv kd .byte (16 : Int32) vd (.int (0 : Int32))) (nsa : sb ≠ a) (nva : bv ≠ a) (to0 : ¬ to < 0) (to1 : to.toNatClampNeg ≤ 16) (hb3 : vd.length = 16) (to2 : ¬ to = (16 : Int32)) (O2 : Sta Z Z.heap "java/lang/String" "COMPACT_STRINGS" "Z" (.int cz)) (P5 : ¬ cz = 0) (OLD0 : Old Z n0 h0) :
    MetFree l (⟨"java/lang/String", "<init>", "(Ljava/lang/AbstractStringBuilder;Ljava/lang/Void;)V"⟩ : MethodName) (head1 (Jvm.Cond.code (⟨"java/lang/String", "<init>", "(Ljava/lang/AbstractStringBuilder;Ljava/lang/Void;)V"⟩ : MethodName) jdk_42_method_150_code 5 none :: ws) ({ frames := 3, cells := 1, slots := 16, locals := 85 } : Room)) (fun α U => α = #[(.ref a), (.ref sb), .null] ∧ Z.Warmed39 U.vm ∧ U.heap = h0) (fun _ _ _ _ _ => True) (fun _ U ω U' => ∃ ν Λ, ω = .returned ν ∧ QS Z a vd to h0 n0 ν U'.heap Λ ∧ FrameEnd U ω U' Λ ({ frames := 3, cells := 1, slots := 16, locals := 85 } : Room).cells ({ frames := 3, cells := 1, slots := 16, locals := 85 } : Room).slots) := by
  refine MetFree.of_bodySF (plainFor_of_name own_pn_java_lang_String) hisR ?_
  intro p e s m args below meth c s₁ Bd hml0 hP hK
  obtain ⟨rfl, hZ, hh⟩ := hP
  have hx := Bd.exec
  have hby := Bd.bytes
  have hml : c.maxLocals = 5 := hml0
  have hown : s.vm.findClass "java/lang/String" = some m.cls := findClass_of_methodNamed Bd.named
  have hnm := (name_of_methodNamed Bd.named Bd.method).1
  have X0 : Stand p l e ({ frames := 3, cells := 1, slots := 16, locals := 85 } : Room) s m #[(.ref a), (.ref sb), .null] below meth c s₁ [] 0 0 := Stand.of_body Bd
  have e0 : s₁.heap = h0 := by rw [← hh, Bd.state]; rfl
  have N0 := Fr.nil n0
  have KK0 : Keep h0 h0 [a] := Keep.refl h0 [a]
  obtain ⟨PS, hPS⟩ : ∃ P : State → Prop, P = fun τ => Steps p.tables e below (s₁.setTop (entryFrame m #[(.ref a), (.ref sb), .null] 5)) τ := ⟨_, rfl⟩
  have pre0 : ∀ τ, Steps p.tables e below (s₁.setTop (mkF m 0 #[.val (.ref a), .val (.ref sb), .val .null, .unset, .unset] [])) τ → PS τ := by rw [hPS]; exact fun τ κ => castTop (own_ef24_xxn m a sb) κ
  obtain ⟨T153, X153, e153, st153⟩ := initO X0 hx hZ hown (own_W15 hw) (own_W16 hw) (own_W17 hw) e0 (g := (mkF m 1 #[.val (.ref a), .val (.ref sb), .val .null, .unset, .unset] [(.ref a)])) rfl (by rw [hml]; rfl) rfl (Jvm.hb hby d24_1) (by decide) (W := 0) (by show 2 * 0 + _ ≤ _; exact Nat.le_of_eq rfl) (by decide)
  have pre154 := fun (τ : State) kt => pre0 τ (by
    show Steps p.tables e below (s₁.setTop (mkF m 0 #[.val (.ref a), .val (.ref sb), .val .null, .unset, .unset] [])) τ
    refine XS.aloadN X0.here hx rfl (Jvm.hb hby d24_0) rfl rfl ?_
    exact st153 τ kt)
  obtain ⟨_, T155, L155, X155, ⟨rfl, Nq155, eq155⟩, st155⟩ := own_virt (y := own_mn12) (b := sb) X153 hx hZ hown (own_W143 hw) (own_W144 hw) (own_W146 hw) (own_W145 hw) (by decide) (rmGV l Z a0 hw [] sb bv h0 n0 (Nat.le_trans Z0 KK0.1) FV) (own_W147 hw) (own_W75 hw) 0 (by decide) (by decide) EB e153 (mkF m 5 #[.val (.ref a), .val (.ref sb), .val .null, .unset, .unset] [(.ref sb)]) rfl (by rw [hml]; rfl) [] [] rfl (lenOf own_pd____B rfl) rfl (Nat.le_refl _) (Jvm.hb hby d24_5) (by decide) (by decide)
  have N155 := Fr.app N0 Nq155
  have pre156 := fun (τ : State) kt => pre154 τ (by
    show Steps p.tables e below (T153.setTop (mkF m 4 #[.val (.ref a), .val (.ref sb), .val .null, .unset, .unset] [])) τ
    refine XS.aloadN X153.here hx rfl (Jvm.hb hby d24_4) rfl rfl ?_
    exact st155 τ kt)
  obtain ⟨_, T157, L157, X157, ⟨rfl, Nq157, eq157⟩, st157⟩ := own_virtz (y := own_mn11) (z := own_mn13) (b := sb) X155 hx hZ hown (own_W148 hw) (own_W149 hw) (own_nf (y := own_mn11) (y2 := own_mn4) (args := #[]) (mvT hZ (own_W108 hw)) rfl) (own_W151 hw) (own_W152 hw) (by decide) (rmSL l Z a0 hw [] sb to h0 n0 (Nat.le_trans Z0 KK0.1) EB FN) (own_W153 hw) (own_W67 hw) 0 (by decide) (by decide) EB eq155 (mkF m 10 #[.val (.ref a), .val (.ref sb), .val .null, .val (.ref bv), .unset] [(.ref sb)]) rfl (by rw [hml]; rfl) [] [] rfl (lenOf own_pd___I rfl) rfl (Nat.le_refl _) (Jvm.hb hby d24_10) (by decide) (by decide)
  have N157 := Fr.app N155 Nq157
  have pre158 := fun (τ : State) kt => pre156 τ (by
    show Steps p.tables e below (T155.setTop (mkF m 8 #[.val (.ref a), .val (.ref sb), .val .null, .unset, .unset] [(.ref bv)])) τ
    refine XS.astoreN X155.here hx rfl (Jvm.hb hby d24_8) rfl rfl (l' := #[.val (.ref a), .val (.ref sb), .val .null, .val (.ref bv), .unset]) rfl ?_
    refine XS.aloadN X155.here hx rfl (Jvm.hb hby d24_9) rfl rfl ?_
    exact st157 τ kt)
  obtain ⟨_, T159, L159, X159, ⟨rfl, Nq159, eq159⟩, st159⟩ := own_virt (y := own_mn14) (b := sb) X157 hx hZ hown (own_W156 hw) (own_W157 hw) (own_W159 hw) (own_W158 hw) (by decide) (rmAIL l Z a0 hw [] sb cz h0 n0 (Nat.le_trans Z0 KK0.1) FC O2 P5 OLD0) (own_W160 hw) (own_W75 hw) 0 (by decide) (by decide) EB eq157 (mkF m 16 #[.val (.ref a), .val (.ref sb), .val .null, .val (.ref bv), .val (.int to)] [(.ref sb)]) rfl (by rw [hml]; rfl) [] [] rfl (lenOf own_pd___Z rfl) rfl (Nat.le_refl _) (Jvm.hb hby d24_16) (by decide) (by decide)
  have N159 := Fr.app N157 Nq159
  have pre160 := fun (τ : State) kt => pre158 τ (by
    show Steps p.tables e below (T157.setTop (mkF m 13 #[.val (.ref a), .val (.ref sb), .val .null, .val (.ref bv), .unset] [(.int to)])) τ
    refine XS.istore X157.here hx rfl (Jvm.hb hby d24_13) rfl (l' := #[.val (.ref a), .val (.ref sb), .val .null, .val (.ref bv), .val (.int to)]) rfl ?_
    refine XS.aloadN X157.here hx rfl (Jvm.hb hby d24_15) rfl rfl ?_
    exact st159 τ kt)
  obtain ⟨T161, h161, X161, e161, W161, st161⟩ := putFN X159 hx hZ hown (own_W30 hw) Via.refl eq159 F2 E7 (Or.inr ⟨(own_W31 hw), rfl, hnm⟩) (own_W5 hw) (ty := .byte) (v' := (.int (nar .byte (0 : Int32)))) (by decide) rfl (fits_nar_byte _) (g := (mkF m 24 #[.val (.ref a), .val (.ref sb), .val .null, .val (.ref bv), .val (.int to)] [(.int (0 : Int32)), (.ref a)])) rfl rfl (Jvm.hb hby d24_24)
  have fw161 := Fld.same W161 F2
  have N161 := Fr.snoc X161 N159 ga
  have K161 : Keep h0 h161 [a] := KK0.wr W161 (Or.inl (by simp))
  have pre162 := fun (τ : State) kt => pre160 τ (by
    show Steps p.tables e below (T159.setTop (mkF m 19 #[.val (.ref a), .val (.ref sb), .val .null, .val (.ref bv), .val (.int to)] [(.int (1 : Int32))])) τ
    refine XS.ifNo X159.here hx rfl (Jvm.hb hby d24_19) rfl ((if0 _ _).trans (feq (by decide)).1) ?_
    refine XS.aloadN X159.here hx rfl (Jvm.hb hby d24_22) rfl rfl ?_
    refine XS.iconst X159.here hx rfl (Jvm.hb hby d24_23) ?_
    exact st161 τ kt)
  have f163 := EB.wr W161
  have f164 := VD.other W161 nva
  have f165 := E7.wr W161
  obtain ⟨_, T166, L166, X166, ⟨nb, kn, rfl, Nq166, Kq166, gn, sn, va⟩, st166⟩ := own_stat (y := own_mn15) X161 hx hZ hown (own_W161 hw) (own_W162 hw) (by decide) (rmCR l Z a0 hw [] bv (0 : Int32) to kd vd h161 n0 (Nat.le_trans Z0 K161.1) rfl f164 to0 to1 hb3 to2) (own_W164 hw) (own_W163 hw) 1 (by decide) (by decide) e161 (mkF m 32 #[.val (.ref a), .val (.ref sb), .val .null, .val (.ref bv), .val (.int to)] [(.int to), (.int (0 : Int32)), (.ref bv), (.ref a)]) rfl (by rw [hml]; rfl) [(.ref bv), (.int (0 : Int32)), (.int to)] [(.ref a)] rfl (lenOf own_pd___BII__B rfl) rfl (Nat.le_refl _) (Jvm.hb hby d24_32) (by decide) (by decide)
  have N166 := Fr.app N161 Nq166
  have K166 : Keep h0 T166.heap [a] := K161.trans Kq166 (all0)
  have pre167 := fun (τ : State) kt => pre162 τ (by
    show Steps p.tables e below (T161.setTop (mkF m 27 #[.val (.ref a), .val (.ref sb), .val .null, .val (.ref bv), .val (.int to)] [])) τ
    refine XS.aloadN X161.here hx rfl (Jvm.hb hby d24_27) rfl rfl ?_
    refine XS.aloadN X161.here hx rfl (Jvm.hb hby d24_28) rfl rfl ?_
    refine XS.iconst X161.here hx rfl (Jvm.hb hby d24_29) ?_
    refine XS.iload X161.here hx rfl (Jvm.hb hby d24_30) rfl ?_
    exact st166 τ kt)
  have ne_sb_nb : sb ≠ nb := Nat.ne_of_lt (Nat.lt_of_lt_of_le f163.lt sn)
  have ne_bv_nb : bv ≠ nb := Nat.ne_of_lt (Nat.lt_of_lt_of_le f164.lt sn)
  have ne_a_nb : a ≠ nb := Nat.ne_of_lt (Nat.lt_of_lt_of_le f165.lt sn)
  have sz_nb : h0.size ≤ nb := Nat.le_trans K161.1 sn
  have f169 := (F1.other W161 (Or.inr (slot_ne (Or.inr (own_W33 hw)) (Or.inr (own_W31 hw)) (by decide) (t := (.array .byte)) (t' := .byte) (by decide) (by decide))))
  have f170 := f169.keep Kq166 (nin0)
  have f171 := f165.keep Kq166
  obtain ⟨T168, h168, X168, e168, W168, st168⟩ := putF X166 hx hZ hown (host := "") (Or.inl (own_W32 hw)) Via.refl rfl f170 f171 (Or.inr ⟨(own_W33 hw), rfl, hnm⟩) (own_W5 hw) (ty := (.array .byte)) (by decide) rfl rfl (g := (mkF m 35 #[.val (.ref a), .val (.ref sb), .val .null, .val (.ref bv), .val (.int to)] [(.ref nb), (.ref a)])) rfl rfl (Jvm.hb hby d24_35)
  have fw168 := Fld.same W168 f170
  have N168 := Fr.snoc X168 N166 ga
  have K168 : Keep h0 h168 [a] := K166.wr W168 (Or.inl (by simp))
  have pre172 := fun (τ : State) kt => pre167 τ (st168 τ kt)
  have f173 := fw161.keep Kq166 (nin0)
  have f174 := (f173.other W168 (Or.inr (slot_ne (Or.inr (own_W31 hw)) (Or.inr (own_W33 hw)) (by decide) (t := .byte) (t' := (.array .byte)) (by decide) (by decide))))
  have f175 := va.other W168 (Ne.symm ne_a_nb)
  have pre176 := fun (τ : State) kt => pre172 τ (by
    show Steps p.tables e below (T168.setTop (mkF m 38 #[.val (.ref a), .val (.ref sb), .val .null, .val (.ref bv), .val (.int to)] [])) τ
    refine XS.goto X168.here hx rfl (pc0 := 38) (pc' := 97) rfl (Jvm.hb hby d24_38) (by decide) (by decide) ?_
    exact kt)
  obtain ⟨fs, hrL, hrun, hended, hW, hsame⟩ := X168.leave (v := none) (fun _ => rfl)
  refine ⟨_, _, cast (congrFun hPS _) (pre176 _ ?_), hrun, hended, _, _, rfl, ?_, ⟨_, rfl⟩, hW, hsame.mono (by decide) (by decide)⟩
  · show Steps p.tables e below (T168.setTop (mkF m 97 #[.val (.ref a), .val (.ref sb), .val .null, .val (.ref bv), .val (.int to)] [])) _
    exact X168.returnOut hx Bd.returns (Jvm.hb hby d24_97) hrL
  · show QS Z a vd to h0 n0 _ T168.heap _
    rw [e168]
    exact ⟨nb, kn, rfl, N168, K168, f174, fw168, f175⟩
theorem d23_0 : decode jdk_42_method_53_code 0 = .ok (.aload_n 0, 1) := by decide +kernel
theorem d23_1 : decode jdk_42_method_53_code 1 = .ok (.aload_n 1, 1) := by decide +kernel
theorem d23_2 : decode jdk_42_method_53_code 2 = .ok (.aconst_null, 1) := by decide +kernel
theorem d23_3 : decode jdk_42_method_53_code 3 = .ok (.invokespecial 489, 3) := by decide +kernel
theorem d23_6 : decode jdk_42_method_53_code 6 = .ok (.return_, 1) := by decide +kernel
theorem own_ef23 (m : MethodId) (x0 : Addr) (x1 : Addr) : entryFrame m #[(.ref x0), (.ref x1)] 2 = mkF m 0 #[.val (.ref x0), .val (.ref x1)] [] := by first | (simp [entryFrame, mkF, argsToLocals, Value.category]; done) | rfl
set_option maxRecDepth 65536 in
set_option maxHeartbeats 40000000 in
theorem rmSI1 (l : Launch) (Z : State) (a0 : Array Value) (hw : ∀ d ∈ tables_1, d.before a0 Z = true) (ws : List Jvm.Cond) (a : Addr) (sb : Addr) (cz : Int32) (bv : Addr) (kd : ClassId) (vd : List Value) (to : Int32) (h0 : Heap) (n0 : Nat) (Z0 : n0 ≤ h0.size) (E7 : Exa Z h0 a "java/lang/String") (F1 : Fld Z h0 a "java/lang/String" "value" "[B" .null) (F2 : Fld Z h0 a "java/lang/String" "coder" "B" (.int (0 : Int32))) (ga : n0 ≤ a) (EB : Exa Z h0 sb "java/lang/StringBuilder") (FV : Fld Z h0 sb "java/lang/AbstractStringBuilder" "value" "[B" (.ref bv)) (FC : Fld Z h0 sb "java/lang/AbstractStringBuilder" "coder" "B" (.int (0 : Int32))) (FN : Fld Z h0 sb "java/lang/AbstractStringBuilder" "count" "I" (.int to)) (VD : Arv Z h0 bv kd .byte (16 : Int32) vd (.int (0 : Int32))) (nsa : sb ≠ a) (nva : bv ≠ a) (to0 : ¬ to < 0) (to1 : to.toNatClampNeg ≤ 16) (hb3 : vd.length = 16) (to2 : ¬ to = (16 : Int32)) (O2 : Sta Z Z.heap "java/lang/String" "COMPACT_STRINGS" "Z" (.int cz)) (P5 : ¬ cz = 0) (OLD0 : Old Z n0 h0) :
    MetFree l (⟨"java/lang/String", "<init>", "(Ljava/lang/StringBuilder;)V"⟩ : MethodName) (head1 (Jvm.Cond.code (⟨"java/lang/String", "<init>", "(Ljava/lang/StringBuilder;)V"⟩ : MethodName) jdk_42_method_53_code 2 none :: ws) ({ frames := 4, cells := 1, slots := 16, locals := 105 } : Room)) (fun α U => α = #[(.ref a), (.ref sb)] ∧ Z.Warmed39 U.vm ∧ U.heap = h0) (fun _ _ _ _ _ => True) (fun _ U ω U' => ∃ ν Λ, ω = .returned ν ∧ QS Z a vd to h0 n0 ν U'.heap Λ ∧ FrameEnd U ω U' Λ ({ frames := 4, cells := 1, slots := 16, locals := 105 } : Room).cells ({ frames := 4, cells := 1, slots := 16, locals := 105 } : Room).slots) := by
  refine MetFree.of_bodySF (plainFor_of_name own_pn_java_lang_String) hisR ?_
  intro p e s m args below meth c s₁ Bd hml0 hP hK
  obtain ⟨rfl, hZ, hh⟩ := hP
  have hx := Bd.exec
  have hby := Bd.bytes
  have hml : c.maxLocals = 2 := hml0
  have hown : s.vm.findClass "java/lang/String" = some m.cls := findClass_of_methodNamed Bd.named
  have hnm := (name_of_methodNamed Bd.named Bd.method).1
  have X0 : Stand p l e ({ frames := 4, cells := 1, slots := 16, locals := 105 } : Room) s m #[(.ref a), (.ref sb)] below meth c s₁ [] 0 0 := Stand.of_body Bd
  have e0 : s₁.heap = h0 := by rw [← hh, Bd.state]; rfl
  have N0 := Fr.nil n0
  have KK0 : Keep h0 h0 [a] := Keep.refl h0 [a]
  obtain ⟨PS, hPS⟩ : ∃ P : State → Prop, P = fun τ => Steps p.tables e below (s₁.setTop (entryFrame m #[(.ref a), (.ref sb)] 2)) τ := ⟨_, rfl⟩
  have pre0 : ∀ τ, Steps p.tables e below (s₁.setTop (mkF m 0 #[.val (.ref a), .val (.ref sb)] [])) τ → PS τ := by rw [hPS]; exact fun τ κ => castTop (own_ef23 m a sb) κ
  obtain ⟨_, T177, L177, X177, ⟨nb, kn, rfl, Nq177, Kq177, f1, f2, f3⟩, st177⟩ := own_spec (y := own_mn16) (b := a) X0 hx hZ rfl hown (own_W140 hw) (own_W141 hw) (by decide) (rmSI l Z a0 hw [] a sb cz bv kd vd to h0 n0 (Nat.le_trans Z0 KK0.1) E7 F1 F2 ga EB FV FC FN VD nsa nva to0 to1 hb3 to2 O2 P5 OLD0) (own_W142 hw) (own_W6 hw) 0 (by decide) (by decide) e0 (mkF m 3 #[.val (.ref a), .val (.ref sb)] [.null, (.ref sb), (.ref a)]) rfl (by rw [hml]; rfl) [(.ref sb), .null] [] rfl (lenOf own_pd__Ljava_lang_AbstractStringBuilder_Ljava_lang_Void__V rfl) rfl (Nat.le_refl _) (Jvm.hb hby d23_3) (by decide) (by decide)
  have N177 := Fr.app N0 Nq177
  have K177 : Keep h0 T177.heap [a] := KK0.trans Kq177 (allS (Or.inl (by simp)) (all0))
  have pre178 := fun (τ : State) kt => pre0 τ (by
    show Steps p.tables e below (s₁.setTop (mkF m 0 #[.val (.ref a), .val (.ref sb)] [])) τ
    refine XS.aloadN X0.here hx rfl (Jvm.hb hby d23_0) rfl rfl ?_
    refine XS.aloadN X0.here hx rfl (Jvm.hb hby d23_1) rfl rfl ?_
    refine XS.aconstNull X0.here hx rfl (Jvm.hb hby d23_2) ?_
    exact st177 τ kt)
  obtain ⟨fs, hrL, hrun, hended, hW, hsame⟩ := X177.leave (v := none) (fun _ => rfl)
  refine ⟨_, _, cast (congrFun hPS _) (pre178 _ ?_), hrun, hended, _, _, rfl, ?_, ⟨_, rfl⟩, hW, hsame.mono (by decide) (by decide)⟩
  · show Steps p.tables e below (T177.setTop (mkF m 6 #[.val (.ref a), .val (.ref sb)] [])) _
    exact X177.returnOut hx Bd.returns (Jvm.hb hby d23_6) hrL
  · show QS Z a vd to h0 n0 _ T177.heap _
    exact ⟨nb, kn, rfl, N177, K177, f1, f2, f3⟩
def QT (Z : State) (vs : List Value) (z : Int32) (h0 : Heap) (n0 : Nat) (v : Option Value) (h : Heap) (L : List Loc) : Prop := Fr n0 L ∧ Keep h0 h [] ∧ ∃ (r nb : Addr) (kn : ClassId), v = some (.ref r) ∧ Exa Z h r "java/lang/String" ∧ Fld Z h r "java/lang/String" "coder" "B" (.int (0 : Int32)) ∧ Fld Z h r "java/lang/String" "value" "[B" (.ref nb) ∧ Arv Z h nb kn .byte z vs (.int (0 : Int32))
theorem d22_0 : decode jdk_67_method_42_code 0 = .ok (.new 18, 3) := by decide +kernel
theorem d22_3 : decode jdk_67_method_42_code 3 = .ok (.dup, 1) := by decide +kernel
theorem d22_4 : decode jdk_67_method_42_code 4 = .ok (.aload_n 0, 1) := by decide +kernel
theorem d22_5 : decode jdk_67_method_42_code 5 = .ok (.invokespecial 137, 3) := by decide +kernel
theorem d22_8 : decode jdk_67_method_42_code 8 = .ok (.areturn, 1) := by decide +kernel
theorem own_ef22 (m : MethodId) (x0 : Addr) : entryFrame m #[(.ref x0)] 1 = mkF m 0 #[.val (.ref x0)] [] := by first | (simp [entryFrame, mkF, argsToLocals, Value.category]; done) | rfl
set_option maxRecDepth 65536 in
set_option maxHeartbeats 40000000 in
theorem rmTS (l : Launch) (Z : State) (a0 : Array Value) (hw : ∀ d ∈ tables_1, d.before a0 Z = true) (ws : List Jvm.Cond) (sb : Addr) (cz : Int32) (bv : Addr) (kd : ClassId) (vd : List Value) (to : Int32) (h0 : Heap) (n0 : Nat) (Z0 : n0 ≤ h0.size) (EB : Exa Z h0 sb "java/lang/StringBuilder") (FV : Fld Z h0 sb "java/lang/AbstractStringBuilder" "value" "[B" (.ref bv)) (FC : Fld Z h0 sb "java/lang/AbstractStringBuilder" "coder" "B" (.int (0 : Int32))) (FN : Fld Z h0 sb "java/lang/AbstractStringBuilder" "count" "I" (.int to)) (VD : Arv Z h0 bv kd .byte (16 : Int32) vd (.int (0 : Int32))) (to0 : ¬ to < 0) (to1 : to.toNatClampNeg ≤ 16) (hb3 : vd.length = 16) (to2 : ¬ to = (16 : Int32)) (O2 : Sta Z Z.heap "java/lang/String" "COMPACT_STRINGS" "Z" (.int cz)) (P5 : ¬ cz = 0) (OLD0 : Old Z n0 h0) :
    MetFree l (⟨"java/lang/StringBuilder", "toString", "()Ljava/lang/String;"⟩ : MethodName) (head1 (Jvm.Cond.code (⟨"java/lang/StringBuilder", "toString", "()Ljava/lang/String;"⟩ : MethodName) jdk_67_method_42_code 1 (some (.object "java/lang/String")) :: ws) ({ frames := 5, cells := 2, slots := 20, locals := 125 } : Room)) (fun α U => α = #[(.ref sb)] ∧ Z.Warmed39 U.vm ∧ U.heap = h0) (fun _ _ _ _ _ => True) (fun _ U ω U' => ∃ ν Λ, ω = .returned ν ∧ QT Z (own_cpl own_z16 vd 0 0 to) to h0 n0 ν U'.heap Λ ∧ FrameEnd U ω U' Λ ({ frames := 5, cells := 2, slots := 20, locals := 125 } : Room).cells ({ frames := 5, cells := 2, slots := 20, locals := 125 } : Room).slots) := by
  refine MetFree.of_bodySF (plainFor_of_name own_pn_java_lang_StringBuilder) hisR ?_
  intro p e s m args below meth c s₁ Bd hml0 hP hK
  obtain ⟨rfl, hZ, hh⟩ := hP
  have hx := Bd.exec
  have hby := Bd.bytes
  have hml : c.maxLocals = 1 := hml0
  have hown : s.vm.findClass "java/lang/StringBuilder" = some m.cls := findClass_of_methodNamed Bd.named
  have hnm := (name_of_methodNamed Bd.named Bd.method).1
  have X0 : Stand p l e ({ frames := 5, cells := 2, slots := 20, locals := 125 } : Room) s m #[(.ref sb)] below meth c s₁ [] 0 0 := Stand.of_body Bd
  have e0 : s₁.heap = h0 := by rw [← hh, Bd.state]; rfl
  have N0 := Fr.nil n0
  have KK0 : Keep h0 h0 [] := Keep.refl h0 []
  obtain ⟨PS, hPS⟩ : ∃ P : State → Prop, P = fun τ => Steps p.tables e below (s₁.setTop (entryFrame m #[(.ref sb)] 1)) τ := ⟨_, rfl⟩
  have pre0 : ∀ τ, Steps p.tables e below (s₁.setTop (mkF m 0 #[.val (.ref sb)] [])) τ → PS τ := by rw [hPS]; exact fun τ κ => castTop (own_ef22 m sb) κ
  obtain ⟨T179, h179, X179, e179, E179, A179, D179, -, st179⟩ := newO X0 hx hZ hown (own_W136 hw) (own_W5 hw) (own_W6 hw) e0 (g := (mkF m 0 #[.val (.ref sb)] [])) rfl (Jvm.hb hby d22_0) (by decide) (by decide)
  obtain ⟨so, g179⟩ : ∃ z, z = h0.size := ⟨_, rfl⟩
  rw [← g179] at A179 D179 st179
  have ne_sb_so : sb ≠ so := Nat.ne_of_lt (Nat.lt_of_lt_of_le EB.lt (Nat.le_of_eq g179.symm))
  have ne_bv_so : bv ≠ so := Nat.ne_of_lt (Nat.lt_of_lt_of_le VD.lt (Nat.le_of_eq g179.symm))
  have g_so : n0 ≤ so := Nat.le_trans (Nat.le_trans Z0 KK0.1) (Nat.le_of_eq g179.symm)
  have sz_so : h0.size ≤ so := Nat.le_trans KK0.1 (Nat.le_of_eq g179.symm)
  have K179 : Keep h0 h179 [] := KK0.ext E179
  have F_coder_so : Fld Z h179 so "java/lang/String" "coder" "B" (.int (0 : Int32)) := D179 (Or.inr (own_W31 hw)) (ty := .byte) (by decide)
  have F_value_so : Fld Z h179 so "java/lang/String" "value" "[B" .null := D179 (Or.inr (own_W33 hw)) (ty := (.array .byte)) (by decide)
  have pre180 := fun (τ : State) kt => pre0 τ (st179 τ kt)
  have f181 := EB.ext E179
  have f182 := FV.ext E179
  have f183 := FC.ext E179
  have f184 := FN.ext E179
  have f185 := VD.ext E179
  have old186 := OLD0.ext E179
  obtain ⟨_, T187, L187, X187, ⟨nb, kn, rfl, Nq187, Kq187, f1, f2, f3⟩, st187⟩ := own_spec (y := own_mn17) (b := so) X179 hx hZ rfl hown (own_W137 hw) (own_W138 hw) (by decide) (rmSI1 l Z a0 hw [] so sb cz bv kd vd to h179 n0 (Nat.le_trans Z0 K179.1) A179 F_value_so F_coder_so g_so f181 f182 f183 f184 f185 ne_sb_so ne_bv_so to0 to1 hb3 to2 O2 P5 old186) (own_W139 hw) (own_W6 hw) 1 (by decide) (by decide) e179 (mkF m 5 #[.val (.ref sb)] [(.ref sb), (.ref so), (.ref so)]) rfl (by rw [hml]; rfl) [(.ref sb)] [(.ref so)] rfl (lenOf own_pd__Ljava_lang_StringBuilder__V rfl) rfl (Nat.le_refl _) (Jvm.hb hby d22_5) (by decide) (by decide)
  have N187 := Fr.app N0 Nq187
  have K187 : Keep h0 T187.heap [] := K179.trans Kq187 (allS (Or.inr sz_so) (all0))
  have pre188 := fun (τ : State) kt => pre180 τ (by
    show Steps p.tables e below (T179.setTop (mkF m 3 #[.val (.ref sb)] [(.ref so)])) τ
    refine XS.dup X179.here hx rfl (Jvm.hb hby d22_3) rfl rfl ?_
    refine XS.aloadN X179.here hx rfl (Jvm.hb hby d22_4) rfl rfl ?_
    exact st187 τ kt)
  have f189 := A179.keep Kq187
  obtain ⟨fs, hrL, hrun, hended, hW, hsame⟩ := X187.leave (v := some (.ref so)) (fun h => by rw [Bd.returns] at h; cases h)
  refine ⟨_, _, cast (congrFun hPS _) (pre188 _ ?_), hrun, hended, _, _, rfl, ?_, ⟨_, rfl⟩, hW, hsame.mono (by decide) (by decide)⟩
  · show Steps p.tables e below (T187.setTop (mkF m 8 #[.val (.ref sb)] [(.ref so)])) _
    exact retOut X187 hx Bd.returns rfl (Or.inr (Or.inr (Or.inr (Or.inr ⟨rfl, rfl, rfl⟩)))) (Jvm.hb hby d22_8) hrL
  · show QT Z (own_cpl own_z16 vd 0 0 to) to h0 n0 _ T187.heap _
    exact ⟨N187, K187, so, nb, kn, rfl, f189, f1, f2, f3⟩
def QE (Z : State) (a : Addr) (h0 : Heap) (n0 : Nat) (v : Option Value) (h : Heap) (L : List Loc) : Prop := ∃ (b : Addr) (kb : ClassId), v = none ∧ Fr n0 L ∧ Keep h0 h [a] ∧ Fld Z h a "java/lang/String" "coder" "B" (.int (0 : Int32)) ∧ Fld Z h a "java/lang/String" "value" "[B" (.ref b) ∧ Arv Z h b kb .byte (0 : Int32) [] (.int (0 : Int32))
theorem d3_0 : decode jdk_42_method_149_code 0 = .ok (.aload_n 0, 1) := by decide +kernel
theorem d3_1 : decode jdk_42_method_149_code 1 = .ok (.invokespecial 1, 3) := by decide +kernel
theorem d3_4 : decode jdk_42_method_149_code 4 = .ok (.iload_n 3, 1) := by decide +kernel
theorem d3_5 : decode jdk_42_method_149_code 5 = .ok (.ifCond .ne 22, 3) := by decide +kernel
theorem d3_8 : decode jdk_42_method_149_code 8 = .ok (.aload_n 0, 1) := by decide +kernel
theorem d3_9 : decode jdk_42_method_149_code 9 = .ok (.ldc 7, 2) := by decide +kernel
theorem d3_11 : decode jdk_42_method_149_code 11 = .ok (.getfield 9, 3) := by decide +kernel
theorem d3_14 : decode jdk_42_method_149_code 14 = .ok (.putfield 9, 3) := by decide +kernel
theorem d3_17 : decode jdk_42_method_149_code 17 = .ok (.aload_n 0, 1) := by decide +kernel
theorem d3_18 : decode jdk_42_method_149_code 18 = .ok (.ldc 7, 2) := by decide +kernel
theorem d3_20 : decode jdk_42_method_149_code 20 = .ok (.getfield 15, 3) := by decide +kernel
theorem d3_23 : decode jdk_42_method_149_code 23 = .ok (.putfield 15, 3) := by decide +kernel
theorem d3_26 : decode jdk_42_method_149_code 26 = .ok (.return_, 1) := by decide +kernel
theorem d3_27 : decode jdk_42_method_149_code 27 = .ok (.getstatic 38, 3) := by decide +kernel
theorem d3_30 : decode jdk_42_method_149_code 30 = .ok (.ifCond .eq 28, 3) := by decide +kernel
theorem d3_33 : decode jdk_42_method_149_code 33 = .ok (.aload_n 1, 1) := by decide +kernel
theorem d3_34 : decode jdk_42_method_149_code 34 = .ok (.iload_n 2, 1) := by decide +kernel
theorem d3_35 : decode jdk_42_method_149_code 35 = .ok (.iload_n 3, 1) := by decide +kernel
theorem d3_36 : decode jdk_42_method_149_code 36 = .ok (.invokestatic 177, 3) := by decide +kernel
theorem d3_39 : decode jdk_42_method_149_code 39 = .ok (.astore 5, 2) := by decide +kernel
theorem d3_41 : decode jdk_42_method_149_code 41 = .ok (.aload_n 0, 1) := by decide +kernel
theorem d3_42 : decode jdk_42_method_149_code 42 = .ok (.aload 5, 2) := by decide +kernel
theorem d3_44 : decode jdk_42_method_149_code 44 = .ok (.iload_n 3, 1) := by decide +kernel
theorem d3_45 : decode jdk_42_method_149_code 45 = .ok (.invokestatic 47, 3) := by decide +kernel
theorem d3_48 : decode jdk_42_method_149_code 48 = .ok (.putfield 15, 3) := by decide +kernel
theorem d3_51 : decode jdk_42_method_149_code 51 = .ok (.aload_n 0, 1) := by decide +kernel
theorem d3_52 : decode jdk_42_method_149_code 52 = .ok (.aload 5, 2) := by decide +kernel
theorem d3_54 : decode jdk_42_method_149_code 54 = .ok (.putfield 9, 3) := by decide +kernel
theorem d3_57 : decode jdk_42_method_149_code 57 = .ok (.return_, 1) := by decide +kernel
theorem d3_58 : decode jdk_42_method_149_code 58 = .ok (.aload_n 0, 1) := by decide +kernel
theorem d3_59 : decode jdk_42_method_149_code 59 = .ok (.iconst 1, 1) := by decide +kernel
theorem d3_60 : decode jdk_42_method_149_code 60 = .ok (.putfield 15, 3) := by decide +kernel
theorem d3_63 : decode jdk_42_method_149_code 63 = .ok (.aload_n 0, 1) := by decide +kernel
theorem d3_64 : decode jdk_42_method_149_code 64 = .ok (.aload_n 1, 1) := by decide +kernel
theorem d3_65 : decode jdk_42_method_149_code 65 = .ok (.iload_n 2, 1) := by decide +kernel
theorem d3_66 : decode jdk_42_method_149_code 66 = .ok (.iload_n 3, 1) := by decide +kernel
theorem d3_67 : decode jdk_42_method_149_code 67 = .ok (.invokestatic 180, 3) := by decide +kernel
theorem d3_70 : decode jdk_42_method_149_code 70 = .ok (.putfield 9, 3) := by decide +kernel
theorem d3_73 : decode jdk_42_method_149_code 73 = .ok (.return_, 1) := by decide +kernel
theorem own_ef3_xxxxn (m : MethodId) (x0 : Addr) (x1 : Addr) (x2 : Int32) (x3 : Int32) : entryFrame m #[(.ref x0), (.ref x1), (.int x2), (.int x3), .null] 6 = mkF m 0 #[.val (.ref x0), .val (.ref x1), .val (.int x2), .val (.int x3), .val .null, .unset] [] := by first | (simp [entryFrame, mkF, argsToLocals, Value.category]; done) | rfl
set_option maxRecDepth 65536 in
set_option maxHeartbeats 40000000 in
theorem rmE4 (l : Launch) (Z : State) (a0 : Array Value) (hw : ∀ d ∈ tables_1, d.before a0 Z = true) (ws : List Jvm.Cond) (a : Addr) (ca : Addr) (of : Int32) (le : Int32)  (h0 : Heap) (n0 : Nat) (Z0 : n0 ≤ h0.size) (hEL : EW Z a0 EL) (wS : ∀ a ∈ Bundle.stringAtoms, a.before a0 Z = true) (hle : le = 0) (E7 : Exa Z h0 a "java/lang/String") (F1 : Fld Z h0 a "java/lang/String" "value" "[B" .null) (F2 : Fld Z h0 a "java/lang/String" "coder" "B" (.int (0 : Int32))) (ga : n0 ≤ a) :
    MetFree l (⟨"java/lang/String", "<init>", "([CIILjava/lang/Void;)V"⟩ : MethodName) (head1 (Jvm.Cond.code (⟨"java/lang/String", "<init>", "([CIILjava/lang/Void;)V"⟩ : MethodName) jdk_42_method_149_code 6 none :: ws) ({ frames := 1, cells := 4, slots := 8, locals := 12 } : Room)) (fun α U => α = #[(.ref a), (.ref ca), (.int of), (.int le), .null] ∧ Z.Warmed39 U.vm ∧ U.heap = h0 ∧ CHv Z EL U.vm h0) (fun _ _ _ _ _ => True) (fun _ U ω U' => ∃ ν Λ, ω = .returned ν ∧ QE Z a h0 n0 ν U'.heap Λ ∧ CHr Z EL U.vm U.heap U'.vm U'.heap ∧ ReturnedEndW U ω U' Λ ({ frames := 1, cells := 4, slots := 8, locals := 12 } : Room).cells ({ frames := 1, cells := 4, slots := 8, locals := 12 } : Room).slots) := by
  refine MetFree.of_bodySF (plainFor_of_name own_pn_java_lang_String) hisR ?_
  intro p e s m args below meth c s₁ Bd hml0 hP hK
  obtain ⟨rfl, hZ0, hh, CV0⟩ := hP
  have hZ : Z.Warmed39 (s.setVm s.vm).vm := hZ0
  have hx := Bd.exec
  have hby := Bd.bytes
  have hml : c.maxLocals = 6 := hml0
  have hown : (s.setVm s.vm).vm.findClass "java/lang/String" = some m.cls := findClass_of_methodNamed Bd.named
  have hnm := (name_of_methodNamed Bd.named Bd.method).1
  have X0 : Stand p l e ({ frames := 1, cells := 4, slots := 8, locals := 12 } : Room) (s.setVm s.vm) m #[(.ref a), (.ref ca), (.int of), (.int le), .null] below meth c s₁ [] 0 0 := Stand.of_body Bd
  have e0 : s₁.heap = h0 := by rw [← hh, Bd.state]; rfl
  have N0 := Fr.nil n0
  have KK0 : Keep h0 h0 [a] := Keep.refl h0 [a]
  have hS0 : s.Since s.vm h0.size := (State.WarmedH.refl s).since _
  have hk0 : h0.size ≤ h0.size := Nat.le_refl _
  have CT0 := CHr.refl CV0
  have CM0 := CHr.refl CV0
  obtain ⟨PS, hPS⟩ : ∃ P : State → Prop, P = fun τ => Steps p.tables e below (s₁.setTop (entryFrame m #[(.ref a), (.ref ca), (.int of), (.int le), .null] 6)) τ := ⟨_, rfl⟩
  have pre0 : ∀ τ, Steps p.tables e below (s₁.setTop (mkF m 0 #[.val (.ref a), .val (.ref ca), .val (.int of), .val (.int le), .val .null, .unset] [])) τ → PS τ := by rw [hPS]; exact fun τ κ => castTop (own_ef3_xxxxn m a ca of le) κ
  have sf_a : Safe Z EL (s.setVm s.vm).vm h0 a := own_safe_null hZ.alike E7 F1
  obtain ⟨T190, X190, e190, st190⟩ := initO X0 hx hZ hown (own_W15 hw) (own_W16 hw) (own_W17 hw) e0 (g := (mkF m 1 #[.val (.ref a), .val (.ref ca), .val (.int of), .val (.int le), .val .null, .unset] [(.ref a)])) rfl (by rw [hml]; rfl) rfl (Jvm.hb hby d3_1) (by decide) (W := 0) (by show 2 * 0 + _ ≤ _; exact Nat.le_of_eq rfl) (by decide)
  have pre191 := fun (τ : State) kt => pre0 τ (by
    show Steps p.tables e below (s₁.setTop (mkF m 0 #[.val (.ref a), .val (.ref ca), .val (.int of), .val (.int le), .val .null, .unset] [])) τ
    refine XS.aloadN X0.here hx rfl (Jvm.hb hby d3_0) rfl rfl ?_
    exact st190 τ kt)
  obtain ⟨x1, T192, h192, k192, b192, kb192, X192, e192, E192, hS192, hk192, hZ, hown, A192, fc192, fv192, V192, lt192, ltb192, C192, -, ne192, st192⟩ := ldcCH X190 hx hZ hown (own_W34 hw) wS e190 hS0 (Nat.le_trans hk0 CM0.2.1) hEL (by decide) CM0.1 (vs := []) (z := (0 : Int32)) ⟨by decide, rfl⟩ (by decide) rfl (g := (mkF m 9 #[.val (.ref a), .val (.ref ca), .val (.int of), .val (.int le), .val .null, .unset] [(.ref a)])) rfl (Jvm.hb hby d3_9) (n := 0) (by decide) (by decide) (by decide) (by decide)
  have K192 : Keep h0 h192 [a] := KK0.ext E192
  have CT192 := (CT0.trans CM0).trans C192
  have sf192_a := C192.safe E7.lt sf_a
  have CM192 := CHr.refl C192.1
  have ne_a_x1 : a ≠ x1 := (ne192 a sf192_a).1
  have ne_a_b192 : a ≠ b192 := (ne192 a sf192_a).2
  have pre193 := fun (τ : State) kt => pre191 τ (by
    show Steps p.tables e below (T190.setTop (mkF m 4 #[.val (.ref a), .val (.ref ca), .val (.int of), .val (.int le), .val .null, .unset] [])) τ
    refine XS.iloadN X190.here hx rfl (Jvm.hb hby d3_4) rfl ?_
    refine XS.ifNo X190.here hx rfl (Jvm.hb hby d3_5) rfl ((if0 _ _).trans (teq hle).2) ?_
    refine XS.aloadN X190.here hx rfl (Jvm.hb hby d3_8) rfl rfl ?_
    exact st192 τ kt)
  obtain ⟨T194, X194, e194, st194⟩ := getF X192 hx hZ hown (host := "") (Or.inl (own_W32 hw)) Via.refl e192 fv192 (g := (mkF m 11 #[.val (.ref a), .val (.ref ca), .val (.int of), .val (.int le), .val .null, .unset] [(.ref x1), (.ref a)])) rfl rfl (Jvm.hb hby d3_11)
  have pre195 := fun (τ : State) kt => pre193 τ (st194 τ kt)
  have f197 := F1.ext E192
  have f198 := E7.ext E192
  obtain ⟨T196, h196, X196, e196, W196, st196⟩ := putF X194 hx hZ hown (host := "") (Or.inl (own_W32 hw)) Via.refl e194 f197 f198 (Or.inr ⟨(own_W33 hw), rfl, hnm⟩) (own_W5 hw) (ty := (.array .byte)) (by decide) rfl rfl (g := (mkF m 14 #[.val (.ref a), .val (.ref ca), .val (.int of), .val (.int le), .val .null, .unset] [(.ref b192), (.ref a)])) rfl rfl (Jvm.hb hby d3_14)
  have fw196 := Fld.same W196 f197
  have N196 := Fr.snoc X196 N0 ga
  have K196 : Keep h0 h196 [a] := K192.wr W196 (Or.inl (by simp))
  have pre199 := fun (τ : State) kt => pre195 τ (st196 τ kt)
  have CM196 := CM192.trans (CHr.wr W196 sf192_a CM192.1)
  have sf196_a := Safe.wr W196 sf192_a CM192.1 sf192_a
  have f201 := f198.wr W196
  obtain ⟨x2, T200, h200, k200, b200, kb200, X200, e200, E200, hS200, hk200, hZ, hown, A200, fc200, fv200, V200, lt200, ltb200, C200, -, ne200, st200⟩ := ldcCH X196 hx hZ hown (own_W34 hw) wS e196 hS192 (Nat.le_trans hk192 CM196.2.1) hEL (by decide) CM196.1 (vs := []) (z := (0 : Int32)) ⟨by decide, rfl⟩ (by decide) rfl (g := (mkF m 18 #[.val (.ref a), .val (.ref ca), .val (.int of), .val (.int le), .val .null, .unset] [(.ref a)])) rfl (Jvm.hb hby d3_18) (n := 0) (by decide) (by decide) (by decide) (by decide)
  have K200 : Keep h0 h200 [a] := K196.ext E200
  have CT200 := (CT192.trans CM196).trans C200
  have sf200_a := C200.safe f201.lt sf196_a
  have CM200 := CHr.refl C200.1
  have ne_a_x2 : a ≠ x2 := (ne200 a sf200_a).1
  have ne_a_b200 : a ≠ b200 := (ne200 a sf200_a).2
  have pre202 := fun (τ : State) kt => pre199 τ (by
    show Steps p.tables e below (T196.setTop (mkF m 17 #[.val (.ref a), .val (.ref ca), .val (.int of), .val (.int le), .val .null, .unset] [])) τ
    refine XS.aloadN X196.here hx rfl (Jvm.hb hby d3_17) rfl rfl ?_
    exact st200 τ kt)
  obtain ⟨T203, X203, e203, st203⟩ := getF X200 hx hZ hown (host := "") (Or.inl (own_W30 hw)) Via.refl e200 fc200 (g := (mkF m 20 #[.val (.ref a), .val (.ref ca), .val (.int of), .val (.int le), .val .null, .unset] [(.ref x2), (.ref a)])) rfl rfl (Jvm.hb hby d3_20)
  have pre204 := fun (τ : State) kt => pre202 τ (st203 τ kt)
  have f206 := F2.ext E192
  have f207 := (f206.other W196 (Or.inr (slot_ne (Or.inr (own_W31 hw)) (Or.inr (own_W33 hw)) (by decide) (t := .byte) (t' := (.array .byte)) (by decide) (by decide))))
  have f208 := f207.ext E200
  have f209 := f201.ext E200
  obtain ⟨T205, h205, X205, e205, W205, st205⟩ := putFN X203 hx hZ hown (own_W30 hw) Via.refl e203 f208 f209 (Or.inr ⟨(own_W31 hw), rfl, hnm⟩) (own_W5 hw) (ty := .byte) (v' := (.int (nar .byte (0 : Int32)))) (by decide) rfl (fits_nar_byte _) (g := (mkF m 23 #[.val (.ref a), .val (.ref ca), .val (.int of), .val (.int le), .val .null, .unset] [(.int (0 : Int32)), (.ref a)])) rfl rfl (Jvm.hb hby d3_23)
  have fw205 := Fld.same W205 f208
  have N205 := Fr.snoc X205 N196 ga
  have K205 : Keep h0 h205 [a] := K200.wr W205 (Or.inl (by simp))
  have pre210 := fun (τ : State) kt => pre204 τ (st205 τ kt)
  have CM205 := CM200.trans (CHr.wr W205 sf200_a CM200.1)
  have sf205_a := Safe.wr W205 sf200_a CM200.1 sf200_a
  have f211 := fw196.ext E200
  have f212 := (f211.other W205 (Or.inr (slot_ne (Or.inr (own_W33 hw)) (Or.inr (own_W31 hw)) (by decide) (t := (.array .byte)) (t' := .byte) (by decide) (by decide))))
  have f213 := V192.other W196 (Ne.symm ne_a_b192)
  have f214 := f213.ext E200
  have f215 := f214.other W205 (Ne.symm ne_a_b192)
  have eE : T205.heap = h205 := e205
  obtain ⟨fs, hrL, hrun, hended, hRE⟩ := X205.leaveW hS200 (Nat.le_trans (Nat.le_trans hk200 CM205.2.1) (Nat.le_of_eq (congrArg Array.size eE.symm))) (v := none) (fun _ => rfl)
  refine ⟨_, _, cast (congrFun hPS _) (pre210 _ ?_), hrun, hended, _, _, rfl, ?_, ?_, hRE.1, hRE.2.1, hRE.2.2.1, hRE.2.2.2.mono (by decide) (by decide)⟩
  · show Steps p.tables e below (T205.setTop (mkF m 26 #[.val (.ref a), .val (.ref ca), .val (.int of), .val (.int le), .val .null, .unset] [])) _
    exact X205.returnOut hx Bd.returns (Jvm.hb hby d3_26) hrL
  · show QE Z a h0 n0 _ T205.heap _
    rw [e205]
    exact ⟨b192, kb192, rfl, N205, K205, fw205, f212, f215⟩
  · show CHr Z EL s.vm s.heap T205.vm T205.heap
    rw [hh, eE]
    exact (CT200.trans CM205).trans (CHv.at X205 hZ hEL CM205.1)
theorem d2_0 : decode jdk_42_method_3_code 0 = .ok (.aload_n 0, 1) := by decide +kernel
theorem d2_1 : decode jdk_42_method_3_code 1 = .ok (.aload_n 1, 1) := by decide +kernel
theorem d2_2 : decode jdk_42_method_3_code 2 = .ok (.iconst 0, 1) := by decide +kernel
theorem d2_3 : decode jdk_42_method_3_code 3 = .ok (.aload_n 1, 1) := by decide +kernel
theorem d2_4 : decode jdk_42_method_3_code 4 = .ok (.arraylength, 1) := by decide +kernel
theorem d2_5 : decode jdk_42_method_3_code 5 = .ok (.aconst_null, 1) := by decide +kernel
theorem d2_6 : decode jdk_42_method_3_code 6 = .ok (.invokespecial 27, 3) := by decide +kernel
theorem d2_9 : decode jdk_42_method_3_code 9 = .ok (.return_, 1) := by decide +kernel
theorem own_ef2 (m : MethodId) (x0 : Addr) (x1 : Addr) : entryFrame m #[(.ref x0), (.ref x1)] 2 = mkF m 0 #[.val (.ref x0), .val (.ref x1)] [] := by first | (simp [entryFrame, mkF, argsToLocals, Value.category]; done) | rfl
set_option maxRecDepth 65536 in
set_option maxHeartbeats 40000000 in
theorem rmE1 (l : Launch) (Z : State) (a0 : Array Value) (hw : ∀ d ∈ tables_1, d.before a0 Z = true) (ws : List Jvm.Cond) (a : Addr) (ca : Addr) (kc : ClassId) (h0 : Heap) (n0 : Nat) (Z0 : n0 ≤ h0.size) (hEL : EW Z a0 EL) (wS : ∀ a ∈ Bundle.stringAtoms, a.before a0 Z = true) (E7 : Exa Z h0 a "java/lang/String") (F1 : Fld Z h0 a "java/lang/String" "value" "[B" .null) (F2 : Fld Z h0 a "java/lang/String" "coder" "B" (.int (0 : Int32))) (ga : n0 ≤ a) (V1 : Arv Z h0 ca kc .char (0 : Int32) [] (.int (0 : Int32))) :
    MetFree l (⟨"java/lang/String", "<init>", "([C)V"⟩ : MethodName) (head1 (Jvm.Cond.code (⟨"java/lang/String", "<init>", "([C)V"⟩ : MethodName) jdk_42_method_3_code 2 none :: ws) ({ frames := 2, cells := 4, slots := 8, locals := 29 } : Room)) (fun α U => α = #[(.ref a), (.ref ca)] ∧ Z.Warmed39 U.vm ∧ U.heap = h0 ∧ CHv Z EL U.vm h0) (fun _ _ _ _ _ => True) (fun _ U ω U' => ∃ ν Λ, ω = .returned ν ∧ QE Z a h0 n0 ν U'.heap Λ ∧ CHr Z EL U.vm U.heap U'.vm U'.heap ∧ ReturnedEndW U ω U' Λ ({ frames := 2, cells := 4, slots := 8, locals := 29 } : Room).cells ({ frames := 2, cells := 4, slots := 8, locals := 29 } : Room).slots) := by
  refine MetFree.of_bodySF (plainFor_of_name own_pn_java_lang_String) hisR ?_
  intro p e s m args below meth c s₁ Bd hml0 hP hK
  obtain ⟨rfl, hZ0, hh, CV0⟩ := hP
  have hZ : Z.Warmed39 (s.setVm s.vm).vm := hZ0
  have hx := Bd.exec
  have hby := Bd.bytes
  have hml : c.maxLocals = 2 := hml0
  have hown : (s.setVm s.vm).vm.findClass "java/lang/String" = some m.cls := findClass_of_methodNamed Bd.named
  have hnm := (name_of_methodNamed Bd.named Bd.method).1
  have X0 : Stand p l e ({ frames := 2, cells := 4, slots := 8, locals := 29 } : Room) (s.setVm s.vm) m #[(.ref a), (.ref ca)] below meth c s₁ [] 0 0 := Stand.of_body Bd
  have e0 : s₁.heap = h0 := by rw [← hh, Bd.state]; rfl
  have N0 := Fr.nil n0
  have KK0 : Keep h0 h0 [a] := Keep.refl h0 [a]
  have hS0 : s.Since s.vm h0.size := (State.WarmedH.refl s).since _
  have hk0 : h0.size ≤ h0.size := Nat.le_refl _
  have CT0 := CHr.refl CV0
  have CM0 := CHr.refl CV0
  obtain ⟨PS, hPS⟩ : ∃ P : State → Prop, P = fun τ => Steps p.tables e below (s₁.setTop (entryFrame m #[(.ref a), (.ref ca)] 2)) τ := ⟨_, rfl⟩
  have pre0 : ∀ τ, Steps p.tables e below (s₁.setTop (mkF m 0 #[.val (.ref a), .val (.ref ca)] [])) τ → PS τ := by rw [hPS]; exact fun τ κ => castTop (own_ef2 m a ca) κ
  obtain ⟨cl216, Ar216, q216, S216, M216, H216, U216⟩ := id V1
  have pre217 := fun (τ : State) kt => pre0 τ (by
    show Steps p.tables e below (s₁.setTop (mkF m 0 #[.val (.ref a), .val (.ref ca)] [])) τ
    refine XS.aloadN X0.here hx rfl (Jvm.hb hby d2_0) rfl rfl ?_
    refine XS.aloadN X0.here hx rfl (Jvm.hb hby d2_1) rfl rfl ?_
    refine XS.iconst X0.here hx rfl (Jvm.hb hby d2_2) ?_
    refine XS.aloadN X0.here hx rfl (Jvm.hb hby d2_3) rfl rfl ?_
    refine X0.arraylength hx ((congrArg (fun (HH : Heap) => HH[ca]?) (e0 : s₁.heap = h0)).trans Ar216.1) (State.isArrayOf_alike hZ.alike Ar216.2.1) (g := (mkF m 4 #[.val (.ref a), .val (.ref ca)] [(.ref ca), (.int (0 : Int32)), (.ref ca), (.ref a)])) rfl rfl (Jvm.hb hby d2_4) _ ?_
    exact kt)
  have pre218 : ∀ τ, Steps p.tables e below (s₁.setTop (mkF m 5 #[.val (.ref a), .val (.ref ca)] [(.int (0 : Int32)), (.int (0 : Int32)), (.ref ca), (.ref a)])) τ → PS τ := by
    have hq := pre217
    rw [len_of S216 M216] at hq
    exact hq
  obtain ⟨_, T219, L219, k219, X219, ⟨b7, kb7, rfl, Nq219, Kq219, f1, f2, f3⟩, hS219, hk219, hZ, hown, C219, st219⟩ := own_specH (y := own_mn18) (b := a) X0 hx hZ rfl hown (own_W11 hw) (own_W12 hw) (by decide) (rmE4 l Z a0 hw [] a ca (0 : Int32) (0 : Int32) h0 n0 (Nat.le_trans Z0 KK0.1) hEL wS rfl E7 F1 F2 ga) (own_W14 hw) (own_W6 hw) 0 (by decide) (by decide) hS0 (Nat.le_trans hk0 CM0.2.1) hEL CM0.1 e0 (mkF m 6 #[.val (.ref a), .val (.ref ca)] [.null, (.int (0 : Int32)), (.int (0 : Int32)), (.ref ca), (.ref a)]) rfl (by rw [hml]; rfl) [(.ref ca), (.int (0 : Int32)), (.int (0 : Int32)), .null] [] rfl (lenOf own_pd___CIILjava_lang_Void__V rfl) rfl (Nat.le_refl _) (Jvm.hb hby d2_6) (by decide) (by decide)
  have N219 := Fr.app N0 Nq219
  have K219 : Keep h0 T219.heap [a] := KK0.trans Kq219 (allS (Or.inl (by simp)) (all0))
  have pre220 := fun (τ : State) kt => pre218 τ (by
    show Steps p.tables e below (s₁.setTop (mkF m 5 #[.val (.ref a), .val (.ref ca)] [(.int (0 : Int32)), (.int (0 : Int32)), (.ref ca), (.ref a)])) τ
    refine XS.aconstNull X0.here hx rfl (Jvm.hb hby d2_5) ?_
    exact st219 τ kt)
  have CT219 := (CT0.trans CM0).trans C219
  have CM219 := CHr.refl C219.1
  have eE : T219.heap = T219.heap := rfl
  obtain ⟨fs, hrL, hrun, hended, hRE⟩ := X219.leaveW hS219 (Nat.le_trans (Nat.le_trans hk219 CM219.2.1) (Nat.le_of_eq (congrArg Array.size eE.symm))) (v := none) (fun _ => rfl)
  refine ⟨_, _, cast (congrFun hPS _) (pre220 _ ?_), hrun, hended, _, _, rfl, ?_, ?_, hRE.1, hRE.2.1, hRE.2.2.1, hRE.2.2.2.mono (by decide) (by decide)⟩
  · show Steps p.tables e below (T219.setTop (mkF m 9 #[.val (.ref a), .val (.ref ca)] [])) _
    exact X219.returnOut hx Bd.returns (Jvm.hb hby d2_9) hrL
  · show QE Z a h0 n0 _ T219.heap _
    exact ⟨b7, kb7, rfl, N219, K219, f1, f2, f3⟩
  · show CHr Z EL s.vm s.heap T219.vm T219.heap
    rw [hh, eE]
    exact (CT219.trans CM219).trans (CHv.at X219 hZ hEL CM219.1)
theorem d1_0 : decode method_2_code 0 = .ok (.iload_n 0, 1) := by decide +kernel
theorem d1_1 : decode method_2_code 1 = .ok (.ifCond .ne 14, 3) := by decide +kernel
theorem d1_4 : decode method_2_code 4 = .ok (.new 7, 3) := by decide +kernel
theorem d1_7 : decode method_2_code 7 = .ok (.dup, 1) := by decide +kernel
theorem d1_8 : decode method_2_code 8 = .ok (.iconst 0, 1) := by decide +kernel
theorem d1_9 : decode method_2_code 9 = .ok (.newarray .char, 2) := by decide +kernel
theorem d1_11 : decode method_2_code 11 = .ok (.invokespecial 9, 3) := by decide +kernel
theorem d1_14 : decode method_2_code 14 = .ok (.areturn, 1) := by decide +kernel
theorem d1_15 : decode method_2_code 15 = .ok (.iload_n 0, 1) := by decide +kernel
theorem d1_16 : decode method_2_code 16 = .ok (.iconst 1, 1) := by decide +kernel
theorem d1_17 : decode method_2_code 17 = .ok (.if_icmp .ne 18, 3) := by decide +kernel
theorem d1_20 : decode method_2_code 20 = .ok (.new 7, 3) := by decide +kernel
theorem d1_23 : decode method_2_code 23 = .ok (.dup, 1) := by decide +kernel
theorem d1_24 : decode method_2_code 24 = .ok (.iconst 1, 1) := by decide +kernel
theorem d1_25 : decode method_2_code 25 = .ok (.newarray .char, 2) := by decide +kernel
theorem d1_27 : decode method_2_code 27 = .ok (.dup, 1) := by decide +kernel
theorem d1_28 : decode method_2_code 28 = .ok (.iconst 0, 1) := by decide +kernel
theorem d1_29 : decode method_2_code 29 = .ok (.iload_n 1, 1) := by decide +kernel
theorem d1_30 : decode method_2_code 30 = .ok (.castore, 1) := by decide +kernel
theorem d1_31 : decode method_2_code 31 = .ok (.invokespecial 9, 3) := by decide +kernel
theorem d1_34 : decode method_2_code 34 = .ok (.areturn, 1) := by decide +kernel
theorem d1_35 : decode method_2_code 35 = .ok (.new 7, 3) := by decide +kernel
theorem d1_38 : decode method_2_code 38 = .ok (.dup, 1) := by decide +kernel
theorem d1_39 : decode method_2_code 39 = .ok (.iconst 2, 1) := by decide +kernel
theorem d1_40 : decode method_2_code 40 = .ok (.newarray .char, 2) := by decide +kernel
theorem d1_42 : decode method_2_code 42 = .ok (.dup, 1) := by decide +kernel
theorem d1_43 : decode method_2_code 43 = .ok (.iconst 0, 1) := by decide +kernel
theorem d1_44 : decode method_2_code 44 = .ok (.iload_n 1, 1) := by decide +kernel
theorem d1_45 : decode method_2_code 45 = .ok (.castore, 1) := by decide +kernel
theorem d1_46 : decode method_2_code 46 = .ok (.dup, 1) := by decide +kernel
theorem d1_47 : decode method_2_code 47 = .ok (.iconst 1, 1) := by decide +kernel
theorem d1_48 : decode method_2_code 48 = .ok (.iload_n 2, 1) := by decide +kernel
theorem d1_49 : decode method_2_code 49 = .ok (.castore, 1) := by decide +kernel
theorem d1_50 : decode method_2_code 50 = .ok (.invokespecial 9, 3) := by decide +kernel
theorem d1_53 : decode method_2_code 53 = .ok (.areturn, 1) := by decide +kernel
theorem own_pn_com_example_incomewright_incomewright_casefile_ProblemToStringPinLaw : plainName "com/example/incomewright/incomewright/casefile/ProblemToStringPinLaw" = true := by first | (simp [plainName, overriddenIn]; done) | decide +kernel
theorem own_ef1 (m : MethodId) (x0 : Int32) (x1 : Int32) (x2 : Int32) : entryFrame m #[(.int x0), (.int x1), (.int x2)] 3 = mkF m 0 #[.val (.int x0), .val (.int x1), .val (.int x2)] [] := by first | (simp [entryFrame, mkF, argsToLocals, Value.category]; done) | rfl
set_option maxRecDepth 65536 in
set_option maxHeartbeats 40000000 in
theorem rmStr (l : Launch) (Z : State) (a0 : Array Value) (hw : ∀ d ∈ tables_1, d.before a0 Z = true) (ws : List Jvm.Cond) (n : Int32) (c0 : Int32) (c1 : Int32) (cz : Int32)  (h0 : Heap) (n0 : Nat) (Z0 : n0 ≤ h0.size) (hEL : EW Z a0 EL) (wS : ∀ a ∈ Bundle.stringAtoms, a.before a0 Z = true) (hn : own_012 n) (hc0 : own_c8 c0) (hc1 : own_c8 c1) (O2 : Sta Z Z.heap "java/lang/String" "COMPACT_STRINGS" "Z" (.int cz)) (P5 : ¬ cz = 0) (OLD0 : Old Z n0 h0) :
    MetFree l (⟨"com/example/incomewright/incomewright/casefile/ProblemToStringPinLaw", "str", "(ICC)Ljava/lang/String;"⟩ : MethodName) (head1 (Jvm.Cond.code (⟨"com/example/incomewright/incomewright/casefile/ProblemToStringPinLaw", "str", "(ICC)Ljava/lang/String;"⟩ : MethodName) method_2_code 3 (some (.object "java/lang/String")) :: ws) ({ frames := 5, cells := 6, slots := 14, locals := 85 } : Room)) (fun α U => α = #[(.int n), (.int c0), (.int c1)] ∧ Z.Warmed39 U.vm ∧ U.heap = h0 ∧ CHv Z EL U.vm h0) (fun _ _ _ _ _ => True) (fun _ U ω U' => ∃ ν Λ, ω = .returned ν ∧ QT Z [.int (own_b c0), .int (own_b c1)] n h0 n0 ν U'.heap Λ ∧ CHr Z EL U.vm U.heap U'.vm U'.heap ∧ ReturnedEndW U ω U' Λ ({ frames := 5, cells := 6, slots := 14, locals := 85 } : Room).cells ({ frames := 5, cells := 6, slots := 14, locals := 85 } : Room).slots) := by
  refine MetFree.of_bodySF (plainFor_of_name own_pn_com_example_incomewright_incomewright_casefile_ProblemToStringPinLaw) hisR ?_
  intro p e s m args below meth c s₁ Bd hml0 hP hK
  obtain ⟨rfl, hZ0, hh, CV0⟩ := hP
  have hZ : Z.Warmed39 (s.setVm s.vm).vm := hZ0
  have hx := Bd.exec
  have hby := Bd.bytes
  have hml : c.maxLocals = 3 := hml0
  have hown : (s.setVm s.vm).vm.findClass "com/example/incomewright/incomewright/casefile/ProblemToStringPinLaw" = some m.cls := findClass_of_methodNamed Bd.named
  have hnm := (name_of_methodNamed Bd.named Bd.method).1
  have X0 : Stand p l e ({ frames := 5, cells := 6, slots := 14, locals := 85 } : Room) (s.setVm s.vm) m #[(.int n), (.int c0), (.int c1)] below meth c s₁ [] 0 0 := Stand.of_body Bd
  have e0 : s₁.heap = h0 := by rw [← hh, Bd.state]; rfl
  have N0 := Fr.nil n0
  have KK0 : Keep h0 h0 [] := Keep.refl h0 []
  have hS0 : s.Since s.vm h0.size := (State.WarmedH.refl s).since _
  have hk0 : h0.size ≤ h0.size := Nat.le_refl _
  have CT0 := CHr.refl CV0
  have CM0 := CHr.refl CV0
  obtain ⟨PS, hPS⟩ : ∃ P : State → Prop, P = fun τ => Steps p.tables e below (s₁.setTop (entryFrame m #[(.int n), (.int c0), (.int c1)] 3)) τ := ⟨_, rfl⟩
  have pre0 : ∀ τ, Steps p.tables e below (s₁.setTop (mkF m 0 #[.val (.int n), .val (.int c0), .val (.int c1)] [])) τ → PS τ := by rw [hPS]; exact fun τ κ => castTop (own_ef1 m n c0 c1) κ
  have pre221 := fun (τ : State) kt => pre0 τ (by
    show Steps p.tables e below (s₁.setTop (mkF m 0 #[.val (.int n), .val (.int c0), .val (.int c1)] [])) τ
    refine XS.iloadN X0.here hx rfl (Jvm.hb hby d1_0) rfl ?_
    exact kt)
  by_cases q0 : n = (0 : Int32)
  · skip
    obtain ⟨T222, h222, X222, e222, E222, A222, D222, -, st222⟩ := newO X0 hx hZ hown (own_W4 hw) (own_W5 hw) (own_W6 hw) e0 (g := (mkF m 4 #[.val (.int n), .val (.int c0), .val (.int c1)] [])) rfl (Jvm.hb hby d1_4) (by decide) (by decide)
    obtain ⟨so, g222⟩ : ∃ z, z = h0.size := ⟨_, rfl⟩
    rw [← g222] at A222 D222 st222
    have g_so : n0 ≤ so := Nat.le_trans (Nat.le_trans Z0 KK0.1) (Nat.le_of_eq g222.symm)
    have sz_so : h0.size ≤ so := Nat.le_trans KK0.1 (Nat.le_of_eq g222.symm)
    have K222 : Keep h0 h222 [] := KK0.ext E222
    have F_coder_so : Fld Z h222 so "java/lang/String" "coder" "B" (.int (0 : Int32)) := D222 (Or.inr (own_W31 hw)) (ty := .byte) (by decide)
    have F_value_so : Fld Z h222 so "java/lang/String" "value" "[B" .null := D222 (Or.inr (own_W33 hw)) (ty := (.array .byte)) (by decide)
    have pre223 := fun (τ : State) kt => pre221 τ (by
      show Steps p.tables e below (s₁.setTop (mkF m 1 #[.val (.int n), .val (.int c0), .val (.int c1)] [(.int n)])) τ
      refine XS.ifNo X0.here hx rfl (Jvm.hb hby d1_1) rfl ((if0 _ _).trans (teq q0).2) ?_
      exact st222 τ kt)
    have CM222 := CM0.trans (CHr.ext E222 CM0.1)
    obtain ⟨T224, h224, k224, X224, e224, E224, A224, st224⟩ := newP (aty := .char) X222 hx hZ (own_W7 hw) e222 (g := (mkF m 9 #[.val (.int n), .val (.int c0), .val (.int c1)] [(.int (0 : Int32)), (.ref so), (.ref so)])) rfl (Jvm.hb hby d1_9) rfl (by decide) (cap := 0) (by decide) (by decide) (by decide) (by decide)
    obtain ⟨ca, g224⟩ : ∃ z, z = h222.size := ⟨_, rfl⟩
    rw [← g224] at A224 st224
    have ne_so_ca : so ≠ ca := Nat.ne_of_lt (Nat.lt_of_lt_of_le A222.lt (Nat.le_of_eq g224.symm))
    have g_ca : n0 ≤ ca := Nat.le_trans (Nat.le_trans Z0 K222.1) (Nat.le_of_eq g224.symm)
    have sz_ca : h0.size ≤ ca := Nat.le_trans K222.1 (Nat.le_of_eq g224.symm)
    have K224 : Keep h0 h224 [] := K222.ext E224
    have V_ca : Arv Z h224 ca k224 .char (0 : Int32) [] (.int (0 : Int32)) := (Arv.new A224 (by decide)).pad (pad_rep [] (.int (0 : Int32)) 0)
    have pre225 := fun (τ : State) kt => pre223 τ (by
      show Steps p.tables e below (T222.setTop (mkF m 7 #[.val (.int n), .val (.int c0), .val (.int c1)] [(.ref so)])) τ
      refine XS.dup X222.here hx rfl (Jvm.hb hby d1_7) rfl rfl ?_
      refine XS.iconst X222.here hx rfl (Jvm.hb hby d1_8) ?_
      exact st224 τ kt)
    have CM224 := CM222.trans (CHr.ext E224 CM222.1)
    have f226 := A222.ext E224
    have f227 := F_value_so.ext E224
    have f228 := F_coder_so.ext E224
    obtain ⟨_, T229, L229, k229, X229, ⟨b7, kb7, rfl, Nq229, Kq229, f1, f2, f3⟩, hS229, hk229, hZ, hown, C229, st229⟩ := own_specH (y := own_mn19) (b := so) X224 hx hZ rfl hown (own_W8 hw) (own_W9 hw) (by decide) (rmE1 l Z a0 hw [] so ca k224 h224 n0 (Nat.le_trans Z0 K224.1) hEL wS f226 f227 f228 g_so V_ca) (own_W10 hw) (own_W6 hw) 1 (by decide) (by decide) hS0 (Nat.le_trans hk0 CM224.2.1) hEL CM224.1 e224 (mkF m 11 #[.val (.int n), .val (.int c0), .val (.int c1)] [(.ref ca), (.ref so), (.ref so)]) rfl (by rw [hml]; rfl) [(.ref ca)] [(.ref so)] rfl (lenOf own_pd___C_V rfl) rfl (Nat.le_refl _) (Jvm.hb hby d1_11) (by decide) (by decide)
    have N229 := Fr.app N0 Nq229
    have K229 : Keep h0 T229.heap [] := K224.trans Kq229 (allS (Or.inr sz_so) (all0))
    have pre230 := fun (τ : State) kt => pre225 τ (st229 τ kt)
    have CT229 := (CT0.trans CM224).trans C229
    have CM229 := CHr.refl C229.1
    have f231 := f226.keep Kq229
    have eE : T229.heap = T229.heap := rfl
    obtain ⟨fs, hrL, hrun, hended, hRE⟩ := X229.leaveW hS229 (Nat.le_trans (Nat.le_trans hk229 CM229.2.1) (Nat.le_of_eq (congrArg Array.size eE.symm))) (v := some (.ref so)) (fun h => by rw [Bd.returns] at h; cases h)
    refine ⟨_, _, cast (congrFun hPS _) (pre230 _ ?_), hrun, hended, _, _, rfl, ?_, ?_, hRE.1, hRE.2.1, hRE.2.2.1, hRE.2.2.2.mono (by decide) (by decide)⟩
    · show Steps p.tables e below (T229.setTop (mkF m 14 #[.val (.int n), .val (.int c0), .val (.int c1)] [(.ref so)])) _
      exact retOut X229 hx Bd.returns rfl (Or.inr (Or.inr (Or.inr (Or.inr ⟨rfl, rfl, rfl⟩)))) (Jvm.hb hby d1_14) hrL
    · show QT Z [.int (own_b c0), .int (own_b c1)] n h0 n0 _ T229.heap _
      subst q0
      exact ⟨N229, K229, so, b7, kb7, rfl, f231, f1, f2, own_arv f3 (fun i hi => absurd hi (by rw [show (0 : Int32).toNatClampNeg = 0 by decide]; omega))⟩
    · show CHr Z EL s.vm s.heap T229.vm T229.heap
      rw [hh, eE]
      exact (CT229.trans CM229).trans (CHv.at X229 hZ hEL CM229.1)
  · skip
    have pre232 := fun (τ : State) kt => pre221 τ (by
      show Steps p.tables e below (s₁.setTop (mkF m 1 #[.val (.int n), .val (.int c0), .val (.int c1)] [(.int n)])) τ
      refine XS.ifYes X0.here hx rfl (pc0 := 1) (pc' := 15) rfl (Jvm.hb hby d1_1) rfl ((if0 _ _).trans (feq q0).2) (by decide) (by decide) ?_
      refine XS.iloadN X0.here hx rfl (Jvm.hb hby d1_15) rfl ?_
      refine XS.iconst X0.here hx rfl (Jvm.hb hby d1_16) ?_
      exact kt)
    by_cases q1 : n = (1 : Int32)
    · skip
      obtain ⟨T233, h233, X233, e233, E233, A233, D233, -, st233⟩ := newO X0 hx hZ hown (own_W4 hw) (own_W5 hw) (own_W6 hw) e0 (g := (mkF m 20 #[.val (.int n), .val (.int c0), .val (.int c1)] [])) rfl (Jvm.hb hby d1_20) (by decide) (by decide)
      obtain ⟨so, g233⟩ : ∃ z, z = h0.size := ⟨_, rfl⟩
      rw [← g233] at A233 D233 st233
      have g_so : n0 ≤ so := Nat.le_trans (Nat.le_trans Z0 KK0.1) (Nat.le_of_eq g233.symm)
      have sz_so : h0.size ≤ so := Nat.le_trans KK0.1 (Nat.le_of_eq g233.symm)
      have K233 : Keep h0 h233 [] := KK0.ext E233
      have F_coder_so : Fld Z h233 so "java/lang/String" "coder" "B" (.int (0 : Int32)) := D233 (Or.inr (own_W31 hw)) (ty := .byte) (by decide)
      have F_value_so : Fld Z h233 so "java/lang/String" "value" "[B" .null := D233 (Or.inr (own_W33 hw)) (ty := (.array .byte)) (by decide)
      have pre234 := fun (τ : State) kt => pre232 τ (by
        show Steps p.tables e below (s₁.setTop (mkF m 17 #[.val (.int n), .val (.int c0), .val (.int c1)] [(.int (1 : Int32)), (.int n)])) τ
        refine XS.icmpNo X0.here hx rfl (Jvm.hb hby d1_17) rfl (teq q1).2 ?_
        exact st233 τ kt)
      have CM233 := CM0.trans (CHr.ext E233 CM0.1)
      obtain ⟨T235, h235, k235, X235, e235, E235, A235, st235⟩ := newP (aty := .char) X233 hx hZ (own_W7 hw) e233 (g := (mkF m 25 #[.val (.int n), .val (.int c0), .val (.int c1)] [(.int (1 : Int32)), (.ref so), (.ref so)])) rfl (Jvm.hb hby d1_25) rfl (by decide) (cap := 1) (by decide) (by decide) (by decide) (by decide)
      obtain ⟨ca, g235⟩ : ∃ z, z = h233.size := ⟨_, rfl⟩
      rw [← g235] at A235 st235
      have ne_so_ca : so ≠ ca := Nat.ne_of_lt (Nat.lt_of_lt_of_le A233.lt (Nat.le_of_eq g235.symm))
      have g_ca : n0 ≤ ca := Nat.le_trans (Nat.le_trans Z0 K233.1) (Nat.le_of_eq g235.symm)
      have sz_ca : h0.size ≤ ca := Nat.le_trans K233.1 (Nat.le_of_eq g235.symm)
      have K235 : Keep h0 h235 [] := K233.ext E235
      have V_ca : Arv Z h235 ca k235 .char (1 : Int32) [(.int (0 : Int32))] (.int (0 : Int32)) := (Arv.new A235 (by decide)).pad (pad_rep [] (.int (0 : Int32)) 1)
      have pre236 := fun (τ : State) kt => pre234 τ (by
        show Steps p.tables e below (T233.setTop (mkF m 23 #[.val (.int n), .val (.int c0), .val (.int c1)] [(.ref so)])) τ
        refine XS.dup X233.here hx rfl (Jvm.hb hby d1_23) rfl rfl ?_
        refine XS.iconst X233.here hx rfl (Jvm.hb hby d1_24) ?_
        exact st235 τ kt)
      have CM235 := CM233.trans (CHr.ext E235 CM233.1)
      obtain ⟨cl237, Ar237, q237, S237, M237, H237, U237⟩ := id V_ca
      obtain ⟨cl238, Ar238, q238, S238, M238, H238, U238⟩ := id V_ca
      obtain ⟨T239, h239, X239, e239, W239, st239⟩ := stC X235 hx hZ e235 Ar238 (j := (0 : Int32)) (inb_of S238 ⟨by decide, by decide⟩) (g := (mkF m 30 #[.val (.int n), .val (.int c0), .val (.int c1)] [(.int c0), (.int (0 : Int32)), (.ref ca), (.ref ca), (.ref so), (.ref so)])) rfl rfl (Jvm.hb hby d1_30)
      have V239 : Arv Z h239 ca k235 .char (1 : Int32) [(.int (nar .char c0))] (.int (0 : Int32)) := Arv.set Ar238 q238 S238 M238 H238 U238 (fits_nar_char _) W239 0 rfl (Nat.le_of_ble_eq_true rfl)
      have N239 := Fr.snoc X239 N0 g_ca
      have K239 : Keep h0 h239 [] := K235.wr W239 (Or.inr sz_ca)
      have pre240 := fun (τ : State) kt => pre236 τ (by
        show Steps p.tables e below (T235.setTop (mkF m 27 #[.val (.int n), .val (.int c0), .val (.int c1)] [(.ref ca), (.ref so), (.ref so)])) τ
        refine XS.dup X235.here hx rfl (Jvm.hb hby d1_27) rfl rfl ?_
        refine XS.iconst X235.here hx rfl (Jvm.hb hby d1_28) ?_
        refine XS.iloadN X235.here hx rfl (Jvm.hb hby d1_29) rfl ?_
        exact st239 τ kt)
      have CM239 := CM235.trans (CHr.wr W239 (Safe.arr hZ.alike Ar237 (by decide)) CM235.1)
      have hp : ∀ c ∈ ([(nar .char c0)] : List Int32), ¬ c < 0 ∧ ¬ (255 : Int32) < c := by
        intro c hc
        simp only [List.mem_cons, List.not_mem_nil, or_false] at hc
        rw [hc, (own_c8_nar hc0).1]; exact (own_c8_nar hc0).2
      have old241 := OLD0.ext E233
      have old242 := old241.ext E235
      have old243 := old242.wr W239 g_ca
      have f244 := A233.ext E235
      have f245 := f244.wr W239
      have f246 := F_value_so.ext E235
      have f247 := (f246.other W239 (Or.inl ne_so_ca))
      have f249 := F_coder_so.ext E235
      have f250 := (f249.other W239 (Or.inl ne_so_ca))
      obtain ⟨_, _, ⟨T248, L248, k248, n248⟩, -, X248, ⟨Lc248, hQ248, l248, y248, z248⟩, st248⟩ := X239.specialBack hx (y := own_mn19) rfl hown (mvT hZ (own_W8 hw)) (mvT hZ (own_W9 hw)) (mvT hZ (own_W10 hw)) (by decide) (StrChars.Road.backV (W := 1) hZ (own_strw hw) (kI := 4) (own_W5 hw) (cs := ([(nar .char c0)] : List Int32)) (bs := ([(nar .char c0)] : List Int32).map (fun c => c.toInt8.toInt32)) (n := 1) g_so (Nat.le_trans Z0 K239.1) f245 f247 f250 V239 (O2.ext old243.2) P5 rfl rfl (by decide) (by decide) hp rfl (by decide) (by decide)) (g := (mkF m 31 #[.val (.int n), .val (.int c0), .val (.int c1)] [(.ref ca), (.ref so), (.ref so)])) rfl (by rw [hml]; rfl) (Steps.refl _) (a := so) (argsL := [(.ref ca)]) (rest := [(.ref so)]) (lenOf own_pd___C_V rfl) rfl (by show 2 * 0 + _ ≤ _; exact Nat.le_of_eq rfl) (Jvm.hb hby d1_31) (fun _ _ => ⟨rfl, e239, (by decide : 2 + 1 ≤ _), (by decide : 5 + 1 ≤ _)⟩)
      dsimp only [Pt.U, Pt.locs, Pt.cells, Pt.slots] at X248 l248 y248 z248 st248 hQ248
      subst l248 y248 z248
      obtain ⟨rfl, Nq248, Kq248, sE248, sC248, sb248, sk248, sg248, sz248, sn248, sV248, sB248⟩ := hQ248
      have N248 := Fr.app N239 Nq248
      have K248 : Keep h0 T248.heap [] := K239.trans Kq248 (allS (Or.inr sz_so) (all0))
      have pre251 := fun (τ : State) kt => pre240 τ ((st248).trans kt)
      have CM252 := CM239.trans (CHr.keep Kq248 (fun y hy => by rw [List.mem_singleton.mp hy]; exact (own_safe_null hZ.alike f245 f247)) CM239.1)
      have vz : Arv Z T248.heap sb248 sk248 .byte n [.int (own_b c0), .int (own_b c1)] (.int (0 : Int32)) := by
        rw [q1]
        refine own_arv sB248 (fun i hi => ?_)
        rw [show (1 : Int32).toNatClampNeg = 1 by decide] at hi
        match i, hi with
        | 0, _ => exact congrArg Value.int (congrArg own_b (own_c8_nar hc0).1.symm)
      have eE : T248.heap = T248.heap := rfl
      obtain ⟨fs, hrL, hrun, hended, hRE⟩ := X248.leaveW hS0 (Nat.le_trans (Nat.le_trans hk0 CM252.2.1) (Nat.le_of_eq (congrArg Array.size eE.symm))) (v := some (.ref so)) (fun h => by rw [Bd.returns] at h; cases h)
      refine ⟨_, _, cast (congrFun hPS _) (pre251 _ ?_), hrun, hended, _, _, rfl, ?_, ?_, hRE.1, hRE.2.1, hRE.2.2.1, hRE.2.2.2.mono (by decide) (by decide)⟩
      · show Steps p.tables e below (T248.setTop (mkF m 34 #[.val (.int n), .val (.int c0), .val (.int c1)] [(.ref so)])) _
        exact retOut X248 hx Bd.returns rfl (Or.inr (Or.inr (Or.inr (Or.inr ⟨rfl, rfl, rfl⟩)))) (Jvm.hb hby d1_34) hrL
      · show QT Z [.int (own_b c0), .int (own_b c1)] n h0 n0 _ T248.heap _
        exact ⟨N248, K248, so, sb248, sk248, rfl, sE248, sC248, sV248, vz⟩
      · show CHr Z EL s.vm s.heap T248.vm T248.heap
        rw [hh, eE]
        exact (CT0.trans CM252).trans (CHv.at X248 hZ hEL CM252.1)
    · skip
      obtain ⟨T253, h253, X253, e253, E253, A253, D253, -, st253⟩ := newO X0 hx hZ hown (own_W4 hw) (own_W5 hw) (own_W6 hw) e0 (g := (mkF m 35 #[.val (.int n), .val (.int c0), .val (.int c1)] [])) rfl (Jvm.hb hby d1_35) (by decide) (by decide)
      obtain ⟨so, g253⟩ : ∃ z, z = h0.size := ⟨_, rfl⟩
      rw [← g253] at A253 D253 st253
      have g_so : n0 ≤ so := Nat.le_trans (Nat.le_trans Z0 KK0.1) (Nat.le_of_eq g253.symm)
      have sz_so : h0.size ≤ so := Nat.le_trans KK0.1 (Nat.le_of_eq g253.symm)
      have K253 : Keep h0 h253 [] := KK0.ext E253
      have F_coder_so : Fld Z h253 so "java/lang/String" "coder" "B" (.int (0 : Int32)) := D253 (Or.inr (own_W31 hw)) (ty := .byte) (by decide)
      have F_value_so : Fld Z h253 so "java/lang/String" "value" "[B" .null := D253 (Or.inr (own_W33 hw)) (ty := (.array .byte)) (by decide)
      have pre254 := fun (τ : State) kt => pre232 τ (by
        show Steps p.tables e below (s₁.setTop (mkF m 17 #[.val (.int n), .val (.int c0), .val (.int c1)] [(.int (1 : Int32)), (.int n)])) τ
        refine XS.icmpYes X0.here hx rfl (pc0 := 17) (pc' := 35) rfl (Jvm.hb hby d1_17) rfl (feq q1).2 (by decide) (by decide) ?_
        exact st253 τ kt)
      have CM253 := CM0.trans (CHr.ext E253 CM0.1)
      obtain ⟨T255, h255, k255, X255, e255, E255, A255, st255⟩ := newP (aty := .char) X253 hx hZ (own_W7 hw) e253 (g := (mkF m 40 #[.val (.int n), .val (.int c0), .val (.int c1)] [(.int (2 : Int32)), (.ref so), (.ref so)])) rfl (Jvm.hb hby d1_40) rfl (by decide) (cap := 2) (by decide) (by decide) (by decide) (by decide)
      obtain ⟨ca, g255⟩ : ∃ z, z = h253.size := ⟨_, rfl⟩
      rw [← g255] at A255 st255
      have ne_so_ca : so ≠ ca := Nat.ne_of_lt (Nat.lt_of_lt_of_le A253.lt (Nat.le_of_eq g255.symm))
      have g_ca : n0 ≤ ca := Nat.le_trans (Nat.le_trans Z0 K253.1) (Nat.le_of_eq g255.symm)
      have sz_ca : h0.size ≤ ca := Nat.le_trans K253.1 (Nat.le_of_eq g255.symm)
      have K255 : Keep h0 h255 [] := K253.ext E255
      have V_ca : Arv Z h255 ca k255 .char (2 : Int32) [(.int (0 : Int32)), (.int (0 : Int32))] (.int (0 : Int32)) := (Arv.new A255 (by decide)).pad (pad_rep [] (.int (0 : Int32)) 2)
      have pre256 := fun (τ : State) kt => pre254 τ (by
        show Steps p.tables e below (T253.setTop (mkF m 38 #[.val (.int n), .val (.int c0), .val (.int c1)] [(.ref so)])) τ
        refine XS.dup X253.here hx rfl (Jvm.hb hby d1_38) rfl rfl ?_
        refine XS.iconst X253.here hx rfl (Jvm.hb hby d1_39) ?_
        exact st255 τ kt)
      have CM255 := CM253.trans (CHr.ext E255 CM253.1)
      obtain ⟨cl257, Ar257, q257, S257, M257, H257, U257⟩ := id V_ca
      obtain ⟨cl258, Ar258, q258, S258, M258, H258, U258⟩ := id V_ca
      obtain ⟨T259, h259, X259, e259, W259, st259⟩ := stC X255 hx hZ e255 Ar258 (j := (0 : Int32)) (inb_of S258 ⟨by decide, by decide⟩) (g := (mkF m 45 #[.val (.int n), .val (.int c0), .val (.int c1)] [(.int c0), (.int (0 : Int32)), (.ref ca), (.ref ca), (.ref so), (.ref so)])) rfl rfl (Jvm.hb hby d1_45)
      have V259 : Arv Z h259 ca k255 .char (2 : Int32) [(.int (nar .char c0)), (.int (0 : Int32))] (.int (0 : Int32)) := Arv.set Ar258 q258 S258 M258 H258 U258 (fits_nar_char _) W259 0 rfl (Nat.le_of_ble_eq_true rfl)
      have N259 := Fr.snoc X259 N0 g_ca
      have K259 : Keep h0 h259 [] := K255.wr W259 (Or.inr sz_ca)
      have pre260 := fun (τ : State) kt => pre256 τ (by
        show Steps p.tables e below (T255.setTop (mkF m 42 #[.val (.int n), .val (.int c0), .val (.int c1)] [(.ref ca), (.ref so), (.ref so)])) τ
        refine XS.dup X255.here hx rfl (Jvm.hb hby d1_42) rfl rfl ?_
        refine XS.iconst X255.here hx rfl (Jvm.hb hby d1_43) ?_
        refine XS.iloadN X255.here hx rfl (Jvm.hb hby d1_44) rfl ?_
        exact st259 τ kt)
      have CM259 := CM255.trans (CHr.wr W259 (Safe.arr hZ.alike Ar257 (by decide)) CM255.1)
      obtain ⟨cl261, Ar261, q261, S261, M261, H261, U261⟩ := id V259
      obtain ⟨cl262, Ar262, q262, S262, M262, H262, U262⟩ := id V259
      obtain ⟨T263, h263, X263, e263, W263, st263⟩ := stC X259 hx hZ e259 Ar262 (j := (1 : Int32)) (inb_of S262 ⟨by decide, by decide⟩) (g := (mkF m 49 #[.val (.int n), .val (.int c0), .val (.int c1)] [(.int c1), (.int (1 : Int32)), (.ref ca), (.ref ca), (.ref so), (.ref so)])) rfl rfl (Jvm.hb hby d1_49)
      have V263 : Arv Z h263 ca k255 .char (2 : Int32) [(.int (nar .char c0)), (.int (nar .char c1))] (.int (0 : Int32)) := Arv.set Ar262 q262 S262 M262 H262 U262 (fits_nar_char _) W263 1 rfl (Nat.le_of_ble_eq_true rfl)
      have N263 := Fr.snoc X263 N259 g_ca
      have K263 : Keep h0 h263 [] := K259.wr W263 (Or.inr sz_ca)
      have pre264 := fun (τ : State) kt => pre260 τ (by
        show Steps p.tables e below (T259.setTop (mkF m 46 #[.val (.int n), .val (.int c0), .val (.int c1)] [(.ref ca), (.ref so), (.ref so)])) τ
        refine XS.dup X259.here hx rfl (Jvm.hb hby d1_46) rfl rfl ?_
        refine XS.iconst X259.here hx rfl (Jvm.hb hby d1_47) ?_
        refine XS.iloadN X259.here hx rfl (Jvm.hb hby d1_48) rfl ?_
        exact st263 τ kt)
      have CM263 := CM259.trans (CHr.wr W263 (Safe.arr hZ.alike Ar261 (by decide)) CM259.1)
      have hp : ∀ c ∈ ([(nar .char c0), (nar .char c1)] : List Int32), ¬ c < 0 ∧ ¬ (255 : Int32) < c := by
        intro c hc
        simp only [List.mem_cons, List.not_mem_nil, or_false] at hc
        rcases hc with hc | hc
        · rw [hc, (own_c8_nar hc0).1]; exact (own_c8_nar hc0).2
        · rw [hc, (own_c8_nar hc1).1]; exact (own_c8_nar hc1).2
      have old265 := OLD0.ext E253
      have old266 := old265.ext E255
      have old267 := old266.wr W259 g_ca
      have old268 := old267.wr W263 g_ca
      have f269 := A253.ext E255
      have f270 := f269.wr W259
      have f271 := f270.wr W263
      have f272 := F_value_so.ext E255
      have f273 := (f272.other W259 (Or.inl ne_so_ca))
      have f274 := (f273.other W263 (Or.inl ne_so_ca))
      have f276 := F_coder_so.ext E255
      have f277 := (f276.other W259 (Or.inl ne_so_ca))
      have f278 := (f277.other W263 (Or.inl ne_so_ca))
      obtain ⟨_, _, ⟨T275, L275, k275, n275⟩, -, X275, ⟨Lc275, hQ275, l275, y275, z275⟩, st275⟩ := X263.specialBack hx (y := own_mn19) rfl hown (mvT hZ (own_W8 hw)) (mvT hZ (own_W9 hw)) (mvT hZ (own_W10 hw)) (by decide) (StrChars.Road.backV (W := 1) hZ (own_strw hw) (kI := 4) (own_W5 hw) (cs := ([(nar .char c0), (nar .char c1)] : List Int32)) (bs := ([(nar .char c0), (nar .char c1)] : List Int32).map (fun c => c.toInt8.toInt32)) (n := 2) g_so (Nat.le_trans Z0 K263.1) f271 f274 f278 V263 (O2.ext old268.2) P5 rfl rfl (by decide) (by decide) hp rfl (by decide) (by decide)) (g := (mkF m 50 #[.val (.int n), .val (.int c0), .val (.int c1)] [(.ref ca), (.ref so), (.ref so)])) rfl (by rw [hml]; rfl) (Steps.refl _) (a := so) (argsL := [(.ref ca)]) (rest := [(.ref so)]) (lenOf own_pd___C_V rfl) rfl (by show 2 * 0 + _ ≤ _; exact Nat.le_of_eq rfl) (Jvm.hb hby d1_50) (fun _ _ => ⟨rfl, e263, (by decide : 2 + 1 ≤ _), (by decide : 6 + 2 ≤ _)⟩)
      dsimp only [Pt.U, Pt.locs, Pt.cells, Pt.slots] at X275 l275 y275 z275 st275 hQ275
      subst l275 y275 z275
      obtain ⟨rfl, Nq275, Kq275, sE275, sC275, sb275, sk275, sg275, sz275, sn275, sV275, sB275⟩ := hQ275
      have N275 := Fr.app N263 Nq275
      have K275 : Keep h0 T275.heap [] := K263.trans Kq275 (allS (Or.inr sz_so) (all0))
      have pre279 := fun (τ : State) kt => pre264 τ ((st275).trans kt)
      have CM280 := CM263.trans (CHr.keep Kq275 (fun y hy => by rw [List.mem_singleton.mp hy]; exact (own_safe_null hZ.alike f271 f274)) CM263.1)
      have vz : Arv Z T275.heap sb275 sk275 .byte n [.int (own_b c0), .int (own_b c1)] (.int (0 : Int32)) := by
        rw [(hn.resolve_left q0).resolve_left q1]
        refine own_arv sB275 (fun i hi => ?_)
        rw [show (2 : Int32).toNatClampNeg = 2 by decide] at hi
        match i, hi with
        | 0, _ => exact congrArg Value.int (congrArg own_b (own_c8_nar hc0).1.symm)
        | 1, _ => exact congrArg Value.int (congrArg own_b (own_c8_nar hc1).1.symm)
      have eE : T275.heap = T275.heap := rfl
      obtain ⟨fs, hrL, hrun, hended, hRE⟩ := X275.leaveW hS0 (Nat.le_trans (Nat.le_trans hk0 CM280.2.1) (Nat.le_of_eq (congrArg Array.size eE.symm))) (v := some (.ref so)) (fun h => by rw [Bd.returns] at h; cases h)
      refine ⟨_, _, cast (congrFun hPS _) (pre279 _ ?_), hrun, hended, _, _, rfl, ?_, ?_, hRE.1, hRE.2.1, hRE.2.2.1, hRE.2.2.2.mono (by decide) (by decide)⟩
      · show Steps p.tables e below (T275.setTop (mkF m 53 #[.val (.int n), .val (.int c0), .val (.int c1)] [(.ref so)])) _
        exact retOut X275 hx Bd.returns rfl (Or.inr (Or.inr (Or.inr (Or.inr ⟨rfl, rfl, rfl⟩)))) (Jvm.hb hby d1_53) hrL
      · show QT Z [.int (own_b c0), .int (own_b c1)] n h0 n0 _ T275.heap _
        exact ⟨N275, K275, so, sb275, sk275, rfl, sE275, sC275, sV275, vz⟩
      · show CHr Z EL s.vm s.heap T275.vm T275.heap
        rw [hh, eE]
        exact (CT0.trans CM280).trans (CHv.at X275 hZ hEL CM280.1)
theorem d9_0 : decode jdk_31_method_11_code 0 = .ok (.aload_n 0, 1) := by decide +kernel
theorem d9_1 : decode jdk_31_method_11_code 1 = .ok (.ifnonnull 12, 3) := by decide +kernel
theorem d9_4 : decode jdk_31_method_11_code 4 = .ok (.new 84, 3) := by decide +kernel
theorem d9_7 : decode jdk_31_method_11_code 7 = .ok (.dup, 1) := by decide +kernel
theorem d9_8 : decode jdk_31_method_11_code 8 = .ok (.aload_n 1, 1) := by decide +kernel
theorem d9_9 : decode jdk_31_method_11_code 9 = .ok (.invokespecial 87, 3) := by decide +kernel
theorem d9_12 : decode jdk_31_method_11_code 12 = .ok (.athrow, 1) := by decide +kernel
theorem d9_13 : decode jdk_31_method_11_code 13 = .ok (.aload_n 0, 1) := by decide +kernel
theorem d9_14 : decode jdk_31_method_11_code 14 = .ok (.areturn, 1) := by decide +kernel
theorem own_pn_java_util_Objects : plainName "java/util/Objects" = true := by first | (simp [plainName, overriddenIn]; done) | decide +kernel
theorem own_ef9 (m : MethodId) (x0 : Addr) (x1 : Addr) : entryFrame m #[(.ref x0), (.ref x1)] 2 = mkF m 0 #[.val (.ref x0), .val (.ref x1)] [] := by first | (simp [entryFrame, mkF, argsToLocals, Value.category]; done) | rfl
set_option maxRecDepth 65536 in
set_option maxHeartbeats 40000000 in
theorem rmRN (l : Launch) (Z : State) (a0 : Array Value) (hw : ∀ d ∈ tables_1, d.before a0 Z = true) (ws : List Jvm.Cond) (a : Addr) (ms : Addr)  (h0 : Heap) (n0 : Nat) (Z0 : n0 ≤ h0.size)  :
    MetFree l (⟨"java/util/Objects", "requireNonNull", "(Ljava/lang/Object;Ljava/lang/String;)Ljava/lang/Object;"⟩ : MethodName) (head1 (Jvm.Cond.code (⟨"java/util/Objects", "requireNonNull", "(Ljava/lang/Object;Ljava/lang/String;)Ljava/lang/Object;"⟩ : MethodName) jdk_31_method_11_code 2 (some (.object "java/lang/Object")) :: ws) ({ frames := 0, cells := 0, slots := 0, locals := 0 } : Room)) (fun α U => α = #[(.ref a), (.ref ms)] ∧ Z.Warmed39 U.vm ∧ U.heap = h0) (fun _ _ _ _ _ => True) (fun _ U ω U' => ∃ ν Λ, ω = .returned ν ∧ QRf a h0 n0 ν U'.heap Λ ∧ FrameEnd U ω U' Λ ({ frames := 0, cells := 0, slots := 0, locals := 0 } : Room).cells ({ frames := 0, cells := 0, slots := 0, locals := 0 } : Room).slots) := by
  refine MetFree.of_bodySF (plainFor_of_name own_pn_java_util_Objects) hisR ?_
  intro p e s m args below meth c s₁ Bd hml0 hP hK
  obtain ⟨rfl, hZ, hh⟩ := hP
  have hx := Bd.exec
  have hby := Bd.bytes
  have hml : c.maxLocals = 2 := hml0
  have hown : s.vm.findClass "java/util/Objects" = some m.cls := findClass_of_methodNamed Bd.named
  have hnm := (name_of_methodNamed Bd.named Bd.method).1
  have X0 : Stand p l e ({ frames := 0, cells := 0, slots := 0, locals := 0 } : Room) s m #[(.ref a), (.ref ms)] below meth c s₁ [] 0 0 := Stand.of_body Bd
  have e0 : s₁.heap = h0 := by rw [← hh, Bd.state]; rfl
  have N0 := Fr.nil n0
  have KK0 : Keep h0 h0 [] := Keep.refl h0 []
  obtain ⟨PS, hPS⟩ : ∃ P : State → Prop, P = fun τ => Steps p.tables e below (s₁.setTop (entryFrame m #[(.ref a), (.ref ms)] 2)) τ := ⟨_, rfl⟩
  have pre0 : ∀ τ, Steps p.tables e below (s₁.setTop (mkF m 0 #[.val (.ref a), .val (.ref ms)] [])) τ → PS τ := by rw [hPS]; exact fun τ κ => castTop (own_ef9 m a ms) κ
  have pre281 := fun (τ : State) kt => pre0 τ (by
    show Steps p.tables e below (s₁.setTop (mkF m 0 #[.val (.ref a), .val (.ref ms)] [])) τ
    refine XS.aloadN X0.here hx rfl (Jvm.hb hby d9_0) rfl rfl ?_
    refine XT.ifnonnullYes X0.here hx rfl (pc0 := 1) (pc' := 13) rfl (Jvm.hb hby d9_1) rfl (by decide) (by decide) ?_
    refine XS.aloadN X0.here hx rfl (Jvm.hb hby d9_13) rfl rfl ?_
    exact kt)
  obtain ⟨fs, hrL, hrun, hended, hW, hsame⟩ := X0.leave (v := some (.ref a)) (fun h => by rw [Bd.returns] at h; cases h)
  refine ⟨_, _, cast (congrFun hPS _) (pre281 _ ?_), hrun, hended, _, _, rfl, ?_, ⟨_, rfl⟩, hW, hsame.mono (by decide) (by decide)⟩
  · show Steps p.tables e below (s₁.setTop (mkF m 14 #[.val (.ref a), .val (.ref ms)] [(.ref a)])) _
    exact retOut X0 hx Bd.returns rfl (Or.inr (Or.inr (Or.inr (Or.inr ⟨rfl, rfl, rfl⟩)))) (Jvm.hb hby d9_14) hrL
  · show QRf a h0 n0 _ s₁.heap _
    rw [e0]
    exact ⟨rfl, N0, rfl⟩
def QP (Z : State) (a ps ms : Addr) (h0 : Heap) (n0 : Nat) (v : Option Value) (h : Heap) (L : List Loc) : Prop := v = none ∧ Fr n0 L ∧ Keep h0 h [a] ∧ Fld Z h a "com/example/incomewright/incomewright/casefile/Problem" "path" "Ljava/lang/String;" (.ref ps) ∧ Fld Z h a "com/example/incomewright/incomewright/casefile/Problem" "message" "Ljava/lang/String;" (.ref ms)
theorem d8_0 : decode prog_9_method_1_code 0 = .ok (.aload_n 0, 1) := by decide +kernel
theorem d8_1 : decode prog_9_method_1_code 1 = .ok (.invokespecial 1, 3) := by decide +kernel
theorem d8_4 : decode prog_9_method_1_code 4 = .ok (.aload_n 0, 1) := by decide +kernel
theorem d8_5 : decode prog_9_method_1_code 5 = .ok (.aload_n 1, 1) := by decide +kernel
theorem d8_6 : decode prog_9_method_1_code 6 = .ok (.ldc 7, 2) := by decide +kernel
theorem d8_8 : decode prog_9_method_1_code 8 = .ok (.invokestatic 9, 3) := by decide +kernel
theorem d8_11 : decode prog_9_method_1_code 11 = .ok (.checkcast 15, 3) := by decide +kernel
theorem d8_14 : decode prog_9_method_1_code 14 = .ok (.putfield 17, 3) := by decide +kernel
theorem d8_17 : decode prog_9_method_1_code 17 = .ok (.aload_n 0, 1) := by decide +kernel
theorem d8_18 : decode prog_9_method_1_code 18 = .ok (.aload_n 2, 1) := by decide +kernel
theorem d8_19 : decode prog_9_method_1_code 19 = .ok (.ldc 22, 2) := by decide +kernel
theorem d8_21 : decode prog_9_method_1_code 21 = .ok (.invokestatic 9, 3) := by decide +kernel
theorem d8_24 : decode prog_9_method_1_code 24 = .ok (.checkcast 15, 3) := by decide +kernel
theorem d8_27 : decode prog_9_method_1_code 27 = .ok (.putfield 24, 3) := by decide +kernel
theorem d8_30 : decode prog_9_method_1_code 30 = .ok (.return_, 1) := by decide +kernel
theorem own_pn_com_example_incomewright_incomewright_casefile_Problem : plainName "com/example/incomewright/incomewright/casefile/Problem" = true := by first | (simp [plainName, overriddenIn]; done) | decide +kernel
theorem own_ef8 (m : MethodId) (x0 : Addr) (x1 : Addr) (x2 : Addr) : entryFrame m #[(.ref x0), (.ref x1), (.ref x2)] 3 = mkF m 0 #[.val (.ref x0), .val (.ref x1), .val (.ref x2)] [] := by first | (simp [entryFrame, mkF, argsToLocals, Value.category]; done) | rfl
set_option maxRecDepth 65536 in
set_option maxHeartbeats 40000000 in
theorem rmPI (l : Launch) (Z : State) (a0 : Array Value) (hw : ∀ d ∈ tables_1, d.before a0 Z = true) (ws : List Jvm.Cond) (a : Addr) (ps : Addr) (ms : Addr)  (h0 : Heap) (n0 : Nat) (Z0 : n0 ≤ h0.size) (hEL : EW Z a0 EL) (wS : ∀ a ∈ Bundle.stringAtoms, a.before a0 Z = true) (E7 : Exa Z h0 a "com/example/incomewright/incomewright/casefile/Problem") (F1 : Fld Z h0 a "com/example/incomewright/incomewright/casefile/Problem" "path" "Ljava/lang/String;" .null) (F2 : Fld Z h0 a "com/example/incomewright/incomewright/casefile/Problem" "message" "Ljava/lang/String;" .null) (ga : n0 ≤ a) (EP : Exa Z h0 ps "java/lang/String") (EM : Exa Z h0 ms "java/lang/String") :
    MetFree l (⟨"com/example/incomewright/incomewright/casefile/Problem", "<init>", "(Ljava/lang/String;Ljava/lang/String;)V"⟩ : MethodName) (head1 (Jvm.Cond.code (⟨"com/example/incomewright/incomewright/casefile/Problem", "<init>", "(Ljava/lang/String;Ljava/lang/String;)V"⟩ : MethodName) prog_9_method_1_code 3 none :: ws) ({ frames := 1, cells := 4, slots := 52, locals := 40 } : Room)) (fun α U => α = #[(.ref a), (.ref ps), (.ref ms)] ∧ Z.Warmed39 U.vm ∧ U.heap = h0 ∧ CHv Z EL U.vm h0) (fun _ _ _ _ _ => True) (fun _ U ω U' => ∃ ν Λ, ω = .returned ν ∧ QP Z a ps ms h0 n0 ν U'.heap Λ ∧ CHr Z EL U.vm U.heap U'.vm U'.heap ∧ ReturnedEndW U ω U' Λ ({ frames := 1, cells := 4, slots := 52, locals := 40 } : Room).cells ({ frames := 1, cells := 4, slots := 52, locals := 40 } : Room).slots) := by
  refine MetFree.of_bodySF (plainFor_of_name own_pn_com_example_incomewright_incomewright_casefile_Problem) hisR ?_
  intro p e s m args below meth c s₁ Bd hml0 hP hK
  obtain ⟨rfl, hZ0, hh, CV0⟩ := hP
  have hZ : Z.Warmed39 (s.setVm s.vm).vm := hZ0
  have hx := Bd.exec
  have hby := Bd.bytes
  have hml : c.maxLocals = 3 := hml0
  have hown : (s.setVm s.vm).vm.findClass "com/example/incomewright/incomewright/casefile/Problem" = some m.cls := findClass_of_methodNamed Bd.named
  have hnm := (name_of_methodNamed Bd.named Bd.method).1
  have X0 : Stand p l e ({ frames := 1, cells := 4, slots := 52, locals := 40 } : Room) (s.setVm s.vm) m #[(.ref a), (.ref ps), (.ref ms)] below meth c s₁ [] 0 0 := Stand.of_body Bd
  have e0 : s₁.heap = h0 := by rw [← hh, Bd.state]; rfl
  have N0 := Fr.nil n0
  have KK0 : Keep h0 h0 [a] := Keep.refl h0 [a]
  have hS0 : s.Since s.vm h0.size := (State.WarmedH.refl s).since _
  have hk0 : h0.size ≤ h0.size := Nat.le_refl _
  have CT0 := CHr.refl CV0
  have CM0 := CHr.refl CV0
  obtain ⟨PS, hPS⟩ : ∃ P : State → Prop, P = fun τ => Steps p.tables e below (s₁.setTop (entryFrame m #[(.ref a), (.ref ps), (.ref ms)] 3)) τ := ⟨_, rfl⟩
  have pre0 : ∀ τ, Steps p.tables e below (s₁.setTop (mkF m 0 #[.val (.ref a), .val (.ref ps), .val (.ref ms)] [])) τ → PS τ := by rw [hPS]; exact fun τ κ => castTop (own_ef8 m a ps ms) κ
  obtain ⟨T282, X282, e282, st282⟩ := initO X0 hx hZ hown (own_W43 hw) (own_W16 hw) (own_W17 hw) e0 (g := (mkF m 1 #[.val (.ref a), .val (.ref ps), .val (.ref ms)] [(.ref a)])) rfl (by rw [hml]; rfl) rfl (Jvm.hb hby d8_1) (by decide) (W := 0) (by show 2 * 0 + _ ≤ _; exact Nat.le_of_eq rfl) (by decide)
  have pre283 := fun (τ : State) kt => pre0 τ (by
    show Steps p.tables e below (s₁.setTop (mkF m 0 #[.val (.ref a), .val (.ref ps), .val (.ref ms)] [])) τ
    refine XS.aloadN X0.here hx rfl (Jvm.hb hby d8_0) rfl rfl ?_
    exact st282 τ kt)
  obtain ⟨x1, T284, h284, k284, b284, kb284, X284, e284, E284, hS284, hk284, hZ, hown, A284, fc284, fv284, V284, lt284, ltb284, C284, -, ne284, st284⟩ := ldcCH X282 hx hZ hown (own_W44 hw) wS e282 hS0 (Nat.le_trans hk0 CM0.2.1) hEL (by decide) CM0.1 (vs := [(.int (112 : Int32)), (.int (97 : Int32)), (.int (116 : Int32)), (.int (104 : Int32))]) (z := (4 : Int32)) ⟨by decide, rfl⟩ (by decide) rfl (g := (mkF m 6 #[.val (.ref a), .val (.ref ps), .val (.ref ms)] [(.ref ps), (.ref a)])) rfl (Jvm.hb hby d8_6) (n := 16) (by decide) (by decide) (by decide) (by decide)
  have K284 : Keep h0 h284 [a] := KK0.ext E284
  have CT284 := (CT0.trans CM0).trans C284
  have CM284 := CHr.refl C284.1
  have pre285 := fun (τ : State) kt => pre283 τ (by
    show Steps p.tables e below (T282.setTop (mkF m 4 #[.val (.ref a), .val (.ref ps), .val (.ref ms)] [])) τ
    refine XS.aloadN X282.here hx rfl (Jvm.hb hby d8_4) rfl rfl ?_
    refine XS.aloadN X282.here hx rfl (Jvm.hb hby d8_5) rfl rfl ?_
    exact st284 τ kt)
  obtain ⟨_, T286, L286, X286, ⟨rfl, Nq286, eq286⟩, st286⟩ := own_stat (y := own_mn20) X284 hx hZ hown (own_W45 hw) (own_W46 hw) (by decide) (rmRN l Z a0 hw [] ps x1 h284 n0 (Nat.le_trans Z0 K284.1)) (own_W48 hw) (own_W47 hw) 1 (by decide) (by decide) e284 (mkF m 8 #[.val (.ref a), .val (.ref ps), .val (.ref ms)] [(.ref x1), (.ref ps), (.ref a)]) rfl (by rw [hml]; rfl) [(.ref ps), (.ref x1)] [(.ref a)] rfl (lenOf own_pd__Ljava_lang_Object_Ljava_lang_String__Ljava_lang_Object_ rfl) rfl (Nat.le_refl _) (Jvm.hb hby d8_8) (by decide) (by decide)
  have N286 := Fr.app N0 Nq286
  have pre287 := fun (τ : State) kt => pre285 τ (st286 τ kt)
  have f289 := EP.ext E284
  obtain ⟨T288, X288, e288, st288⟩ := castY X286 hx hZ hown (own_W49 hw) eq286 (Ins.self f289) (g := (mkF m 11 #[.val (.ref a), .val (.ref ps), .val (.ref ms)] [(.ref ps), (.ref a)])) rfl rfl (Jvm.hb hby d8_11)
  have pre290 := fun (τ : State) kt => pre287 τ (st288 τ kt)
  have f291 := E7.ext E284
  have f293 := F1.ext E284
  obtain ⟨T292, h292, X292, e292, W292, st292⟩ := putF X288 hx hZ hown (host := "") (Or.inl (own_W50 hw)) Via.refl e288 f293 f291 (Or.inr ⟨(own_W51 hw), rfl, hnm⟩) (own_W38 hw) (ty := (.object "java/lang/String")) (by decide) rfl rfl (g := (mkF m 14 #[.val (.ref a), .val (.ref ps), .val (.ref ms)] [(.ref ps), (.ref a)])) rfl rfl (Jvm.hb hby d8_14)
  have fw292 := Fld.same W292 f293
  have N292 := Fr.snoc X292 N286 ga
  have K292 : Keep h0 h292 [a] := K284.wr W292 (Or.inl (by simp))
  have pre294 := fun (τ : State) kt => pre290 τ (st292 τ kt)
  have CM292 := CM284.trans (CHr.wr W292 (Safe.exa hZ.alike f291 (by decide) (by decide)) CM284.1)
  obtain ⟨x2, T295, h295, k295, b295, kb295, X295, e295, E295, hS295, hk295, hZ, hown, A295, fc295, fv295, V295, lt295, ltb295, C295, -, ne295, st295⟩ := ldcCH X292 hx hZ hown (own_W52 hw) wS e292 hS284 (Nat.le_trans hk284 CM292.2.1) hEL (by decide) CM292.1 (vs := [(.int (109 : Int32)), (.int (101 : Int32)), (.int (115 : Int32)), (.int (115 : Int32)), (.int (97 : Int32)), (.int (103 : Int32)), (.int (101 : Int32))]) (z := (7 : Int32)) ⟨by decide, rfl⟩ (by decide) rfl (g := (mkF m 19 #[.val (.ref a), .val (.ref ps), .val (.ref ms)] [(.ref ms), (.ref a)])) rfl (Jvm.hb hby d8_19) (n := 28) (by decide) (by decide) (by decide) (by decide)
  have K295 : Keep h0 h295 [a] := K292.ext E295
  have CT295 := (CT284.trans CM292).trans C295
  have CM295 := CHr.refl C295.1
  have pre296 := fun (τ : State) kt => pre294 τ (by
    show Steps p.tables e below (T292.setTop (mkF m 17 #[.val (.ref a), .val (.ref ps), .val (.ref ms)] [])) τ
    refine XS.aloadN X292.here hx rfl (Jvm.hb hby d8_17) rfl rfl ?_
    refine XS.aloadN X292.here hx rfl (Jvm.hb hby d8_18) rfl rfl ?_
    exact st295 τ kt)
  obtain ⟨_, T297, L297, X297, ⟨rfl, Nq297, eq297⟩, st297⟩ := own_stat (y := own_mn20) X295 hx hZ hown (own_W45 hw) (own_W46 hw) (by decide) (rmRN l Z a0 hw [] ms x2 h295 n0 (Nat.le_trans Z0 K295.1)) (own_W48 hw) (own_W47 hw) 1 (by decide) (by decide) e295 (mkF m 21 #[.val (.ref a), .val (.ref ps), .val (.ref ms)] [(.ref x2), (.ref ms), (.ref a)]) rfl (by rw [hml]; rfl) [(.ref ms), (.ref x2)] [(.ref a)] rfl (lenOf own_pd__Ljava_lang_Object_Ljava_lang_String__Ljava_lang_Object_ rfl) rfl (Nat.le_refl _) (Jvm.hb hby d8_21) (by decide) (by decide)
  have N297 := Fr.app N292 Nq297
  have pre298 := fun (τ : State) kt => pre296 τ (st297 τ kt)
  have f300 := EM.ext E284
  have f301 := f300.wr W292
  have f302 := f301.ext E295
  obtain ⟨T299, X299, e299, st299⟩ := castY X297 hx hZ hown (own_W49 hw) eq297 (Ins.self f302) (g := (mkF m 24 #[.val (.ref a), .val (.ref ps), .val (.ref ms)] [(.ref ms), (.ref a)])) rfl rfl (Jvm.hb hby d8_24)
  have pre303 := fun (τ : State) kt => pre298 τ (st299 τ kt)
  have f304 := f291.wr W292
  have f305 := f304.ext E295
  have f307 := F2.ext E284
  have f308 := (f307.other W292 (Or.inr (slot_ne (Or.inr (own_W54 hw)) (Or.inr (own_W51 hw)) (by decide) (t := (.object "java/lang/String")) (t' := (.object "java/lang/String")) (by decide) (by decide))))
  have f309 := f308.ext E295
  obtain ⟨T306, h306, X306, e306, W306, st306⟩ := putF X299 hx hZ hown (host := "") (Or.inl (own_W53 hw)) Via.refl e299 f309 f305 (Or.inr ⟨(own_W54 hw), rfl, hnm⟩) (own_W38 hw) (ty := (.object "java/lang/String")) (by decide) rfl rfl (g := (mkF m 27 #[.val (.ref a), .val (.ref ps), .val (.ref ms)] [(.ref ms), (.ref a)])) rfl rfl (Jvm.hb hby d8_27)
  have fw306 := Fld.same W306 f309
  have N306 := Fr.snoc X306 N297 ga
  have K306 : Keep h0 h306 [a] := K295.wr W306 (Or.inl (by simp))
  have pre310 := fun (τ : State) kt => pre303 τ (st306 τ kt)
  have CM306 := CM295.trans (CHr.wr W306 (Safe.exa hZ.alike f305 (by decide) (by decide)) CM295.1)
  have f311 := fw292.ext E295
  have f312 := (f311.other W306 (Or.inr (slot_ne (Or.inr (own_W51 hw)) (Or.inr (own_W54 hw)) (by decide) (t := (.object "java/lang/String")) (t' := (.object "java/lang/String")) (by decide) (by decide))))
  have eE : T306.heap = h306 := e306
  obtain ⟨fs, hrL, hrun, hended, hRE⟩ := X306.leaveW hS295 (Nat.le_trans (Nat.le_trans hk295 CM306.2.1) (Nat.le_of_eq (congrArg Array.size eE.symm))) (v := none) (fun _ => rfl)
  refine ⟨_, _, cast (congrFun hPS _) (pre310 _ ?_), hrun, hended, _, _, rfl, ?_, ?_, hRE.1, hRE.2.1, hRE.2.2.1, hRE.2.2.2.mono (by decide) (by decide)⟩
  · show Steps p.tables e below (T306.setTop (mkF m 30 #[.val (.ref a), .val (.ref ps), .val (.ref ms)] [])) _
    exact X306.returnOut hx Bd.returns (Jvm.hb hby d8_30) hrL
  · show QP Z a ps ms h0 n0 _ T306.heap _
    rw [e306]
    exact ⟨rfl, N306, K306, f312, fw306⟩
  · show CHr Z EL s.vm s.heap T306.vm T306.heap
    rw [hh, eE]
    exact (CT295.trans CM306).trans (CHv.at X306 hZ hEL CM306.1)
def own_tot (pn mn : Int32) : Int32 := if pn = 0 then mn else (pn + (2 : Int32)) + mn
theorem d10_0 : decode prog_9_method_4_code 0 = .ok (.aload_n 0, 1) := by decide +kernel
theorem d10_1 : decode prog_9_method_4_code 1 = .ok (.getfield 17, 3) := by decide +kernel
theorem d10_4 : decode prog_9_method_4_code 4 = .ok (.invokevirtual 26, 3) := by decide +kernel
theorem d10_7 : decode prog_9_method_4_code 7 = .ok (.ifCond .eq 10, 3) := by decide +kernel
theorem d10_10 : decode prog_9_method_4_code 10 = .ok (.aload_n 0, 1) := by decide +kernel
theorem d10_11 : decode prog_9_method_4_code 11 = .ok (.getfield 24, 3) := by decide +kernel
theorem d10_14 : decode prog_9_method_4_code 14 = .ok (.goto 32, 3) := by decide +kernel
theorem d10_17 : decode prog_9_method_4_code 17 = .ok (.new 30, 3) := by decide +kernel
theorem d10_20 : decode prog_9_method_4_code 20 = .ok (.dup, 1) := by decide +kernel
theorem d10_21 : decode prog_9_method_4_code 21 = .ok (.invokespecial 32, 3) := by decide +kernel
theorem d10_24 : decode prog_9_method_4_code 24 = .ok (.aload_n 0, 1) := by decide +kernel
theorem d10_25 : decode prog_9_method_4_code 25 = .ok (.getfield 17, 3) := by decide +kernel
theorem d10_28 : decode prog_9_method_4_code 28 = .ok (.invokevirtual 33, 3) := by decide +kernel
theorem d10_31 : decode prog_9_method_4_code 31 = .ok (.ldc 37, 2) := by decide +kernel
theorem d10_33 : decode prog_9_method_4_code 33 = .ok (.invokevirtual 33, 3) := by decide +kernel
theorem d10_36 : decode prog_9_method_4_code 36 = .ok (.aload_n 0, 1) := by decide +kernel
theorem d10_37 : decode prog_9_method_4_code 37 = .ok (.getfield 24, 3) := by decide +kernel
theorem d10_40 : decode prog_9_method_4_code 40 = .ok (.invokevirtual 33, 3) := by decide +kernel
theorem d10_43 : decode prog_9_method_4_code 43 = .ok (.invokevirtual 39, 3) := by decide +kernel
theorem d10_46 : decode prog_9_method_4_code 46 = .ok (.areturn, 1) := by decide +kernel
theorem own_ef10 (m : MethodId) (x0 : Addr) : entryFrame m #[(.ref x0)] 1 = mkF m 0 #[.val (.ref x0)] [] := by first | (simp [entryFrame, mkF, argsToLocals, Value.category]; done) | rfl
set_option maxRecDepth 65536 in
set_option maxHeartbeats 40000000 in
theorem rmPT (l : Launch) (Z : State) (a0 : Array Value) (hw : ∀ d ∈ tables_1, d.before a0 Z = true) (ws : List Jvm.Cond) (a : Addr) (cz : Int32) (ps ms pb mb : Addr) (kp km : ClassId) (pn mn p0 p1 m0 m1 : Int32) (h0 : Heap) (n0 : Nat) (Z0 : n0 ≤ h0.size) (hEL : EW Z a0 EL) (wS : ∀ a ∈ Bundle.stringAtoms, a.before a0 Z = true) (E7 : Exa Z h0 a "com/example/incomewright/incomewright/casefile/Problem") (FP : Fld Z h0 a "com/example/incomewright/incomewright/casefile/Problem" "path" "Ljava/lang/String;" (.ref ps)) (FM : Fld Z h0 a "com/example/incomewright/incomewright/casefile/Problem" "message" "Ljava/lang/String;" (.ref ms)) (EP : Exa Z h0 ps "java/lang/String") (P1 : Fld Z h0 ps "java/lang/String" "value" "[B" (.ref pb)) (P2 : Fld Z h0 ps "java/lang/String" "coder" "B" (.int (0 : Int32))) (PV : Arv Z h0 pb kp .byte pn [.int p0, .int p1] (.int (0 : Int32))) (EM : Exa Z h0 ms "java/lang/String") (M1 : Fld Z h0 ms "java/lang/String" "value" "[B" (.ref mb)) (M2 : Fld Z h0 ms "java/lang/String" "coder" "B" (.int (0 : Int32))) (MV : Arv Z h0 mb km .byte mn [.int m0, .int m1] (.int (0 : Int32))) (hp : own_012 pn) (hm : own_012 mn) (O2 : Sta Z Z.heap "java/lang/String" "COMPACT_STRINGS" "Z" (.int cz)) (P5 : ¬ cz = 0) (OLD0 : Old Z n0 h0) :
    MetFree l (⟨"com/example/incomewright/incomewright/casefile/Problem", "toString", "()Ljava/lang/String;"⟩ : MethodName) (head1 (Jvm.Cond.code (⟨"com/example/incomewright/incomewright/casefile/Problem", "toString", "()Ljava/lang/String;"⟩ : MethodName) prog_9_method_4_code 1 (some (.object "java/lang/String")) :: ws) ({ frames := 6, cells := 6, slots := 60, locals := 145 } : Room)) (fun α U => α = #[(.ref a)] ∧ Z.Warmed39 U.vm ∧ U.heap = h0 ∧ CHv Z EL U.vm h0) (fun _ _ _ _ _ => True) (fun _ U ω U' => ∃ ν Λ, ω = .returned ν ∧ QT Z (own_xs pn p0 p1 m0 m1) (own_tot pn mn) h0 n0 ν U'.heap Λ ∧ CHr Z EL U.vm U.heap U'.vm U'.heap ∧ ReturnedEndW U ω U' Λ ({ frames := 6, cells := 6, slots := 60, locals := 145 } : Room).cells ({ frames := 6, cells := 6, slots := 60, locals := 145 } : Room).slots) := by
  refine MetFree.of_bodySF (plainFor_of_name own_pn_com_example_incomewright_incomewright_casefile_Problem) hisR ?_
  intro p e s m args below meth c s₁ Bd hml0 hP hK
  obtain ⟨rfl, hZ0, hh, CV0⟩ := hP
  have hZ : Z.Warmed39 (s.setVm s.vm).vm := hZ0
  have hx := Bd.exec
  have hby := Bd.bytes
  have hml : c.maxLocals = 1 := hml0
  have hown : (s.setVm s.vm).vm.findClass "com/example/incomewright/incomewright/casefile/Problem" = some m.cls := findClass_of_methodNamed Bd.named
  have hnm := (name_of_methodNamed Bd.named Bd.method).1
  have X0 : Stand p l e ({ frames := 6, cells := 6, slots := 60, locals := 145 } : Room) (s.setVm s.vm) m #[(.ref a)] below meth c s₁ [] 0 0 := Stand.of_body Bd
  have e0 : s₁.heap = h0 := by rw [← hh, Bd.state]; rfl
  have N0 := Fr.nil n0
  have KK0 : Keep h0 h0 [] := Keep.refl h0 []
  have hS0 : s.Since s.vm h0.size := (State.WarmedH.refl s).since _
  have hk0 : h0.size ≤ h0.size := Nat.le_refl _
  have CT0 := CHr.refl CV0
  have CM0 := CHr.refl CV0
  obtain ⟨PS, hPS⟩ : ∃ P : State → Prop, P = fun τ => Steps p.tables e below (s₁.setTop (entryFrame m #[(.ref a)] 1)) τ := ⟨_, rfl⟩
  have pre0 : ∀ τ, Steps p.tables e below (s₁.setTop (mkF m 0 #[.val (.ref a)] [])) τ → PS τ := by rw [hPS]; exact fun τ κ => castTop (own_ef10 m a) κ
  obtain ⟨T313, X313, e313, st313⟩ := getF X0 hx hZ hown (host := "") (Or.inl (own_W50 hw)) Via.refl e0 FP (g := (mkF m 1 #[.val (.ref a)] [(.ref a)])) rfl rfl (Jvm.hb hby d10_1)
  have pre314 := fun (τ : State) kt => pre0 τ (by
    show Steps p.tables e below (s₁.setTop (mkF m 0 #[.val (.ref a)] [])) τ
    refine XS.aloadN X0.here hx rfl (Jvm.hb hby d10_0) rfl rfl ?_
    exact st313 τ kt)
  obtain ⟨_, T315, L315, X315, ⟨rfl, Nq315, eq315⟩, st315⟩ := own_virt (y := own_mn21) (b := ps) X313 hx hZ hown (own_W60 hw) (own_W61 hw) (own_W63 hw) (own_W62 hw) (by decide) (rmEmp l Z a0 hw [] ps pb kp pn _ h0 n0 (Nat.le_trans Z0 KK0.1) P1 PV) (own_W64 hw) (own_W6 hw) 0 (by decide) (by decide) EP e313 (mkF m 4 #[.val (.ref a)] [(.ref ps)]) rfl (by rw [hml]; rfl) [] [] rfl (lenOf own_pd___Z rfl) rfl (Nat.le_refl _) (Jvm.hb hby d10_4) (by decide) (by decide)
  have N315 := Fr.app N0 Nq315
  have pre316 := fun (τ : State) kt => pre314 τ (st315 τ kt)
  by_cases qp : pn = 0
  · skip
    have pre317 : ∀ τ, Steps p.tables e below (T315.setTop (mkF m 7 #[.val (.ref a)] [(.int (1 : Int32))])) τ → PS τ := by have hq := pre316; rw [if_pos qp] at hq; exact hq
    obtain ⟨T318, X318, e318, st318⟩ := getF X315 hx hZ hown (host := "") (Or.inl (own_W53 hw)) Via.refl eq315 FM (g := (mkF m 11 #[.val (.ref a)] [(.ref a)])) rfl rfl (Jvm.hb hby d10_11)
    have pre319 := fun (τ : State) kt => pre317 τ (by
      show Steps p.tables e below (T315.setTop (mkF m 7 #[.val (.ref a)] [(.int (1 : Int32))])) τ
      refine XS.ifNo X315.here hx rfl (Jvm.hb hby d10_7) rfl ((if0 _ _).trans (feq (by decide)).1) ?_
      refine XS.aloadN X315.here hx rfl (Jvm.hb hby d10_10) rfl rfl ?_
      exact st318 τ kt)
    have pre320 := fun (τ : State) kt => pre319 τ (by
      show Steps p.tables e below (T318.setTop (mkF m 14 #[.val (.ref a)] [(.ref ms)])) τ
      refine XS.goto X318.here hx rfl (pc0 := 14) (pc' := 46) rfl (Jvm.hb hby d10_14) (by decide) (by decide) ?_
      exact kt)
    have eE : T318.heap = h0 := e318
    obtain ⟨fs, hrL, hrun, hended, hRE⟩ := X318.leaveW hS0 (Nat.le_trans (Nat.le_trans hk0 CM0.2.1) (Nat.le_of_eq (congrArg Array.size eE.symm))) (v := some (.ref ms)) (fun h => by rw [Bd.returns] at h; cases h)
    refine ⟨_, _, cast (congrFun hPS _) (pre320 _ ?_), hrun, hended, _, _, rfl, ?_, ?_, hRE.1, hRE.2.1, hRE.2.2.1, hRE.2.2.2.mono (by decide) (by decide)⟩
    · show Steps p.tables e below (T318.setTop (mkF m 46 #[.val (.ref a)] [(.ref ms)])) _
      exact retOut X318 hx Bd.returns rfl (Or.inr (Or.inr (Or.inr (Or.inr ⟨rfl, rfl, rfl⟩)))) (Jvm.hb hby d10_46) hrL
    · show QT Z (own_xs pn p0 p1 m0 m1) (own_tot pn mn) h0 n0 _ T318.heap _
      rw [e318]
      refine ⟨N315, KK0, ms, mb, km, rfl, EM, M2, M1, ?_⟩
      unfold own_tot
      rw [if_pos qp, qp]
      exact own_arv MV (own_list0 hm)
    · show CHr Z EL s.vm s.heap T318.vm T318.heap
      rw [hh, eE]
      exact (CT0.trans CM0).trans (CHv.at X318 hZ hEL CM0.1)
  · skip
    have pre321 : ∀ τ, Steps p.tables e below (T315.setTop (mkF m 7 #[.val (.ref a)] [(.int (0 : Int32))])) τ → PS τ := by have hq := pre316; rw [if_neg qp] at hq; exact hq
    have h12 := own_n12 hp qp
    obtain ⟨T322, h322, X322, e322, E322, A322, D322, -, st322⟩ := newO X315 hx hZ hown (own_W65 hw) (own_W66 hw) (own_W67 hw) eq315 (g := (mkF m 17 #[.val (.ref a)] [])) rfl (Jvm.hb hby d10_17) (by decide) (by decide)
    obtain ⟨sb, g322⟩ : ∃ z, z = h0.size := ⟨_, rfl⟩
    rw [← g322] at A322 D322 st322
    have ne_a_sb : a ≠ sb := Nat.ne_of_lt (Nat.lt_of_lt_of_le E7.lt (Nat.le_of_eq g322.symm))
    have ne_ps_sb : ps ≠ sb := Nat.ne_of_lt (Nat.lt_of_lt_of_le EP.lt (Nat.le_of_eq g322.symm))
    have ne_pb_sb : pb ≠ sb := Nat.ne_of_lt (Nat.lt_of_lt_of_le PV.lt (Nat.le_of_eq g322.symm))
    have ne_ms_sb : ms ≠ sb := Nat.ne_of_lt (Nat.lt_of_lt_of_le EM.lt (Nat.le_of_eq g322.symm))
    have ne_mb_sb : mb ≠ sb := Nat.ne_of_lt (Nat.lt_of_lt_of_le MV.lt (Nat.le_of_eq g322.symm))
    have g_sb : n0 ≤ sb := Nat.le_trans (Nat.le_trans Z0 KK0.1) (Nat.le_of_eq g322.symm)
    have sz_sb : h0.size ≤ sb := Nat.le_trans KK0.1 (Nat.le_of_eq g322.symm)
    have K322 : Keep h0 h322 [] := KK0.ext E322
    have F_value_sb : Fld Z h322 sb "java/lang/AbstractStringBuilder" "value" "[B" .null := D322 (Or.inl (own_W80 hw)) (ty := (.array .byte)) (by decide)
    have F_coder_sb : Fld Z h322 sb "java/lang/AbstractStringBuilder" "coder" "B" (.int (0 : Int32)) := D322 (Or.inl (own_W82 hw)) (ty := .byte) (by decide)
    have F_count_sb : Fld Z h322 sb "java/lang/AbstractStringBuilder" "count" "I" (.int (0 : Int32)) := D322 (Or.inl (own_W104 hw)) (ty := .int) (by decide)
    have pre323 := fun (τ : State) kt => pre321 τ (by
      show Steps p.tables e below (T315.setTop (mkF m 7 #[.val (.ref a)] [(.int (0 : Int32))])) τ
      refine XS.ifYes X315.here hx rfl (pc0 := 7) (pc' := 17) rfl (Jvm.hb hby d10_7) rfl ((if0 _ _).trans (teq rfl).1) (by decide) (by decide) ?_
      exact st322 τ kt)
    have CM322 := CM0.trans (CHr.ext E322 CM0.1)
    have f324 := E7.ext E322
    have f325 := EP.ext E322
    have f326 := PV.ext E322
    have f327 := EM.ext E322
    have f328 := MV.ext E322
    have old329 := OLD0.ext E322
    obtain ⟨_, T330, L330, X330, ⟨bv, kd, rfl, Nq330, Kq330, gb, sb_, nba, qv, qc, qn, va⟩, st330⟩ := own_spec (y := own_mn22) (b := sb) X322 hx hZ rfl hown (own_W68 hw) (own_W69 hw) (by decide) (rmSBI l Z a0 hw [] sb cz h322 n0 (Nat.le_trans Z0 K322.1) A322 F_value_sb F_coder_sb F_count_sb g_sb O2 P5 old329) (own_W70 hw) (own_W67 hw) 1 (by decide) (by decide) e322 (mkF m 21 #[.val (.ref a)] [(.ref sb), (.ref sb)]) rfl (by rw [hml]; rfl) [] [(.ref sb)] rfl (lenOf own_pd___V rfl) rfl (Nat.le_refl _) (Jvm.hb hby d10_21) (by decide) (by decide)
    have N330 := Fr.app N315 Nq330
    have K330 : Keep h0 T330.heap [] := K322.trans Kq330 (allS (Or.inr sz_sb) (all0))
    have pre331 := fun (τ : State) kt => pre323 τ (by
      show Steps p.tables e below (T322.setTop (mkF m 20 #[.val (.ref a)] [(.ref sb)])) τ
      refine XS.dup X322.here hx rfl (Jvm.hb hby d10_20) rfl rfl ?_
      exact st330 τ kt)
    have sfp_bv := Safe.new (Z := Z) (EL := EL) (vm := (s.setVm s.vm).vm) sb_
    have CM332 := CM322.trans (CHr.keep Kq330 (fun y hy => by rw [List.mem_singleton.mp hy]; exact (Safe.exa hZ.alike A322 (by decide) (by decide))) CM322.1)
    have sf332_bv := Safe.keep Kq330 (fun y hy => by rw [List.mem_singleton.mp hy]; exact (Safe.exa hZ.alike A322 (by decide) (by decide))) CM322.1 sfp_bv
    have ne_a_bv : a ≠ bv := Nat.ne_of_lt (Nat.lt_of_lt_of_le f324.lt sb_)
    have ne_ps_bv : ps ≠ bv := Nat.ne_of_lt (Nat.lt_of_lt_of_le f325.lt sb_)
    have ne_pb_bv : pb ≠ bv := Nat.ne_of_lt (Nat.lt_of_lt_of_le f326.lt sb_)
    have ne_ms_bv : ms ≠ bv := Nat.ne_of_lt (Nat.lt_of_lt_of_le f327.lt sb_)
    have ne_mb_bv : mb ≠ bv := Nat.ne_of_lt (Nat.lt_of_lt_of_le f328.lt sb_)
    have ne_sb_bv : sb ≠ bv := Nat.ne_of_lt (Nat.lt_of_lt_of_le A322.lt sb_)
    have sz_bv : h0.size ≤ bv := Nat.le_trans K322.1 sb_
    have f334 := FP.ext E322
    have f335 := f334.keep Kq330 (ninS ne_a_sb (nin0))
    obtain ⟨T333, X333, e333, st333⟩ := getF X330 hx hZ hown (host := "") (Or.inl (own_W50 hw)) Via.refl rfl f335 (g := (mkF m 25 #[.val (.ref a)] [(.ref a), (.ref sb)])) rfl rfl (Jvm.hb hby d10_25)
    have pre336 := fun (τ : State) kt => pre331 τ (by
      show Steps p.tables e below (T330.setTop (mkF m 24 #[.val (.ref a)] [(.ref sb)])) τ
      refine XS.aloadN X330.here hx rfl (Jvm.hb hby d10_24) rfl rfl ?_
      exact st333 τ kt)
    have f337 := A322.keep Kq330
    have f338 := f325.keep Kq330
    have f339 := P1.ext E322
    have f340 := f339.keep Kq330 (ninS ne_ps_sb (nin0))
    have f341 := P2.ext E322
    have f342 := f341.keep Kq330 (ninS ne_ps_sb (nin0))
    have f343 := f326.keep Kq330 (ninS ne_pb_sb (nin0))
    have old344 := old329.keep Kq330 (allS g_sb (all0))
    obtain ⟨_, T345, L345, X345, ⟨rfl, Nq345, Kq345, qv345, qc345, qn345, va345⟩, st345⟩ := own_virt (y := own_mn23) (b := sb) X333 hx hZ hown (own_W83 hw) (own_W84 hw) (own_W86 hw) (own_W85 hw) (by decide) (rmAp l Z a0 hw [] sb ps cz pb bv kp kd pn (0 : Int32) [.int p0, .int p1] own_z16 T330.heap n0 (Nat.le_trans Z0 K330.1) f337 qv qc qn va f338 f340 f342 f343  (own_cap1 h12).1 (own_cap1 h12).2.1 (own_cap1 h12).2.2 rfl gb g_sb nba ne_ps_sb ne_pb_sb ne_pb_bv ne_ps_bv ne_sb_bv O2 P5 old344) (own_W87 hw) (own_W67 hw) 0 (by decide) (by decide) f337 e333 (mkF m 28 #[.val (.ref a)] [(.ref ps), (.ref sb)]) rfl (by rw [hml]; rfl) [(.ref ps)] [] rfl (lenOf own_pd__Ljava_lang_String__Ljava_lang_StringBuilder_ rfl) rfl (Nat.le_refl _) (Jvm.hb hby d10_28) (by decide) (by decide)
    have N345 := Fr.app N330 Nq345
    have K345 : Keep h0 T345.heap [] := K330.trans Kq345 (allS (Or.inr sz_sb) (allS (Or.inr sz_bv) (all0)))
    have pre346 := fun (τ : State) kt => pre336 τ (st345 τ kt)
    have CM347 := CM332.trans (CHr.keep Kq345 (fun y hy => (List.mem_cons.mp hy).elim (fun q => by rw [q]; exact (Safe.exa hZ.alike f337 (by decide) (by decide))) (fun q => by rw [List.mem_singleton.mp q]; exact sf332_bv)) CM332.1)
    have sf347_bv := Safe.keep Kq345 (fun y hy => (List.mem_cons.mp hy).elim (fun q => by rw [q]; exact (Safe.exa hZ.alike f337 (by decide) (by decide))) (fun q => by rw [List.mem_singleton.mp q]; exact sf332_bv)) CM332.1 sf332_bv
    have hl348 : (own_cpl own_z16 [.int p0, .int p1] 0 (0 : Int32) pn).length = 16 := (own_cpl_len (by rw [show own_z16.length = 16 from rfl]; exact (own_cap1 h12).2.2)).trans rfl
    obtain ⟨x1, T349, h349, k349, b349, kb349, X349, e349, E349, hS349, hk349, hZ, hown, A349, fc349, fv349, V349, lt349, ltb349, C349, -, ne349, st349⟩ := ldcCH X345 hx hZ hown (own_W130 hw) wS rfl hS0 (Nat.le_trans hk0 CM347.2.1) hEL (by decide) CM347.1 (vs := [(.int (58 : Int32)), (.int (32 : Int32))]) (z := (2 : Int32)) ⟨by decide, rfl⟩ (by decide) rfl (g := (mkF m 31 #[.val (.ref a)] [(.ref sb)])) rfl (Jvm.hb hby d10_31) (n := 8) (by decide) (by decide) (by decide) (by decide)
    have K349 : Keep h0 h349 [] := K345.ext E349
    have CT349 := (CT0.trans CM347).trans C349
    have sf349_bv := C349.safe va345.lt sf347_bv
    have CM349 := CHr.refl C349.1
    have ne_bv_x1 : bv ≠ x1 := (ne349 bv sf349_bv).1
    have ne_bv_b349 : bv ≠ b349 := (ne349 bv sf349_bv).2
    have f350 := f337.keep Kq345
    have f351 := f350.ext E349
    have ne_sb_x1 : sb ≠ x1 := (ne349 sb (Safe.exa hZ.alike f351 (by decide) (by decide))).1
    have ne_sb_b349 : sb ≠ b349 := (ne349 sb (Safe.exa hZ.alike f351 (by decide) (by decide))).2
    have pre352 := fun (τ : State) kt => pre346 τ (st349 τ kt)
    have f353 := qv345.ext E349
    have f354 := qc345.ext E349
    have f355 := qn345.ext E349
    have f356 := va345.ext E349
    have old357 := old344.keep Kq345 (allS g_sb (allS gb (all0)))
    have old358 := old357.ext E349
    obtain ⟨_, T359, L359, X359, ⟨rfl, Nq359, Kq359, qv359, qc359, qn359, va359⟩, st359⟩ := own_virt (y := own_mn23) (b := sb) X349 hx hZ hown (own_W83 hw) (own_W84 hw) (own_W86 hw) (own_W85 hw) (by decide) (rmAp l Z a0 hw [] sb x1 cz b349 bv kb349 kd (2 : Int32) ((0 : Int32) + pn) [.int 58, .int 32] (own_cpl own_z16 [.int p0, .int p1] 0 (0 : Int32) pn) h349 n0 (Nat.le_trans Z0 K349.1) f351 f353 f354 f355 f356 A349 fv349 fc349 V349  (own_cap2 h12).1 (own_cap2 h12).2.1 (own_cap2 h12).2.2 hl348 gb g_sb nba (Ne.symm ne_sb_x1) (Ne.symm ne_sb_b349) (Ne.symm ne_bv_b349) (Ne.symm ne_bv_x1) ne_sb_bv O2 P5 old358) (own_W87 hw) (own_W67 hw) 0 (by decide) (by decide) f351 e349 (mkF m 33 #[.val (.ref a)] [(.ref x1), (.ref sb)]) rfl (by rw [hml]; rfl) [(.ref x1)] [] rfl (lenOf own_pd__Ljava_lang_String__Ljava_lang_StringBuilder_ rfl) rfl (Nat.le_refl _) (Jvm.hb hby d10_33) (by decide) (by decide)
    have N359 := Fr.app N345 Nq359
    have K359 : Keep h0 T359.heap [] := K349.trans Kq359 (allS (Or.inr sz_sb) (allS (Or.inr sz_bv) (all0)))
    have pre360 := fun (τ : State) kt => pre352 τ (st359 τ kt)
    have CM361 := CM349.trans (CHr.keep Kq359 (fun y hy => (List.mem_cons.mp hy).elim (fun q => by rw [q]; exact (Safe.exa hZ.alike f351 (by decide) (by decide))) (fun q => by rw [List.mem_singleton.mp q]; exact sf349_bv)) CM349.1)
    have sf361_bv := Safe.keep Kq359 (fun y hy => (List.mem_cons.mp hy).elim (fun q => by rw [q]; exact (Safe.exa hZ.alike f351 (by decide) (by decide))) (fun q => by rw [List.mem_singleton.mp q]; exact sf349_bv)) CM349.1 sf349_bv
    have hl362 : (own_cpl (own_cpl own_z16 [.int p0, .int p1] 0 (0 : Int32) pn) [.int 58, .int 32] 0 ((0 : Int32) + pn) (2 : Int32)).length = 16 := (own_cpl_len (by rw [hl348]; exact (own_cap2 h12).2.2)).trans hl348
    have f364 := FM.ext E322
    have f365 := f364.keep Kq330 (ninS ne_a_sb (nin0))
    have f366 := f365.keep Kq345 (ninS ne_a_sb (ninS ne_a_bv (nin0)))
    have f367 := f366.ext E349
    have f368 := f367.keep Kq359 (ninS ne_a_sb (ninS ne_a_bv (nin0)))
    obtain ⟨T363, X363, e363, st363⟩ := getF X359 hx hZ hown (host := "") (Or.inl (own_W53 hw)) Via.refl rfl f368 (g := (mkF m 37 #[.val (.ref a)] [(.ref a), (.ref sb)])) rfl rfl (Jvm.hb hby d10_37)
    have pre369 := fun (τ : State) kt => pre360 τ (by
      show Steps p.tables e below (T359.setTop (mkF m 36 #[.val (.ref a)] [(.ref sb)])) τ
      refine XS.aloadN X359.here hx rfl (Jvm.hb hby d10_36) rfl rfl ?_
      exact st363 τ kt)
    have f370 := f351.keep Kq359
    have f371 := f327.keep Kq330
    have f372 := f371.keep Kq345
    have f373 := f372.ext E349
    have f374 := f373.keep Kq359
    have f375 := M1.ext E322
    have f376 := f375.keep Kq330 (ninS ne_ms_sb (nin0))
    have f377 := f376.keep Kq345 (ninS ne_ms_sb (ninS ne_ms_bv (nin0)))
    have f378 := f377.ext E349
    have f379 := f378.keep Kq359 (ninS ne_ms_sb (ninS ne_ms_bv (nin0)))
    have f380 := M2.ext E322
    have f381 := f380.keep Kq330 (ninS ne_ms_sb (nin0))
    have f382 := f381.keep Kq345 (ninS ne_ms_sb (ninS ne_ms_bv (nin0)))
    have f383 := f382.ext E349
    have f384 := f383.keep Kq359 (ninS ne_ms_sb (ninS ne_ms_bv (nin0)))
    have f385 := f328.keep Kq330 (ninS ne_mb_sb (nin0))
    have f386 := f385.keep Kq345 (ninS ne_mb_sb (ninS ne_mb_bv (nin0)))
    have f387 := f386.ext E349
    have f388 := f387.keep Kq359 (ninS ne_mb_sb (ninS ne_mb_bv (nin0)))
    have old389 := old358.keep Kq359 (allS g_sb (allS gb (all0)))
    obtain ⟨_, T390, L390, X390, ⟨rfl, Nq390, Kq390, qv390, qc390, qn390, va390⟩, st390⟩ := own_virt (y := own_mn23) (b := sb) X363 hx hZ hown (own_W83 hw) (own_W84 hw) (own_W86 hw) (own_W85 hw) (by decide) (rmAp l Z a0 hw [] sb ms cz mb bv km kd mn (((0 : Int32) + pn) + (2 : Int32)) [.int m0, .int m1] (own_cpl (own_cpl own_z16 [.int p0, .int p1] 0 (0 : Int32) pn) [.int 58, .int 32] 0 ((0 : Int32) + pn) (2 : Int32)) T359.heap n0 (Nat.le_trans Z0 K359.1) f370 qv359 qc359 qn359 va359 f374 f379 f384 f388  (own_cap3 h12 hm).1 (own_cap3 h12 hm).2.1 (own_cap3 h12 hm).2.2 hl362 gb g_sb nba ne_ms_sb ne_mb_sb ne_mb_bv ne_ms_bv ne_sb_bv O2 P5 old389) (own_W87 hw) (own_W67 hw) 0 (by decide) (by decide) f370 e363 (mkF m 40 #[.val (.ref a)] [(.ref ms), (.ref sb)]) rfl (by rw [hml]; rfl) [(.ref ms)] [] rfl (lenOf own_pd__Ljava_lang_String__Ljava_lang_StringBuilder_ rfl) rfl (Nat.le_refl _) (Jvm.hb hby d10_40) (by decide) (by decide)
    have N390 := Fr.app N359 Nq390
    have K390 : Keep h0 T390.heap [] := K359.trans Kq390 (allS (Or.inr sz_sb) (allS (Or.inr sz_bv) (all0)))
    have pre391 := fun (τ : State) kt => pre369 τ (st390 τ kt)
    have CM392 := CM361.trans (CHr.keep Kq390 (fun y hy => (List.mem_cons.mp hy).elim (fun q => by rw [q]; exact (Safe.exa hZ.alike f370 (by decide) (by decide))) (fun q => by rw [List.mem_singleton.mp q]; exact sf361_bv)) CM361.1)
    have sf392_bv := Safe.keep Kq390 (fun y hy => (List.mem_cons.mp hy).elim (fun q => by rw [q]; exact (Safe.exa hZ.alike f370 (by decide) (by decide))) (fun q => by rw [List.mem_singleton.mp q]; exact sf361_bv)) CM361.1 sf361_bv
    have hl393 : (own_cpl (own_cpl (own_cpl own_z16 [.int p0, .int p1] 0 (0 : Int32) pn) [.int 58, .int 32] 0 ((0 : Int32) + pn) (2 : Int32)) [.int m0, .int m1] 0 (((0 : Int32) + pn) + (2 : Int32)) mn).length = 16 := (own_cpl_len (by rw [hl362]; exact (own_cap3 h12 hm).2.2)).trans hl362
    have f394 := f370.keep Kq390
    have old395 := old389.keep Kq390 (allS g_sb (allS gb (all0)))
    obtain ⟨_, T396, L396, X396, ⟨Nq396, Kq396, rr, nb, kn, rfl, rE, rC, rV, rB⟩, st396⟩ := own_virt (y := own_mn24) (b := sb) X390 hx hZ hown (own_W131 hw) (own_W132 hw) (own_W134 hw) (own_W133 hw) (by decide) (rmTS l Z a0 hw [] sb cz bv kd (own_cpl (own_cpl (own_cpl own_z16 [.int p0, .int p1] 0 (0 : Int32) pn) [.int 58, .int 32] 0 ((0 : Int32) + pn) (2 : Int32)) [.int m0, .int m1] 0 (((0 : Int32) + pn) + (2 : Int32)) mn) ((((0 : Int32) + pn) + (2 : Int32)) + mn) T390.heap n0 (Nat.le_trans Z0 K390.1) f394 qv390 qc390 qn390 va390 (own_cap4 h12 hm).1 (own_cap4 h12 hm).2.1 hl393 (own_cap4 h12 hm).2.2 O2 P5 old395) (own_W135 hw) (own_W67 hw) 0 (by decide) (by decide) f394 rfl (mkF m 43 #[.val (.ref a)] [(.ref sb)]) rfl (by rw [hml]; rfl) [] [] rfl (lenOf own_pd___Ljava_lang_String_ rfl) rfl (Nat.le_refl _) (Jvm.hb hby d10_43) (by decide) (by decide)
    have N396 := Fr.app N390 Nq396
    have K396 : Keep h0 T396.heap [] := K390.trans Kq396 (all0)
    have pre397 := fun (τ : State) kt => pre391 τ (st396 τ kt)
    have CM398 := CM392.trans (CHr.keep Kq396 (fun y hy => by cases hy) CM392.1)
    have sf398_bv := Safe.keep Kq396 (fun y hy => by cases hy) CM392.1 sf392_bv
    have eE : T396.heap = T396.heap := rfl
    obtain ⟨fs, hrL, hrun, hended, hRE⟩ := X396.leaveW hS349 (Nat.le_trans (Nat.le_trans hk349 CM398.2.1) (Nat.le_of_eq (congrArg Array.size eE.symm))) (v := some (.ref rr)) (fun h => by rw [Bd.returns] at h; cases h)
    refine ⟨_, _, cast (congrFun hPS _) (pre397 _ ?_), hrun, hended, _, _, rfl, ?_, ?_, hRE.1, hRE.2.1, hRE.2.2.1, hRE.2.2.2.mono (by decide) (by decide)⟩
    · show Steps p.tables e below (T396.setTop (mkF m 46 #[.val (.ref a)] [(.ref rr)])) _
      exact retOut X396 hx Bd.returns rfl (Or.inr (Or.inr (Or.inr (Or.inr ⟨rfl, rfl, rfl⟩)))) (Jvm.hb hby d10_46) hrL
    · show QT Z (own_xs pn p0 p1 m0 m1) (own_tot pn mn) h0 n0 _ T396.heap _
      refine ⟨N396, K396, rr, nb, kn, rfl, rE, rC, rV, ?_⟩
      unfold own_tot
      rw [if_neg qp, ← own_len]
      exact own_arv rB (own_list1 h12 hm)
    · show CHr Z EL s.vm s.heap T396.vm T396.heap
      rw [hh, eE]
      exact (CT349.trans CM398).trans (CHv.at X396 hZ hEL CM398.1)
theorem d38_0 : decode jdk_41_method_11_code 0 = .ok (.iload_n 0, 1) := by decide +kernel
theorem d38_1 : decode jdk_41_method_11_code 1 = .ok (.ifCond .lt 8, 3) := by decide +kernel
theorem d38_4 : decode jdk_41_method_11_code 4 = .ok (.iload_n 0, 1) := by decide +kernel
theorem d38_5 : decode jdk_41_method_11_code 5 = .ok (.iload_n 1, 1) := by decide +kernel
theorem d38_6 : decode jdk_41_method_11_code 6 = .ok (.if_icmp .lt 10, 3) := by decide +kernel
theorem d38_9 : decode jdk_41_method_11_code 9 = .ok (.aload_n 2, 1) := by decide +kernel
theorem d38_10 : decode jdk_41_method_11_code 10 = .ok (.iload_n 0, 1) := by decide +kernel
theorem d38_11 : decode jdk_41_method_11_code 11 = .ok (.iload_n 1, 1) := by decide +kernel
theorem d38_12 : decode jdk_41_method_11_code 12 = .ok (.invokestatic 95, 3) := by decide +kernel
theorem d38_15 : decode jdk_41_method_11_code 15 = .ok (.athrow, 1) := by decide +kernel
theorem d38_16 : decode jdk_41_method_11_code 16 = .ok (.iload_n 0, 1) := by decide +kernel
theorem d38_17 : decode jdk_41_method_11_code 17 = .ok (.ireturn, 1) := by decide +kernel
theorem own_pn_jdk_internal_util_Preconditions : plainName "jdk/internal/util/Preconditions" = true := by first | (simp [plainName, overriddenIn]; done) | decide +kernel
theorem own_ef38 (m : MethodId) (x0 : Int32) (x1 : Int32) (x2 : Value) (q2 : x2 = .null ∨ ∃ b, x2 = .ref b) : entryFrame m #[(.int x0), (.int x1), x2] 3 = mkF m 0 #[.val (.int x0), .val (.int x1), .val x2] [] := by rcases q2 with rfl | ⟨b2, rfl⟩ <;> first | (simp [entryFrame, mkF, argsToLocals, Value.category]; done) | rfl
set_option maxRecDepth 65536 in
set_option maxHeartbeats 40000000 in
theorem rmPC (l : Launch) (Z : State) (a0 : Array Value) (hw : ∀ d ∈ tables_1, d.before a0 Z = true) (ws : List Jvm.Cond) (ci : Int32) (cl : Int32) (vf : Value)  (h0 : Heap) (n0 : Nat) (Z0 : n0 ≤ h0.size) (q_vf : vf = .null ∨ ∃ b, vf = .ref b) (h1 : ¬ ci < 0) (h2 : ci < cl) :
    MetFree l (⟨"jdk/internal/util/Preconditions", "checkIndex", "(IILjava/util/function/BiFunction;)I"⟩ : MethodName) (head1 (Jvm.Cond.code (⟨"jdk/internal/util/Preconditions", "checkIndex", "(IILjava/util/function/BiFunction;)I"⟩ : MethodName) jdk_41_method_11_code 3 (some .int) :: ws) ({ frames := 0, cells := 0, slots := 0, locals := 0 } : Room)) (fun α U => α = #[(.int ci), (.int cl), vf] ∧ Z.Warmed39 U.vm ∧ U.heap = h0) (fun _ _ _ _ _ => True) (fun _ U ω U' => ∃ ν Λ, ω = .returned ν ∧ QI ci h0 n0 ν U'.heap Λ ∧ FrameEnd U ω U' Λ ({ frames := 0, cells := 0, slots := 0, locals := 0 } : Room).cells ({ frames := 0, cells := 0, slots := 0, locals := 0 } : Room).slots) := by
  refine MetFree.of_bodySF (plainFor_of_name own_pn_jdk_internal_util_Preconditions) hisR ?_
  intro p e s m args below meth c s₁ Bd hml0 hP hK
  obtain ⟨rfl, hZ, hh⟩ := hP
  have hx := Bd.exec
  have hby := Bd.bytes
  have hml : c.maxLocals = 3 := hml0
  have hown : s.vm.findClass "jdk/internal/util/Preconditions" = some m.cls := findClass_of_methodNamed Bd.named
  have hnm := (name_of_methodNamed Bd.named Bd.method).1
  have X0 : Stand p l e ({ frames := 0, cells := 0, slots := 0, locals := 0 } : Room) s m #[(.int ci), (.int cl), vf] below meth c s₁ [] 0 0 := Stand.of_body Bd
  have e0 : s₁.heap = h0 := by rw [← hh, Bd.state]; rfl
  have N0 := Fr.nil n0
  have KK0 : Keep h0 h0 [] := Keep.refl h0 []
  obtain ⟨PS, hPS⟩ : ∃ P : State → Prop, P = fun τ => Steps p.tables e below (s₁.setTop (entryFrame m #[(.int ci), (.int cl), vf] 3)) τ := ⟨_, rfl⟩
  have pre0 : ∀ τ, Steps p.tables e below (s₁.setTop (mkF m 0 #[.val (.int ci), .val (.int cl), .val vf] [])) τ → PS τ := by rw [hPS]; exact fun τ κ => castTop (own_ef38 m ci cl vf q_vf) κ
  have pre399 := fun (τ : State) kt => pre0 τ (by
    show Steps p.tables e below (s₁.setTop (mkF m 0 #[.val (.int ci), .val (.int cl), .val vf] [])) τ
    refine XS.iloadN X0.here hx rfl (Jvm.hb hby d38_0) rfl ?_
    refine XS.ifNo X0.here hx rfl (Jvm.hb hby d38_1) rfl ((if0 _ _).trans (flt h1).1) ?_
    refine XS.iloadN X0.here hx rfl (Jvm.hb hby d38_4) rfl ?_
    refine XS.iloadN X0.here hx rfl (Jvm.hb hby d38_5) rfl ?_
    refine XS.icmpYes X0.here hx rfl (pc0 := 6) (pc' := 16) rfl (Jvm.hb hby d38_6) rfl (tlt h2).1 (by decide) (by decide) ?_
    refine XS.iloadN X0.here hx rfl (Jvm.hb hby d38_16) rfl ?_
    exact kt)
  obtain ⟨fs, hrL, hrun, hended, hW, hsame⟩ := X0.leave (v := some (.int ci)) (fun h => by rw [Bd.returns] at h; cases h)
  refine ⟨_, _, cast (congrFun hPS _) (pre399 _ ?_), hrun, hended, _, _, rfl, ?_, ⟨_, rfl⟩, hW, hsame.mono (by decide) (by decide)⟩
  · show Steps p.tables e below (s₁.setTop (mkF m 17 #[.val (.int ci), .val (.int cl), .val vf] [(.int ci)])) _
    exact retI X0 hx Bd.returns (Jvm.hb hby d38_17) hrL
  · show QI ci h0 n0 _ s₁.heap _
    rw [e0]
    exact ⟨rfl, N0, rfl⟩
theorem d37_0 : decode jdk_42_method_155_code 0 = .ok (.iload_n 0, 1) := by decide +kernel
theorem d37_1 : decode jdk_42_method_155_code 1 = .ok (.iload_n 1, 1) := by decide +kernel
theorem d37_2 : decode jdk_42_method_155_code 2 = .ok (.getstatic 1053, 3) := by decide +kernel
theorem d37_5 : decode jdk_42_method_155_code 5 = .ok (.invokestatic 1059, 3) := by decide +kernel
theorem d37_8 : decode jdk_42_method_155_code 8 = .ok (.pop, 1) := by decide +kernel
theorem d37_9 : decode jdk_42_method_155_code 9 = .ok (.return_, 1) := by decide +kernel
theorem own_ef37 (m : MethodId) (x0 : Int32) (x1 : Int32) : entryFrame m #[(.int x0), (.int x1)] 2 = mkF m 0 #[.val (.int x0), .val (.int x1)] [] := by first | (simp [entryFrame, mkF, argsToLocals, Value.category]; done) | rfl
set_option maxRecDepth 65536 in
set_option maxHeartbeats 40000000 in
theorem rmCI (l : Launch) (Z : State) (a0 : Array Value) (hw : ∀ d ∈ tables_1, d.before a0 Z = true) (ws : List Jvm.Cond) (ci : Int32) (cl : Int32) (vf : Value) (h0 : Heap) (n0 : Nat) (Z0 : n0 ≤ h0.size) (O3 : Sta Z Z.heap "jdk/internal/util/Preconditions" "SIOOBE_FORMATTER" "Ljava/util/function/BiFunction;" vf) (q_vf : vf = .null ∨ ∃ b, vf = .ref b) (OLD0 : Old Z n0 h0) (h1 : ¬ ci < 0) (h2 : ci < cl) :
    MetFree l (⟨"java/lang/String", "checkIndex", "(II)V"⟩ : MethodName) (head1 (Jvm.Cond.code (⟨"java/lang/String", "checkIndex", "(II)V"⟩ : MethodName) jdk_42_method_155_code 2 none :: ws) ({ frames := 1, cells := 0, slots := 0, locals := 14 } : Room)) (fun α U => α = #[(.int ci), (.int cl)] ∧ Z.Warmed39 U.vm ∧ U.heap = h0) (fun _ _ _ _ _ => True) (fun _ U ω U' => ∃ ν Λ, ω = .returned ν ∧ QU h0 n0 ν U'.heap Λ ∧ FrameEnd U ω U' Λ ({ frames := 1, cells := 0, slots := 0, locals := 14 } : Room).cells ({ frames := 1, cells := 0, slots := 0, locals := 14 } : Room).slots) := by
  refine MetFree.of_bodySF (plainFor_of_name own_pn_java_lang_String) hisR ?_
  intro p e s m args below meth c s₁ Bd hml0 hP hK
  obtain ⟨rfl, hZ, hh⟩ := hP
  have hx := Bd.exec
  have hby := Bd.bytes
  have hml : c.maxLocals = 2 := hml0
  have hown : s.vm.findClass "java/lang/String" = some m.cls := findClass_of_methodNamed Bd.named
  have hnm := (name_of_methodNamed Bd.named Bd.method).1
  have X0 : Stand p l e ({ frames := 1, cells := 0, slots := 0, locals := 14 } : Room) s m #[(.int ci), (.int cl)] below meth c s₁ [] 0 0 := Stand.of_body Bd
  have e0 : s₁.heap = h0 := by rw [← hh, Bd.state]; rfl
  have N0 := Fr.nil n0
  have KK0 : Keep h0 h0 [] := Keep.refl h0 []
  obtain ⟨PS, hPS⟩ : ∃ P : State → Prop, P = fun τ => Steps p.tables e below (s₁.setTop (entryFrame m #[(.int ci), (.int cl)] 2)) τ := ⟨_, rfl⟩
  have pre0 : ∀ τ, Steps p.tables e below (s₁.setTop (mkF m 0 #[.val (.int ci), .val (.int cl)] [])) τ → PS τ := by rw [hPS]; exact fun τ κ => castTop (own_ef37 m ci cl) κ
  obtain ⟨T400, X400, e400, st400⟩ := getS2 X0 hx hZ hown (host := "") (Or.inl (own_W197 hw)) Via.refl e0 (O3.ext OLD0.2) (g := (mkF m 2 #[.val (.int ci), .val (.int cl)] [(.int cl), (.int ci)])) rfl (Jvm.hb hby d37_2)
  have pre401 := fun (τ : State) kt => pre0 τ (by
    show Steps p.tables e below (s₁.setTop (mkF m 0 #[.val (.int ci), .val (.int cl)] [])) τ
    refine XS.iloadN X0.here hx rfl (Jvm.hb hby d37_0) rfl ?_
    refine XS.iloadN X0.here hx rfl (Jvm.hb hby d37_1) rfl ?_
    exact st400 τ kt)
  obtain ⟨_, T402, L402, X402, ⟨rfl, Nq402, eq402⟩, st402⟩ := own_stat (y := own_mn25) X400 hx hZ hown (own_W199 hw) (own_W200 hw) (by decide) (rmPC l Z a0 hw [] ci cl vf h0 n0 (Nat.le_trans Z0 KK0.1) q_vf h1 h2) (own_W201 hw) (own_W198 hw) 0 (by decide) (by decide) e400 (mkF m 5 #[.val (.int ci), .val (.int cl)] [vf, (.int cl), (.int ci)]) rfl (by rw [hml]; rfl) [(.int ci), (.int cl), vf] [] rfl (lenOf own_pd__IILjava_util_function_BiFunction__I rfl) rfl (Nat.le_refl _) (Jvm.hb hby d37_5) (by decide) (by decide)
  have N402 := Fr.app N0 Nq402
  have pre403 := fun (τ : State) kt => pre401 τ (st402 τ kt)
  have pre404 := fun (τ : State) kt => pre403 τ (by
    show Steps p.tables e below (T402.setTop (mkF m 8 #[.val (.int ci), .val (.int cl)] [(.int ci)])) τ
    refine XT.pop X402.here hx rfl (Jvm.hb hby d37_8) rfl rfl ?_
    exact kt)
  obtain ⟨fs, hrL, hrun, hended, hW, hsame⟩ := X402.leave (v := none) (fun _ => rfl)
  refine ⟨_, _, cast (congrFun hPS _) (pre404 _ ?_), hrun, hended, _, _, rfl, ?_, ⟨_, rfl⟩, hW, hsame.mono (by decide) (by decide)⟩
  · show Steps p.tables e below (T402.setTop (mkF m 9 #[.val (.int ci), .val (.int cl)] [])) _
    exact X402.returnOut hx Bd.returns (Jvm.hb hby d37_9) hrL
  · show QU h0 n0 _ T402.heap _
    rw [eq402]
    exact ⟨rfl, N402, rfl⟩
theorem d36_0 : decode jdk_43_method_2_code 0 = .ok (.iload_n 1, 1) := by decide +kernel
theorem d36_1 : decode jdk_43_method_2_code 1 = .ok (.aload_n 0, 1) := by decide +kernel
theorem d36_2 : decode jdk_43_method_2_code 2 = .ok (.arraylength, 1) := by decide +kernel
theorem d36_3 : decode jdk_43_method_2_code 3 = .ok (.invokestatic 9, 3) := by decide +kernel
theorem d36_6 : decode jdk_43_method_2_code 6 = .ok (.aload_n 0, 1) := by decide +kernel
theorem d36_7 : decode jdk_43_method_2_code 7 = .ok (.iload_n 1, 1) := by decide +kernel
theorem d36_8 : decode jdk_43_method_2_code 8 = .ok (.baload, 1) := by decide +kernel
theorem d36_9 : decode jdk_43_method_2_code 9 = .ok (.sipush 255, 3) := by decide +kernel
theorem d36_12 : decode jdk_43_method_2_code 12 = .ok (.iand, 1) := by decide +kernel
theorem d36_13 : decode jdk_43_method_2_code 13 = .ok (.i2c, 1) := by decide +kernel
theorem d36_14 : decode jdk_43_method_2_code 14 = .ok (.ireturn, 1) := by decide +kernel
theorem own_pn_java_lang_StringLatin1 : plainName "java/lang/StringLatin1" = true := by first | (simp [plainName, overriddenIn]; done) | decide +kernel
theorem own_ef36 (m : MethodId) (x0 : Addr) (x1 : Int32) : entryFrame m #[(.ref x0), (.int x1)] 2 = mkF m 0 #[.val (.ref x0), .val (.int x1)] [] := by first | (simp [entryFrame, mkF, argsToLocals, Value.category]; done) | rfl
set_option maxRecDepth 65536 in
set_option maxHeartbeats 40000000 in
theorem rmLC0 (l : Launch) (Z : State) (a0 : Array Value) (hw : ∀ d ∈ tables_1, d.before a0 Z = true) (ws : List Jvm.Cond) (vb : Addr) (ci : Int32) (vf : Value) (kb : ClassId) (z v0 v1 v2 v3 v4 v5 : Int32) (h0 : Heap) (n0 : Nat) (Z0 : n0 ≤ h0.size) (hci : ci = (0 : Int32)) (VB : Arv Z h0 vb kb .byte z [(.int v0), (.int v1), (.int v2), (.int v3), (.int v4), (.int v5)] (.int (0 : Int32))) (h2 : (0 : Int32) < z) (OLD0 : Old Z n0 h0) (O3 : Sta Z Z.heap "jdk/internal/util/Preconditions" "SIOOBE_FORMATTER" "Ljava/util/function/BiFunction;" vf) (q_vf : vf = .null ∨ ∃ b, vf = .ref b) :
    MetFree l (⟨"java/lang/StringLatin1", "charAt", "([BI)C"⟩ : MethodName) (head1 (Jvm.Cond.code (⟨"java/lang/StringLatin1", "charAt", "([BI)C"⟩ : MethodName) jdk_43_method_2_code 2 (some .char) :: ws) ({ frames := 2, cells := 0, slots := 0, locals := 28 } : Room)) (fun α U => α = #[(.ref vb), (.int ci)] ∧ Z.Warmed39 U.vm ∧ U.heap = h0) (fun _ _ _ _ _ => True) (fun _ U ω U' => ∃ ν Λ, ω = .returned ν ∧ QI (own_ch v0) h0 n0 ν U'.heap Λ ∧ FrameEnd U ω U' Λ ({ frames := 2, cells := 0, slots := 0, locals := 28 } : Room).cells ({ frames := 2, cells := 0, slots := 0, locals := 28 } : Room).slots) := by
  refine MetFree.of_bodySF (plainFor_of_name own_pn_java_lang_StringLatin1) hisR ?_
  intro p e s m args below meth c s₁ Bd hml0 hP hK
  obtain ⟨rfl, hZ, hh⟩ := hP
  have hx := Bd.exec
  have hby := Bd.bytes
  have hml : c.maxLocals = 2 := hml0
  have hown : s.vm.findClass "java/lang/StringLatin1" = some m.cls := findClass_of_methodNamed Bd.named
  have hnm := (name_of_methodNamed Bd.named Bd.method).1
  have X0 : Stand p l e ({ frames := 2, cells := 0, slots := 0, locals := 28 } : Room) s m #[(.ref vb), (.int ci)] below meth c s₁ [] 0 0 := Stand.of_body Bd
  have e0 : s₁.heap = h0 := by rw [← hh, Bd.state]; rfl
  have N0 := Fr.nil n0
  have KK0 : Keep h0 h0 [] := Keep.refl h0 []
  obtain ⟨PS, hPS⟩ : ∃ P : State → Prop, P = fun τ => Steps p.tables e below (s₁.setTop (entryFrame m #[(.ref vb), (.int ci)] 2)) τ := ⟨_, rfl⟩
  have pre0 : ∀ τ, Steps p.tables e below (s₁.setTop (mkF m 0 #[.val (.ref vb), .val (.int ci)] [])) τ → PS τ := by rw [hPS]; exact fun τ κ => castTop (own_ef36 m vb ci) κ
  have pre405 : ∀ τ, Steps p.tables e below (s₁.setTop (mkF m 0 #[.val (.ref vb), .val (.int (0 : Int32))] [])) τ → PS τ := by have hq := pre0; rw [hci] at hq; exact hq
  obtain ⟨cl406, Ar406, q406, S406, M406, H406, U406⟩ := id VB
  have pre407 := fun (τ : State) kt => pre405 τ (by
    show Steps p.tables e below (s₁.setTop (mkF m 0 #[.val (.ref vb), .val (.int (0 : Int32))] [])) τ
    refine XS.iloadN X0.here hx rfl (Jvm.hb hby d36_0) rfl ?_
    refine XS.aloadN X0.here hx rfl (Jvm.hb hby d36_1) rfl rfl ?_
    refine X0.arraylength hx ((congrArg (fun (HH : Heap) => HH[vb]?) (e0 : s₁.heap = h0)).trans Ar406.1) (State.isArrayOf_alike hZ.alike Ar406.2.1) (g := (mkF m 2 #[.val (.ref vb), .val (.int (0 : Int32))] [(.ref vb), (.int (0 : Int32))])) rfl rfl (Jvm.hb hby d36_2) _ ?_
    exact kt)
  have pre408 : ∀ τ, Steps p.tables e below (s₁.setTop (mkF m 3 #[.val (.ref vb), .val (.int (0 : Int32))] [(.int z), (.int (0 : Int32))])) τ → PS τ := by
    have hq := pre407
    rw [len_of S406 M406] at hq
    exact hq
  obtain ⟨_, T409, L409, X409, ⟨rfl, Nq409, eq409⟩, st409⟩ := own_stat (y := own_mn26) X0 hx hZ hown (own_W194 hw) (own_W195 hw) (by decide) (rmCI l Z a0 hw [] (0 : Int32) z vf h0 n0 (Nat.le_trans Z0 KK0.1) O3 q_vf OLD0 (by decide) h2) (own_W196 hw) (own_W6 hw) 0 (by decide) (by decide) e0 (mkF m 3 #[.val (.ref vb), .val (.int (0 : Int32))] [(.int z), (.int (0 : Int32))]) rfl (by rw [hml]; rfl) [(.int (0 : Int32)), (.int z)] [] rfl (lenOf own_pd__II_V rfl) rfl (Nat.le_refl _) (Jvm.hb hby d36_3) (by decide) (by decide)
  have N409 := Fr.app N0 Nq409
  have pre410 := fun (τ : State) kt => pre408 τ (st409 τ kt)
  obtain ⟨cl411, Ar411, q411, S411, M411, H411, U411⟩ := id VB
  have in411 : ¬ ((0 : Int32) < 0 ∨ cl411.slots.size ≤ ((0 : Int32)).toNatClampNeg) := inb_of S411 ⟨by decide, h2⟩
  have pre412 := fun (τ : State) kt => pre410 τ (by
    show Steps p.tables e below (T409.setTop (mkF m 6 #[.val (.ref vb), .val (.int (0 : Int32))] [])) τ
    refine XS.aloadN X409.here hx rfl (Jvm.hb hby d36_6) rfl rfl ?_
    refine XS.iloadN X409.here hx rfl (Jvm.hb hby d36_7) rfl ?_
    refine X409.baloadBytes hx ((congrArg (fun (HH : Heap) => HH[vb]?) (eq409 : T409.heap = h0)).trans Ar411.1) (State.isArrayOf_alike hZ.alike Ar411.2.1) Ar411.2.2 in411 (H411.at in411 rfl) (g := (mkF m 8 #[.val (.ref vb), .val (.int (0 : Int32))] [(.int (0 : Int32)), (.ref vb)])) rfl rfl (Jvm.hb hby d36_8) _ ?_
    refine XS.sipush X409.here hx rfl (Jvm.hb hby d36_9) ?_
    refine XS.iand X409.here hx rfl (Jvm.hb hby d36_12) rfl ?_
    refine XT.i2c X409.here hx rfl (Jvm.hb hby d36_13) rfl ?_
    exact kt)
  obtain ⟨fs, hrL, hrun, hended, hW, hsame⟩ := X409.leave (v := some (.int (nar .char ((v0 &&& (255 : Int32))).toUInt32.toUInt16.toUInt32.toInt32))) (fun h => by rw [Bd.returns] at h; cases h)
  refine ⟨_, _, cast (congrFun hPS _) (pre412 _ ?_), hrun, hended, _, _, rfl, ?_, ⟨_, rfl⟩, hW, hsame.mono (by decide) (by decide)⟩
  · show Steps p.tables e below (T409.setTop (mkF m 14 #[.val (.ref vb), .val (.int (0 : Int32))] [(.int ((v0 &&& (255 : Int32))).toUInt32.toUInt16.toUInt32.toInt32)])) _
    exact retN X409 hx (t := .char) Bd.returns (by simp) (Jvm.hb hby d36_14) hrL
  · show QI (own_ch v0) h0 n0 _ T409.heap _
    rw [eq409]
    exact ⟨congrArg (fun z => some (Value.int z)) (own_nar_ch v0), N409, rfl⟩
theorem d34_0 : decode jdk_42_method_56_code 0 = .ok (.aload_n 0, 1) := by decide +kernel
theorem d34_1 : decode jdk_42_method_56_code 1 = .ok (.invokevirtual 492, 3) := by decide +kernel
theorem d34_4 : decode jdk_42_method_56_code 4 = .ok (.ifCond .eq 12, 3) := by decide +kernel
theorem d34_7 : decode jdk_42_method_56_code 7 = .ok (.aload_n 0, 1) := by decide +kernel
theorem d34_8 : decode jdk_42_method_56_code 8 = .ok (.getfield 9, 3) := by decide +kernel
theorem d34_11 : decode jdk_42_method_56_code 11 = .ok (.iload_n 1, 1) := by decide +kernel
theorem d34_12 : decode jdk_42_method_56_code 12 = .ok (.invokestatic 495, 3) := by decide +kernel
theorem d34_15 : decode jdk_42_method_56_code 15 = .ok (.ireturn, 1) := by decide +kernel
theorem d34_16 : decode jdk_42_method_56_code 16 = .ok (.aload_n 0, 1) := by decide +kernel
theorem d34_17 : decode jdk_42_method_56_code 17 = .ok (.getfield 9, 3) := by decide +kernel
theorem d34_20 : decode jdk_42_method_56_code 20 = .ok (.iload_n 1, 1) := by decide +kernel
theorem d34_21 : decode jdk_42_method_56_code 21 = .ok (.invokestatic 498, 3) := by decide +kernel
theorem d34_24 : decode jdk_42_method_56_code 24 = .ok (.ireturn, 1) := by decide +kernel
theorem own_ef34 (m : MethodId) (x0 : Addr) (x1 : Int32) : entryFrame m #[(.ref x0), (.int x1)] 2 = mkF m 0 #[.val (.ref x0), .val (.int x1)] [] := by first | (simp [entryFrame, mkF, argsToLocals, Value.category]; done) | rfl
set_option maxRecDepth 65536 in
set_option maxHeartbeats 40000000 in
theorem rmCA0 (l : Launch) (Z : State) (a0 : Array Value) (hw : ∀ d ∈ tables_1, d.before a0 Z = true) (ws : List Jvm.Cond) (a : Addr) (ci : Int32) (cz : Int32) (vb : Addr) (vf : Value) (kb : ClassId) (z v0 v1 v2 v3 v4 v5 : Int32) (h0 : Heap) (n0 : Nat) (Z0 : n0 ≤ h0.size) (hci : ci = (0 : Int32)) (E7 : Exa Z h0 a "java/lang/String") (F1 : Fld Z h0 a "java/lang/String" "value" "[B" (.ref vb)) (F2 : Fld Z h0 a "java/lang/String" "coder" "B" (.int (0 : Int32))) (VB : Arv Z h0 vb kb .byte z [(.int v0), (.int v1), (.int v2), (.int v3), (.int v4), (.int v5)] (.int (0 : Int32))) (h2 : (0 : Int32) < z) (O3 : Sta Z Z.heap "jdk/internal/util/Preconditions" "SIOOBE_FORMATTER" "Ljava/util/function/BiFunction;" vf) (q_vf : vf = .null ∨ ∃ b, vf = .ref b) (O2 : Sta Z Z.heap "java/lang/String" "COMPACT_STRINGS" "Z" (.int cz)) (P5 : ¬ cz = 0) (OLD0 : Old Z n0 h0) :
    MetFree l (⟨"java/lang/String", "charAt", "(I)C"⟩ : MethodName) (head1 (Jvm.Cond.code (⟨"java/lang/String", "charAt", "(I)C"⟩ : MethodName) jdk_42_method_56_code 2 (some .char) :: ws) ({ frames := 3, cells := 0, slots := 0, locals := 44 } : Room)) (fun α U => α = #[(.ref a), (.int ci)] ∧ Z.Warmed39 U.vm ∧ U.heap = h0) (fun _ _ _ _ _ => True) (fun _ U ω U' => ∃ ν Λ, ω = .returned ν ∧ QI (own_ch v0) h0 n0 ν U'.heap Λ ∧ FrameEnd U ω U' Λ ({ frames := 3, cells := 0, slots := 0, locals := 44 } : Room).cells ({ frames := 3, cells := 0, slots := 0, locals := 44 } : Room).slots) := by
  refine MetFree.of_bodySF (plainFor_of_name own_pn_java_lang_String) hisR ?_
  intro p e s m args below meth c s₁ Bd hml0 hP hK
  obtain ⟨rfl, hZ, hh⟩ := hP
  have hx := Bd.exec
  have hby := Bd.bytes
  have hml : c.maxLocals = 2 := hml0
  have hown : s.vm.findClass "java/lang/String" = some m.cls := findClass_of_methodNamed Bd.named
  have hnm := (name_of_methodNamed Bd.named Bd.method).1
  have X0 : Stand p l e ({ frames := 3, cells := 0, slots := 0, locals := 44 } : Room) s m #[(.ref a), (.int ci)] below meth c s₁ [] 0 0 := Stand.of_body Bd
  have e0 : s₁.heap = h0 := by rw [← hh, Bd.state]; rfl
  have N0 := Fr.nil n0
  have KK0 : Keep h0 h0 [] := Keep.refl h0 []
  obtain ⟨PS, hPS⟩ : ∃ P : State → Prop, P = fun τ => Steps p.tables e below (s₁.setTop (entryFrame m #[(.ref a), (.int ci)] 2)) τ := ⟨_, rfl⟩
  have pre0 : ∀ τ, Steps p.tables e below (s₁.setTop (mkF m 0 #[.val (.ref a), .val (.int ci)] [])) τ → PS τ := by rw [hPS]; exact fun τ κ => castTop (own_ef34 m a ci) κ
  have pre413 : ∀ τ, Steps p.tables e below (s₁.setTop (mkF m 0 #[.val (.ref a), .val (.int (0 : Int32))] [])) τ → PS τ := by have hq := pre0; rw [hci] at hq; exact hq
  obtain ⟨_, T414, L414, X414, ⟨rfl, Nq414, eq414⟩, st414⟩ := own_virt (y := own_mn27) (b := a) X0 hx hZ hown (own_W185 hw) (own_W186 hw) (own_W188 hw) (own_W187 hw) (by decide) (rmIL l Z a0 hw [] a cz h0 n0 (Nat.le_trans Z0 KK0.1) F2 O2 P5 OLD0) (own_W189 hw) (own_W6 hw) 0 (by decide) (by decide) E7 e0 (mkF m 1 #[.val (.ref a), .val (.int (0 : Int32))] [(.ref a)]) rfl (by rw [hml]; rfl) [] [] rfl (lenOf own_pd___Z rfl) rfl (Nat.le_refl _) (Jvm.hb hby d34_1) (by decide) (by decide)
  have N414 := Fr.app N0 Nq414
  have pre415 := fun (τ : State) kt => pre413 τ (by
    show Steps p.tables e below (s₁.setTop (mkF m 0 #[.val (.ref a), .val (.int (0 : Int32))] [])) τ
    refine XS.aloadN X0.here hx rfl (Jvm.hb hby d34_0) rfl rfl ?_
    exact st414 τ kt)
  obtain ⟨T416, X416, e416, st416⟩ := getF X414 hx hZ hown (host := "") (Or.inl (own_W32 hw)) Via.refl eq414 F1 (g := (mkF m 8 #[.val (.ref a), .val (.int (0 : Int32))] [(.ref a)])) rfl rfl (Jvm.hb hby d34_8)
  have pre417 := fun (τ : State) kt => pre415 τ (by
    show Steps p.tables e below (T414.setTop (mkF m 4 #[.val (.ref a), .val (.int (0 : Int32))] [(.int (1 : Int32))])) τ
    refine XS.ifNo X414.here hx rfl (Jvm.hb hby d34_4) rfl ((if0 _ _).trans (feq (by decide)).1) ?_
    refine XS.aloadN X414.here hx rfl (Jvm.hb hby d34_7) rfl rfl ?_
    exact st416 τ kt)
  obtain ⟨_, T418, L418, X418, ⟨rfl, Nq418, eq418⟩, st418⟩ := own_stat (y := own_mn28) X416 hx hZ hown (own_W190 hw) (own_W191 hw) (by decide) (rmLC0 l Z a0 hw [] vb (0 : Int32) vf kb z v0 v1 v2 v3 v4 v5 h0 n0 (Nat.le_trans Z0 KK0.1) rfl VB h2 OLD0 O3 q_vf) (own_W193 hw) (own_W192 hw) 0 (by decide) (by decide) e416 (mkF m 12 #[.val (.ref a), .val (.int (0 : Int32))] [(.int (0 : Int32)), (.ref vb)]) rfl (by rw [hml]; rfl) [(.ref vb), (.int (0 : Int32))] [] rfl (lenOf own_pd___BI_C rfl) rfl (Nat.le_refl _) (Jvm.hb hby d34_12) (by decide) (by decide)
  have N418 := Fr.app N414 Nq418
  have pre419 := fun (τ : State) kt => pre417 τ (by
    show Steps p.tables e below (T416.setTop (mkF m 11 #[.val (.ref a), .val (.int (0 : Int32))] [(.ref vb)])) τ
    refine XS.iloadN X416.here hx rfl (Jvm.hb hby d34_11) rfl ?_
    exact st418 τ kt)
  obtain ⟨fs, hrL, hrun, hended, hW, hsame⟩ := X418.leave (v := some (.int (nar .char (own_ch v0)))) (fun h => by rw [Bd.returns] at h; cases h)
  refine ⟨_, _, cast (congrFun hPS _) (pre419 _ ?_), hrun, hended, _, _, rfl, ?_, ⟨_, rfl⟩, hW, hsame.mono (by decide) (by decide)⟩
  · show Steps p.tables e below (T418.setTop (mkF m 15 #[.val (.ref a), .val (.int (0 : Int32))] [(.int (own_ch v0))])) _
    exact retN X418 hx (t := .char) Bd.returns (by simp) (Jvm.hb hby d34_15) hrL
  · show QI (own_ch v0) h0 n0 _ T418.heap _
    rw [eq418]
    exact ⟨congrArg (fun z => some (Value.int z)) (own_nar_ch v0), N418, rfl⟩
set_option maxRecDepth 65536 in
set_option maxHeartbeats 40000000 in
theorem rmLC1 (l : Launch) (Z : State) (a0 : Array Value) (hw : ∀ d ∈ tables_1, d.before a0 Z = true) (ws : List Jvm.Cond) (vb : Addr) (ci : Int32) (vf : Value) (kb : ClassId) (z v0 v1 v2 v3 v4 v5 : Int32) (h0 : Heap) (n0 : Nat) (Z0 : n0 ≤ h0.size) (hci : ci = (1 : Int32)) (VB : Arv Z h0 vb kb .byte z [(.int v0), (.int v1), (.int v2), (.int v3), (.int v4), (.int v5)] (.int (0 : Int32))) (h2 : (1 : Int32) < z) (OLD0 : Old Z n0 h0) (O3 : Sta Z Z.heap "jdk/internal/util/Preconditions" "SIOOBE_FORMATTER" "Ljava/util/function/BiFunction;" vf) (q_vf : vf = .null ∨ ∃ b, vf = .ref b) :
    MetFree l (⟨"java/lang/StringLatin1", "charAt", "([BI)C"⟩ : MethodName) (head1 (Jvm.Cond.code (⟨"java/lang/StringLatin1", "charAt", "([BI)C"⟩ : MethodName) jdk_43_method_2_code 2 (some .char) :: ws) ({ frames := 2, cells := 0, slots := 0, locals := 28 } : Room)) (fun α U => α = #[(.ref vb), (.int ci)] ∧ Z.Warmed39 U.vm ∧ U.heap = h0) (fun _ _ _ _ _ => True) (fun _ U ω U' => ∃ ν Λ, ω = .returned ν ∧ QI (own_ch v1) h0 n0 ν U'.heap Λ ∧ FrameEnd U ω U' Λ ({ frames := 2, cells := 0, slots := 0, locals := 28 } : Room).cells ({ frames := 2, cells := 0, slots := 0, locals := 28 } : Room).slots) := by
  refine MetFree.of_bodySF (plainFor_of_name own_pn_java_lang_StringLatin1) hisR ?_
  intro p e s m args below meth c s₁ Bd hml0 hP hK
  obtain ⟨rfl, hZ, hh⟩ := hP
  have hx := Bd.exec
  have hby := Bd.bytes
  have hml : c.maxLocals = 2 := hml0
  have hown : s.vm.findClass "java/lang/StringLatin1" = some m.cls := findClass_of_methodNamed Bd.named
  have hnm := (name_of_methodNamed Bd.named Bd.method).1
  have X0 : Stand p l e ({ frames := 2, cells := 0, slots := 0, locals := 28 } : Room) s m #[(.ref vb), (.int ci)] below meth c s₁ [] 0 0 := Stand.of_body Bd
  have e0 : s₁.heap = h0 := by rw [← hh, Bd.state]; rfl
  have N0 := Fr.nil n0
  have KK0 : Keep h0 h0 [] := Keep.refl h0 []
  obtain ⟨PS, hPS⟩ : ∃ P : State → Prop, P = fun τ => Steps p.tables e below (s₁.setTop (entryFrame m #[(.ref vb), (.int ci)] 2)) τ := ⟨_, rfl⟩
  have pre0 : ∀ τ, Steps p.tables e below (s₁.setTop (mkF m 0 #[.val (.ref vb), .val (.int ci)] [])) τ → PS τ := by rw [hPS]; exact fun τ κ => castTop (own_ef36 m vb ci) κ
  have pre420 : ∀ τ, Steps p.tables e below (s₁.setTop (mkF m 0 #[.val (.ref vb), .val (.int (1 : Int32))] [])) τ → PS τ := by have hq := pre0; rw [hci] at hq; exact hq
  obtain ⟨cl421, Ar421, q421, S421, M421, H421, U421⟩ := id VB
  have pre422 := fun (τ : State) kt => pre420 τ (by
    show Steps p.tables e below (s₁.setTop (mkF m 0 #[.val (.ref vb), .val (.int (1 : Int32))] [])) τ
    refine XS.iloadN X0.here hx rfl (Jvm.hb hby d36_0) rfl ?_
    refine XS.aloadN X0.here hx rfl (Jvm.hb hby d36_1) rfl rfl ?_
    refine X0.arraylength hx ((congrArg (fun (HH : Heap) => HH[vb]?) (e0 : s₁.heap = h0)).trans Ar421.1) (State.isArrayOf_alike hZ.alike Ar421.2.1) (g := (mkF m 2 #[.val (.ref vb), .val (.int (1 : Int32))] [(.ref vb), (.int (1 : Int32))])) rfl rfl (Jvm.hb hby d36_2) _ ?_
    exact kt)
  have pre423 : ∀ τ, Steps p.tables e below (s₁.setTop (mkF m 3 #[.val (.ref vb), .val (.int (1 : Int32))] [(.int z), (.int (1 : Int32))])) τ → PS τ := by
    have hq := pre422
    rw [len_of S421 M421] at hq
    exact hq
  obtain ⟨_, T424, L424, X424, ⟨rfl, Nq424, eq424⟩, st424⟩ := own_stat (y := own_mn26) X0 hx hZ hown (own_W194 hw) (own_W195 hw) (by decide) (rmCI l Z a0 hw [] (1 : Int32) z vf h0 n0 (Nat.le_trans Z0 KK0.1) O3 q_vf OLD0 (by decide) h2) (own_W196 hw) (own_W6 hw) 0 (by decide) (by decide) e0 (mkF m 3 #[.val (.ref vb), .val (.int (1 : Int32))] [(.int z), (.int (1 : Int32))]) rfl (by rw [hml]; rfl) [(.int (1 : Int32)), (.int z)] [] rfl (lenOf own_pd__II_V rfl) rfl (Nat.le_refl _) (Jvm.hb hby d36_3) (by decide) (by decide)
  have N424 := Fr.app N0 Nq424
  have pre425 := fun (τ : State) kt => pre423 τ (st424 τ kt)
  obtain ⟨cl426, Ar426, q426, S426, M426, H426, U426⟩ := id VB
  have in426 : ¬ ((1 : Int32) < 0 ∨ cl426.slots.size ≤ ((1 : Int32)).toNatClampNeg) := inb_of S426 ⟨by decide, h2⟩
  have pre427 := fun (τ : State) kt => pre425 τ (by
    show Steps p.tables e below (T424.setTop (mkF m 6 #[.val (.ref vb), .val (.int (1 : Int32))] [])) τ
    refine XS.aloadN X424.here hx rfl (Jvm.hb hby d36_6) rfl rfl ?_
    refine XS.iloadN X424.here hx rfl (Jvm.hb hby d36_7) rfl ?_
    refine X424.baloadBytes hx ((congrArg (fun (HH : Heap) => HH[vb]?) (eq424 : T424.heap = h0)).trans Ar426.1) (State.isArrayOf_alike hZ.alike Ar426.2.1) Ar426.2.2 in426 (H426.at in426 rfl) (g := (mkF m 8 #[.val (.ref vb), .val (.int (1 : Int32))] [(.int (1 : Int32)), (.ref vb)])) rfl rfl (Jvm.hb hby d36_8) _ ?_
    refine XS.sipush X424.here hx rfl (Jvm.hb hby d36_9) ?_
    refine XS.iand X424.here hx rfl (Jvm.hb hby d36_12) rfl ?_
    refine XT.i2c X424.here hx rfl (Jvm.hb hby d36_13) rfl ?_
    exact kt)
  obtain ⟨fs, hrL, hrun, hended, hW, hsame⟩ := X424.leave (v := some (.int (nar .char ((v1 &&& (255 : Int32))).toUInt32.toUInt16.toUInt32.toInt32))) (fun h => by rw [Bd.returns] at h; cases h)
  refine ⟨_, _, cast (congrFun hPS _) (pre427 _ ?_), hrun, hended, _, _, rfl, ?_, ⟨_, rfl⟩, hW, hsame.mono (by decide) (by decide)⟩
  · show Steps p.tables e below (T424.setTop (mkF m 14 #[.val (.ref vb), .val (.int (1 : Int32))] [(.int ((v1 &&& (255 : Int32))).toUInt32.toUInt16.toUInt32.toInt32)])) _
    exact retN X424 hx (t := .char) Bd.returns (by simp) (Jvm.hb hby d36_14) hrL
  · show QI (own_ch v1) h0 n0 _ T424.heap _
    rw [eq424]
    exact ⟨congrArg (fun z => some (Value.int z)) (own_nar_ch v1), N424, rfl⟩
set_option maxRecDepth 65536 in
set_option maxHeartbeats 40000000 in
theorem rmCA1 (l : Launch) (Z : State) (a0 : Array Value) (hw : ∀ d ∈ tables_1, d.before a0 Z = true) (ws : List Jvm.Cond) (a : Addr) (ci : Int32) (cz : Int32) (vb : Addr) (vf : Value) (kb : ClassId) (z v0 v1 v2 v3 v4 v5 : Int32) (h0 : Heap) (n0 : Nat) (Z0 : n0 ≤ h0.size) (hci : ci = (1 : Int32)) (E7 : Exa Z h0 a "java/lang/String") (F1 : Fld Z h0 a "java/lang/String" "value" "[B" (.ref vb)) (F2 : Fld Z h0 a "java/lang/String" "coder" "B" (.int (0 : Int32))) (VB : Arv Z h0 vb kb .byte z [(.int v0), (.int v1), (.int v2), (.int v3), (.int v4), (.int v5)] (.int (0 : Int32))) (h2 : (1 : Int32) < z) (O3 : Sta Z Z.heap "jdk/internal/util/Preconditions" "SIOOBE_FORMATTER" "Ljava/util/function/BiFunction;" vf) (q_vf : vf = .null ∨ ∃ b, vf = .ref b) (O2 : Sta Z Z.heap "java/lang/String" "COMPACT_STRINGS" "Z" (.int cz)) (P5 : ¬ cz = 0) (OLD0 : Old Z n0 h0) :
    MetFree l (⟨"java/lang/String", "charAt", "(I)C"⟩ : MethodName) (head1 (Jvm.Cond.code (⟨"java/lang/String", "charAt", "(I)C"⟩ : MethodName) jdk_42_method_56_code 2 (some .char) :: ws) ({ frames := 3, cells := 0, slots := 0, locals := 44 } : Room)) (fun α U => α = #[(.ref a), (.int ci)] ∧ Z.Warmed39 U.vm ∧ U.heap = h0) (fun _ _ _ _ _ => True) (fun _ U ω U' => ∃ ν Λ, ω = .returned ν ∧ QI (own_ch v1) h0 n0 ν U'.heap Λ ∧ FrameEnd U ω U' Λ ({ frames := 3, cells := 0, slots := 0, locals := 44 } : Room).cells ({ frames := 3, cells := 0, slots := 0, locals := 44 } : Room).slots) := by
  refine MetFree.of_bodySF (plainFor_of_name own_pn_java_lang_String) hisR ?_
  intro p e s m args below meth c s₁ Bd hml0 hP hK
  obtain ⟨rfl, hZ, hh⟩ := hP
  have hx := Bd.exec
  have hby := Bd.bytes
  have hml : c.maxLocals = 2 := hml0
  have hown : s.vm.findClass "java/lang/String" = some m.cls := findClass_of_methodNamed Bd.named
  have hnm := (name_of_methodNamed Bd.named Bd.method).1
  have X0 : Stand p l e ({ frames := 3, cells := 0, slots := 0, locals := 44 } : Room) s m #[(.ref a), (.int ci)] below meth c s₁ [] 0 0 := Stand.of_body Bd
  have e0 : s₁.heap = h0 := by rw [← hh, Bd.state]; rfl
  have N0 := Fr.nil n0
  have KK0 : Keep h0 h0 [] := Keep.refl h0 []
  obtain ⟨PS, hPS⟩ : ∃ P : State → Prop, P = fun τ => Steps p.tables e below (s₁.setTop (entryFrame m #[(.ref a), (.int ci)] 2)) τ := ⟨_, rfl⟩
  have pre0 : ∀ τ, Steps p.tables e below (s₁.setTop (mkF m 0 #[.val (.ref a), .val (.int ci)] [])) τ → PS τ := by rw [hPS]; exact fun τ κ => castTop (own_ef34 m a ci) κ
  have pre428 : ∀ τ, Steps p.tables e below (s₁.setTop (mkF m 0 #[.val (.ref a), .val (.int (1 : Int32))] [])) τ → PS τ := by have hq := pre0; rw [hci] at hq; exact hq
  obtain ⟨_, T429, L429, X429, ⟨rfl, Nq429, eq429⟩, st429⟩ := own_virt (y := own_mn27) (b := a) X0 hx hZ hown (own_W185 hw) (own_W186 hw) (own_W188 hw) (own_W187 hw) (by decide) (rmIL l Z a0 hw [] a cz h0 n0 (Nat.le_trans Z0 KK0.1) F2 O2 P5 OLD0) (own_W189 hw) (own_W6 hw) 0 (by decide) (by decide) E7 e0 (mkF m 1 #[.val (.ref a), .val (.int (1 : Int32))] [(.ref a)]) rfl (by rw [hml]; rfl) [] [] rfl (lenOf own_pd___Z rfl) rfl (Nat.le_refl _) (Jvm.hb hby d34_1) (by decide) (by decide)
  have N429 := Fr.app N0 Nq429
  have pre430 := fun (τ : State) kt => pre428 τ (by
    show Steps p.tables e below (s₁.setTop (mkF m 0 #[.val (.ref a), .val (.int (1 : Int32))] [])) τ
    refine XS.aloadN X0.here hx rfl (Jvm.hb hby d34_0) rfl rfl ?_
    exact st429 τ kt)
  obtain ⟨T431, X431, e431, st431⟩ := getF X429 hx hZ hown (host := "") (Or.inl (own_W32 hw)) Via.refl eq429 F1 (g := (mkF m 8 #[.val (.ref a), .val (.int (1 : Int32))] [(.ref a)])) rfl rfl (Jvm.hb hby d34_8)
  have pre432 := fun (τ : State) kt => pre430 τ (by
    show Steps p.tables e below (T429.setTop (mkF m 4 #[.val (.ref a), .val (.int (1 : Int32))] [(.int (1 : Int32))])) τ
    refine XS.ifNo X429.here hx rfl (Jvm.hb hby d34_4) rfl ((if0 _ _).trans (feq (by decide)).1) ?_
    refine XS.aloadN X429.here hx rfl (Jvm.hb hby d34_7) rfl rfl ?_
    exact st431 τ kt)
  obtain ⟨_, T433, L433, X433, ⟨rfl, Nq433, eq433⟩, st433⟩ := own_stat (y := own_mn28) X431 hx hZ hown (own_W190 hw) (own_W191 hw) (by decide) (rmLC1 l Z a0 hw [] vb (1 : Int32) vf kb z v0 v1 v2 v3 v4 v5 h0 n0 (Nat.le_trans Z0 KK0.1) rfl VB h2 OLD0 O3 q_vf) (own_W193 hw) (own_W192 hw) 0 (by decide) (by decide) e431 (mkF m 12 #[.val (.ref a), .val (.int (1 : Int32))] [(.int (1 : Int32)), (.ref vb)]) rfl (by rw [hml]; rfl) [(.ref vb), (.int (1 : Int32))] [] rfl (lenOf own_pd___BI_C rfl) rfl (Nat.le_refl _) (Jvm.hb hby d34_12) (by decide) (by decide)
  have N433 := Fr.app N429 Nq433
  have pre434 := fun (τ : State) kt => pre432 τ (by
    show Steps p.tables e below (T431.setTop (mkF m 11 #[.val (.ref a), .val (.int (1 : Int32))] [(.ref vb)])) τ
    refine XS.iloadN X431.here hx rfl (Jvm.hb hby d34_11) rfl ?_
    exact st433 τ kt)
  obtain ⟨fs, hrL, hrun, hended, hW, hsame⟩ := X433.leave (v := some (.int (nar .char (own_ch v1)))) (fun h => by rw [Bd.returns] at h; cases h)
  refine ⟨_, _, cast (congrFun hPS _) (pre434 _ ?_), hrun, hended, _, _, rfl, ?_, ⟨_, rfl⟩, hW, hsame.mono (by decide) (by decide)⟩
  · show Steps p.tables e below (T433.setTop (mkF m 15 #[.val (.ref a), .val (.int (1 : Int32))] [(.int (own_ch v1))])) _
    exact retN X433 hx (t := .char) Bd.returns (by simp) (Jvm.hb hby d34_15) hrL
  · show QI (own_ch v1) h0 n0 _ T433.heap _
    rw [eq433]
    exact ⟨congrArg (fun z => some (Value.int z)) (own_nar_ch v1), N433, rfl⟩
set_option maxRecDepth 65536 in
set_option maxHeartbeats 40000000 in
theorem rmLC2 (l : Launch) (Z : State) (a0 : Array Value) (hw : ∀ d ∈ tables_1, d.before a0 Z = true) (ws : List Jvm.Cond) (vb : Addr) (ci : Int32) (vf : Value) (kb : ClassId) (z v0 v1 v2 v3 v4 v5 : Int32) (h0 : Heap) (n0 : Nat) (Z0 : n0 ≤ h0.size) (hci : ci = (2 : Int32)) (VB : Arv Z h0 vb kb .byte z [(.int v0), (.int v1), (.int v2), (.int v3), (.int v4), (.int v5)] (.int (0 : Int32))) (h2 : (2 : Int32) < z) (OLD0 : Old Z n0 h0) (O3 : Sta Z Z.heap "jdk/internal/util/Preconditions" "SIOOBE_FORMATTER" "Ljava/util/function/BiFunction;" vf) (q_vf : vf = .null ∨ ∃ b, vf = .ref b) :
    MetFree l (⟨"java/lang/StringLatin1", "charAt", "([BI)C"⟩ : MethodName) (head1 (Jvm.Cond.code (⟨"java/lang/StringLatin1", "charAt", "([BI)C"⟩ : MethodName) jdk_43_method_2_code 2 (some .char) :: ws) ({ frames := 2, cells := 0, slots := 0, locals := 28 } : Room)) (fun α U => α = #[(.ref vb), (.int ci)] ∧ Z.Warmed39 U.vm ∧ U.heap = h0) (fun _ _ _ _ _ => True) (fun _ U ω U' => ∃ ν Λ, ω = .returned ν ∧ QI (own_ch v2) h0 n0 ν U'.heap Λ ∧ FrameEnd U ω U' Λ ({ frames := 2, cells := 0, slots := 0, locals := 28 } : Room).cells ({ frames := 2, cells := 0, slots := 0, locals := 28 } : Room).slots) := by
  refine MetFree.of_bodySF (plainFor_of_name own_pn_java_lang_StringLatin1) hisR ?_
  intro p e s m args below meth c s₁ Bd hml0 hP hK
  obtain ⟨rfl, hZ, hh⟩ := hP
  have hx := Bd.exec
  have hby := Bd.bytes
  have hml : c.maxLocals = 2 := hml0
  have hown : s.vm.findClass "java/lang/StringLatin1" = some m.cls := findClass_of_methodNamed Bd.named
  have hnm := (name_of_methodNamed Bd.named Bd.method).1
  have X0 : Stand p l e ({ frames := 2, cells := 0, slots := 0, locals := 28 } : Room) s m #[(.ref vb), (.int ci)] below meth c s₁ [] 0 0 := Stand.of_body Bd
  have e0 : s₁.heap = h0 := by rw [← hh, Bd.state]; rfl
  have N0 := Fr.nil n0
  have KK0 : Keep h0 h0 [] := Keep.refl h0 []
  obtain ⟨PS, hPS⟩ : ∃ P : State → Prop, P = fun τ => Steps p.tables e below (s₁.setTop (entryFrame m #[(.ref vb), (.int ci)] 2)) τ := ⟨_, rfl⟩
  have pre0 : ∀ τ, Steps p.tables e below (s₁.setTop (mkF m 0 #[.val (.ref vb), .val (.int ci)] [])) τ → PS τ := by rw [hPS]; exact fun τ κ => castTop (own_ef36 m vb ci) κ
  have pre435 : ∀ τ, Steps p.tables e below (s₁.setTop (mkF m 0 #[.val (.ref vb), .val (.int (2 : Int32))] [])) τ → PS τ := by have hq := pre0; rw [hci] at hq; exact hq
  obtain ⟨cl436, Ar436, q436, S436, M436, H436, U436⟩ := id VB
  have pre437 := fun (τ : State) kt => pre435 τ (by
    show Steps p.tables e below (s₁.setTop (mkF m 0 #[.val (.ref vb), .val (.int (2 : Int32))] [])) τ
    refine XS.iloadN X0.here hx rfl (Jvm.hb hby d36_0) rfl ?_
    refine XS.aloadN X0.here hx rfl (Jvm.hb hby d36_1) rfl rfl ?_
    refine X0.arraylength hx ((congrArg (fun (HH : Heap) => HH[vb]?) (e0 : s₁.heap = h0)).trans Ar436.1) (State.isArrayOf_alike hZ.alike Ar436.2.1) (g := (mkF m 2 #[.val (.ref vb), .val (.int (2 : Int32))] [(.ref vb), (.int (2 : Int32))])) rfl rfl (Jvm.hb hby d36_2) _ ?_
    exact kt)
  have pre438 : ∀ τ, Steps p.tables e below (s₁.setTop (mkF m 3 #[.val (.ref vb), .val (.int (2 : Int32))] [(.int z), (.int (2 : Int32))])) τ → PS τ := by
    have hq := pre437
    rw [len_of S436 M436] at hq
    exact hq
  obtain ⟨_, T439, L439, X439, ⟨rfl, Nq439, eq439⟩, st439⟩ := own_stat (y := own_mn26) X0 hx hZ hown (own_W194 hw) (own_W195 hw) (by decide) (rmCI l Z a0 hw [] (2 : Int32) z vf h0 n0 (Nat.le_trans Z0 KK0.1) O3 q_vf OLD0 (by decide) h2) (own_W196 hw) (own_W6 hw) 0 (by decide) (by decide) e0 (mkF m 3 #[.val (.ref vb), .val (.int (2 : Int32))] [(.int z), (.int (2 : Int32))]) rfl (by rw [hml]; rfl) [(.int (2 : Int32)), (.int z)] [] rfl (lenOf own_pd__II_V rfl) rfl (Nat.le_refl _) (Jvm.hb hby d36_3) (by decide) (by decide)
  have N439 := Fr.app N0 Nq439
  have pre440 := fun (τ : State) kt => pre438 τ (st439 τ kt)
  obtain ⟨cl441, Ar441, q441, S441, M441, H441, U441⟩ := id VB
  have in441 : ¬ ((2 : Int32) < 0 ∨ cl441.slots.size ≤ ((2 : Int32)).toNatClampNeg) := inb_of S441 ⟨by decide, h2⟩
  have pre442 := fun (τ : State) kt => pre440 τ (by
    show Steps p.tables e below (T439.setTop (mkF m 6 #[.val (.ref vb), .val (.int (2 : Int32))] [])) τ
    refine XS.aloadN X439.here hx rfl (Jvm.hb hby d36_6) rfl rfl ?_
    refine XS.iloadN X439.here hx rfl (Jvm.hb hby d36_7) rfl ?_
    refine X439.baloadBytes hx ((congrArg (fun (HH : Heap) => HH[vb]?) (eq439 : T439.heap = h0)).trans Ar441.1) (State.isArrayOf_alike hZ.alike Ar441.2.1) Ar441.2.2 in441 (H441.at in441 rfl) (g := (mkF m 8 #[.val (.ref vb), .val (.int (2 : Int32))] [(.int (2 : Int32)), (.ref vb)])) rfl rfl (Jvm.hb hby d36_8) _ ?_
    refine XS.sipush X439.here hx rfl (Jvm.hb hby d36_9) ?_
    refine XS.iand X439.here hx rfl (Jvm.hb hby d36_12) rfl ?_
    refine XT.i2c X439.here hx rfl (Jvm.hb hby d36_13) rfl ?_
    exact kt)
  obtain ⟨fs, hrL, hrun, hended, hW, hsame⟩ := X439.leave (v := some (.int (nar .char ((v2 &&& (255 : Int32))).toUInt32.toUInt16.toUInt32.toInt32))) (fun h => by rw [Bd.returns] at h; cases h)
  refine ⟨_, _, cast (congrFun hPS _) (pre442 _ ?_), hrun, hended, _, _, rfl, ?_, ⟨_, rfl⟩, hW, hsame.mono (by decide) (by decide)⟩
  · show Steps p.tables e below (T439.setTop (mkF m 14 #[.val (.ref vb), .val (.int (2 : Int32))] [(.int ((v2 &&& (255 : Int32))).toUInt32.toUInt16.toUInt32.toInt32)])) _
    exact retN X439 hx (t := .char) Bd.returns (by simp) (Jvm.hb hby d36_14) hrL
  · show QI (own_ch v2) h0 n0 _ T439.heap _
    rw [eq439]
    exact ⟨congrArg (fun z => some (Value.int z)) (own_nar_ch v2), N439, rfl⟩
set_option maxRecDepth 65536 in
set_option maxHeartbeats 40000000 in
theorem rmCA2 (l : Launch) (Z : State) (a0 : Array Value) (hw : ∀ d ∈ tables_1, d.before a0 Z = true) (ws : List Jvm.Cond) (a : Addr) (ci : Int32) (cz : Int32) (vb : Addr) (vf : Value) (kb : ClassId) (z v0 v1 v2 v3 v4 v5 : Int32) (h0 : Heap) (n0 : Nat) (Z0 : n0 ≤ h0.size) (hci : ci = (2 : Int32)) (E7 : Exa Z h0 a "java/lang/String") (F1 : Fld Z h0 a "java/lang/String" "value" "[B" (.ref vb)) (F2 : Fld Z h0 a "java/lang/String" "coder" "B" (.int (0 : Int32))) (VB : Arv Z h0 vb kb .byte z [(.int v0), (.int v1), (.int v2), (.int v3), (.int v4), (.int v5)] (.int (0 : Int32))) (h2 : (2 : Int32) < z) (O3 : Sta Z Z.heap "jdk/internal/util/Preconditions" "SIOOBE_FORMATTER" "Ljava/util/function/BiFunction;" vf) (q_vf : vf = .null ∨ ∃ b, vf = .ref b) (O2 : Sta Z Z.heap "java/lang/String" "COMPACT_STRINGS" "Z" (.int cz)) (P5 : ¬ cz = 0) (OLD0 : Old Z n0 h0) :
    MetFree l (⟨"java/lang/String", "charAt", "(I)C"⟩ : MethodName) (head1 (Jvm.Cond.code (⟨"java/lang/String", "charAt", "(I)C"⟩ : MethodName) jdk_42_method_56_code 2 (some .char) :: ws) ({ frames := 3, cells := 0, slots := 0, locals := 44 } : Room)) (fun α U => α = #[(.ref a), (.int ci)] ∧ Z.Warmed39 U.vm ∧ U.heap = h0) (fun _ _ _ _ _ => True) (fun _ U ω U' => ∃ ν Λ, ω = .returned ν ∧ QI (own_ch v2) h0 n0 ν U'.heap Λ ∧ FrameEnd U ω U' Λ ({ frames := 3, cells := 0, slots := 0, locals := 44 } : Room).cells ({ frames := 3, cells := 0, slots := 0, locals := 44 } : Room).slots) := by
  refine MetFree.of_bodySF (plainFor_of_name own_pn_java_lang_String) hisR ?_
  intro p e s m args below meth c s₁ Bd hml0 hP hK
  obtain ⟨rfl, hZ, hh⟩ := hP
  have hx := Bd.exec
  have hby := Bd.bytes
  have hml : c.maxLocals = 2 := hml0
  have hown : s.vm.findClass "java/lang/String" = some m.cls := findClass_of_methodNamed Bd.named
  have hnm := (name_of_methodNamed Bd.named Bd.method).1
  have X0 : Stand p l e ({ frames := 3, cells := 0, slots := 0, locals := 44 } : Room) s m #[(.ref a), (.int ci)] below meth c s₁ [] 0 0 := Stand.of_body Bd
  have e0 : s₁.heap = h0 := by rw [← hh, Bd.state]; rfl
  have N0 := Fr.nil n0
  have KK0 : Keep h0 h0 [] := Keep.refl h0 []
  obtain ⟨PS, hPS⟩ : ∃ P : State → Prop, P = fun τ => Steps p.tables e below (s₁.setTop (entryFrame m #[(.ref a), (.int ci)] 2)) τ := ⟨_, rfl⟩
  have pre0 : ∀ τ, Steps p.tables e below (s₁.setTop (mkF m 0 #[.val (.ref a), .val (.int ci)] [])) τ → PS τ := by rw [hPS]; exact fun τ κ => castTop (own_ef34 m a ci) κ
  have pre443 : ∀ τ, Steps p.tables e below (s₁.setTop (mkF m 0 #[.val (.ref a), .val (.int (2 : Int32))] [])) τ → PS τ := by have hq := pre0; rw [hci] at hq; exact hq
  obtain ⟨_, T444, L444, X444, ⟨rfl, Nq444, eq444⟩, st444⟩ := own_virt (y := own_mn27) (b := a) X0 hx hZ hown (own_W185 hw) (own_W186 hw) (own_W188 hw) (own_W187 hw) (by decide) (rmIL l Z a0 hw [] a cz h0 n0 (Nat.le_trans Z0 KK0.1) F2 O2 P5 OLD0) (own_W189 hw) (own_W6 hw) 0 (by decide) (by decide) E7 e0 (mkF m 1 #[.val (.ref a), .val (.int (2 : Int32))] [(.ref a)]) rfl (by rw [hml]; rfl) [] [] rfl (lenOf own_pd___Z rfl) rfl (Nat.le_refl _) (Jvm.hb hby d34_1) (by decide) (by decide)
  have N444 := Fr.app N0 Nq444
  have pre445 := fun (τ : State) kt => pre443 τ (by
    show Steps p.tables e below (s₁.setTop (mkF m 0 #[.val (.ref a), .val (.int (2 : Int32))] [])) τ
    refine XS.aloadN X0.here hx rfl (Jvm.hb hby d34_0) rfl rfl ?_
    exact st444 τ kt)
  obtain ⟨T446, X446, e446, st446⟩ := getF X444 hx hZ hown (host := "") (Or.inl (own_W32 hw)) Via.refl eq444 F1 (g := (mkF m 8 #[.val (.ref a), .val (.int (2 : Int32))] [(.ref a)])) rfl rfl (Jvm.hb hby d34_8)
  have pre447 := fun (τ : State) kt => pre445 τ (by
    show Steps p.tables e below (T444.setTop (mkF m 4 #[.val (.ref a), .val (.int (2 : Int32))] [(.int (1 : Int32))])) τ
    refine XS.ifNo X444.here hx rfl (Jvm.hb hby d34_4) rfl ((if0 _ _).trans (feq (by decide)).1) ?_
    refine XS.aloadN X444.here hx rfl (Jvm.hb hby d34_7) rfl rfl ?_
    exact st446 τ kt)
  obtain ⟨_, T448, L448, X448, ⟨rfl, Nq448, eq448⟩, st448⟩ := own_stat (y := own_mn28) X446 hx hZ hown (own_W190 hw) (own_W191 hw) (by decide) (rmLC2 l Z a0 hw [] vb (2 : Int32) vf kb z v0 v1 v2 v3 v4 v5 h0 n0 (Nat.le_trans Z0 KK0.1) rfl VB h2 OLD0 O3 q_vf) (own_W193 hw) (own_W192 hw) 0 (by decide) (by decide) e446 (mkF m 12 #[.val (.ref a), .val (.int (2 : Int32))] [(.int (2 : Int32)), (.ref vb)]) rfl (by rw [hml]; rfl) [(.ref vb), (.int (2 : Int32))] [] rfl (lenOf own_pd___BI_C rfl) rfl (Nat.le_refl _) (Jvm.hb hby d34_12) (by decide) (by decide)
  have N448 := Fr.app N444 Nq448
  have pre449 := fun (τ : State) kt => pre447 τ (by
    show Steps p.tables e below (T446.setTop (mkF m 11 #[.val (.ref a), .val (.int (2 : Int32))] [(.ref vb)])) τ
    refine XS.iloadN X446.here hx rfl (Jvm.hb hby d34_11) rfl ?_
    exact st448 τ kt)
  obtain ⟨fs, hrL, hrun, hended, hW, hsame⟩ := X448.leave (v := some (.int (nar .char (own_ch v2)))) (fun h => by rw [Bd.returns] at h; cases h)
  refine ⟨_, _, cast (congrFun hPS _) (pre449 _ ?_), hrun, hended, _, _, rfl, ?_, ⟨_, rfl⟩, hW, hsame.mono (by decide) (by decide)⟩
  · show Steps p.tables e below (T448.setTop (mkF m 15 #[.val (.ref a), .val (.int (2 : Int32))] [(.int (own_ch v2))])) _
    exact retN X448 hx (t := .char) Bd.returns (by simp) (Jvm.hb hby d34_15) hrL
  · show QI (own_ch v2) h0 n0 _ T448.heap _
    rw [eq448]
    exact ⟨congrArg (fun z => some (Value.int z)) (own_nar_ch v2), N448, rfl⟩
set_option maxRecDepth 65536 in
set_option maxHeartbeats 40000000 in
theorem rmLC3 (l : Launch) (Z : State) (a0 : Array Value) (hw : ∀ d ∈ tables_1, d.before a0 Z = true) (ws : List Jvm.Cond) (vb : Addr) (ci : Int32) (vf : Value) (kb : ClassId) (z v0 v1 v2 v3 v4 v5 : Int32) (h0 : Heap) (n0 : Nat) (Z0 : n0 ≤ h0.size) (hci : ci = (3 : Int32)) (VB : Arv Z h0 vb kb .byte z [(.int v0), (.int v1), (.int v2), (.int v3), (.int v4), (.int v5)] (.int (0 : Int32))) (h2 : (3 : Int32) < z) (OLD0 : Old Z n0 h0) (O3 : Sta Z Z.heap "jdk/internal/util/Preconditions" "SIOOBE_FORMATTER" "Ljava/util/function/BiFunction;" vf) (q_vf : vf = .null ∨ ∃ b, vf = .ref b) :
    MetFree l (⟨"java/lang/StringLatin1", "charAt", "([BI)C"⟩ : MethodName) (head1 (Jvm.Cond.code (⟨"java/lang/StringLatin1", "charAt", "([BI)C"⟩ : MethodName) jdk_43_method_2_code 2 (some .char) :: ws) ({ frames := 2, cells := 0, slots := 0, locals := 28 } : Room)) (fun α U => α = #[(.ref vb), (.int ci)] ∧ Z.Warmed39 U.vm ∧ U.heap = h0) (fun _ _ _ _ _ => True) (fun _ U ω U' => ∃ ν Λ, ω = .returned ν ∧ QI (own_ch v3) h0 n0 ν U'.heap Λ ∧ FrameEnd U ω U' Λ ({ frames := 2, cells := 0, slots := 0, locals := 28 } : Room).cells ({ frames := 2, cells := 0, slots := 0, locals := 28 } : Room).slots) := by
  refine MetFree.of_bodySF (plainFor_of_name own_pn_java_lang_StringLatin1) hisR ?_
  intro p e s m args below meth c s₁ Bd hml0 hP hK
  obtain ⟨rfl, hZ, hh⟩ := hP
  have hx := Bd.exec
  have hby := Bd.bytes
  have hml : c.maxLocals = 2 := hml0
  have hown : s.vm.findClass "java/lang/StringLatin1" = some m.cls := findClass_of_methodNamed Bd.named
  have hnm := (name_of_methodNamed Bd.named Bd.method).1
  have X0 : Stand p l e ({ frames := 2, cells := 0, slots := 0, locals := 28 } : Room) s m #[(.ref vb), (.int ci)] below meth c s₁ [] 0 0 := Stand.of_body Bd
  have e0 : s₁.heap = h0 := by rw [← hh, Bd.state]; rfl
  have N0 := Fr.nil n0
  have KK0 : Keep h0 h0 [] := Keep.refl h0 []
  obtain ⟨PS, hPS⟩ : ∃ P : State → Prop, P = fun τ => Steps p.tables e below (s₁.setTop (entryFrame m #[(.ref vb), (.int ci)] 2)) τ := ⟨_, rfl⟩
  have pre0 : ∀ τ, Steps p.tables e below (s₁.setTop (mkF m 0 #[.val (.ref vb), .val (.int ci)] [])) τ → PS τ := by rw [hPS]; exact fun τ κ => castTop (own_ef36 m vb ci) κ
  have pre450 : ∀ τ, Steps p.tables e below (s₁.setTop (mkF m 0 #[.val (.ref vb), .val (.int (3 : Int32))] [])) τ → PS τ := by have hq := pre0; rw [hci] at hq; exact hq
  obtain ⟨cl451, Ar451, q451, S451, M451, H451, U451⟩ := id VB
  have pre452 := fun (τ : State) kt => pre450 τ (by
    show Steps p.tables e below (s₁.setTop (mkF m 0 #[.val (.ref vb), .val (.int (3 : Int32))] [])) τ
    refine XS.iloadN X0.here hx rfl (Jvm.hb hby d36_0) rfl ?_
    refine XS.aloadN X0.here hx rfl (Jvm.hb hby d36_1) rfl rfl ?_
    refine X0.arraylength hx ((congrArg (fun (HH : Heap) => HH[vb]?) (e0 : s₁.heap = h0)).trans Ar451.1) (State.isArrayOf_alike hZ.alike Ar451.2.1) (g := (mkF m 2 #[.val (.ref vb), .val (.int (3 : Int32))] [(.ref vb), (.int (3 : Int32))])) rfl rfl (Jvm.hb hby d36_2) _ ?_
    exact kt)
  have pre453 : ∀ τ, Steps p.tables e below (s₁.setTop (mkF m 3 #[.val (.ref vb), .val (.int (3 : Int32))] [(.int z), (.int (3 : Int32))])) τ → PS τ := by
    have hq := pre452
    rw [len_of S451 M451] at hq
    exact hq
  obtain ⟨_, T454, L454, X454, ⟨rfl, Nq454, eq454⟩, st454⟩ := own_stat (y := own_mn26) X0 hx hZ hown (own_W194 hw) (own_W195 hw) (by decide) (rmCI l Z a0 hw [] (3 : Int32) z vf h0 n0 (Nat.le_trans Z0 KK0.1) O3 q_vf OLD0 (by decide) h2) (own_W196 hw) (own_W6 hw) 0 (by decide) (by decide) e0 (mkF m 3 #[.val (.ref vb), .val (.int (3 : Int32))] [(.int z), (.int (3 : Int32))]) rfl (by rw [hml]; rfl) [(.int (3 : Int32)), (.int z)] [] rfl (lenOf own_pd__II_V rfl) rfl (Nat.le_refl _) (Jvm.hb hby d36_3) (by decide) (by decide)
  have N454 := Fr.app N0 Nq454
  have pre455 := fun (τ : State) kt => pre453 τ (st454 τ kt)
  obtain ⟨cl456, Ar456, q456, S456, M456, H456, U456⟩ := id VB
  have in456 : ¬ ((3 : Int32) < 0 ∨ cl456.slots.size ≤ ((3 : Int32)).toNatClampNeg) := inb_of S456 ⟨by decide, h2⟩
  have pre457 := fun (τ : State) kt => pre455 τ (by
    show Steps p.tables e below (T454.setTop (mkF m 6 #[.val (.ref vb), .val (.int (3 : Int32))] [])) τ
    refine XS.aloadN X454.here hx rfl (Jvm.hb hby d36_6) rfl rfl ?_
    refine XS.iloadN X454.here hx rfl (Jvm.hb hby d36_7) rfl ?_
    refine X454.baloadBytes hx ((congrArg (fun (HH : Heap) => HH[vb]?) (eq454 : T454.heap = h0)).trans Ar456.1) (State.isArrayOf_alike hZ.alike Ar456.2.1) Ar456.2.2 in456 (H456.at in456 rfl) (g := (mkF m 8 #[.val (.ref vb), .val (.int (3 : Int32))] [(.int (3 : Int32)), (.ref vb)])) rfl rfl (Jvm.hb hby d36_8) _ ?_
    refine XS.sipush X454.here hx rfl (Jvm.hb hby d36_9) ?_
    refine XS.iand X454.here hx rfl (Jvm.hb hby d36_12) rfl ?_
    refine XT.i2c X454.here hx rfl (Jvm.hb hby d36_13) rfl ?_
    exact kt)
  obtain ⟨fs, hrL, hrun, hended, hW, hsame⟩ := X454.leave (v := some (.int (nar .char ((v3 &&& (255 : Int32))).toUInt32.toUInt16.toUInt32.toInt32))) (fun h => by rw [Bd.returns] at h; cases h)
  refine ⟨_, _, cast (congrFun hPS _) (pre457 _ ?_), hrun, hended, _, _, rfl, ?_, ⟨_, rfl⟩, hW, hsame.mono (by decide) (by decide)⟩
  · show Steps p.tables e below (T454.setTop (mkF m 14 #[.val (.ref vb), .val (.int (3 : Int32))] [(.int ((v3 &&& (255 : Int32))).toUInt32.toUInt16.toUInt32.toInt32)])) _
    exact retN X454 hx (t := .char) Bd.returns (by simp) (Jvm.hb hby d36_14) hrL
  · show QI (own_ch v3) h0 n0 _ T454.heap _
    rw [eq454]
    exact ⟨congrArg (fun z => some (Value.int z)) (own_nar_ch v3), N454, rfl⟩
set_option maxRecDepth 65536 in
set_option maxHeartbeats 40000000 in
theorem rmCA3 (l : Launch) (Z : State) (a0 : Array Value) (hw : ∀ d ∈ tables_1, d.before a0 Z = true) (ws : List Jvm.Cond) (a : Addr) (ci : Int32) (cz : Int32) (vb : Addr) (vf : Value) (kb : ClassId) (z v0 v1 v2 v3 v4 v5 : Int32) (h0 : Heap) (n0 : Nat) (Z0 : n0 ≤ h0.size) (hci : ci = (3 : Int32)) (E7 : Exa Z h0 a "java/lang/String") (F1 : Fld Z h0 a "java/lang/String" "value" "[B" (.ref vb)) (F2 : Fld Z h0 a "java/lang/String" "coder" "B" (.int (0 : Int32))) (VB : Arv Z h0 vb kb .byte z [(.int v0), (.int v1), (.int v2), (.int v3), (.int v4), (.int v5)] (.int (0 : Int32))) (h2 : (3 : Int32) < z) (O3 : Sta Z Z.heap "jdk/internal/util/Preconditions" "SIOOBE_FORMATTER" "Ljava/util/function/BiFunction;" vf) (q_vf : vf = .null ∨ ∃ b, vf = .ref b) (O2 : Sta Z Z.heap "java/lang/String" "COMPACT_STRINGS" "Z" (.int cz)) (P5 : ¬ cz = 0) (OLD0 : Old Z n0 h0) :
    MetFree l (⟨"java/lang/String", "charAt", "(I)C"⟩ : MethodName) (head1 (Jvm.Cond.code (⟨"java/lang/String", "charAt", "(I)C"⟩ : MethodName) jdk_42_method_56_code 2 (some .char) :: ws) ({ frames := 3, cells := 0, slots := 0, locals := 44 } : Room)) (fun α U => α = #[(.ref a), (.int ci)] ∧ Z.Warmed39 U.vm ∧ U.heap = h0) (fun _ _ _ _ _ => True) (fun _ U ω U' => ∃ ν Λ, ω = .returned ν ∧ QI (own_ch v3) h0 n0 ν U'.heap Λ ∧ FrameEnd U ω U' Λ ({ frames := 3, cells := 0, slots := 0, locals := 44 } : Room).cells ({ frames := 3, cells := 0, slots := 0, locals := 44 } : Room).slots) := by
  refine MetFree.of_bodySF (plainFor_of_name own_pn_java_lang_String) hisR ?_
  intro p e s m args below meth c s₁ Bd hml0 hP hK
  obtain ⟨rfl, hZ, hh⟩ := hP
  have hx := Bd.exec
  have hby := Bd.bytes
  have hml : c.maxLocals = 2 := hml0
  have hown : s.vm.findClass "java/lang/String" = some m.cls := findClass_of_methodNamed Bd.named
  have hnm := (name_of_methodNamed Bd.named Bd.method).1
  have X0 : Stand p l e ({ frames := 3, cells := 0, slots := 0, locals := 44 } : Room) s m #[(.ref a), (.int ci)] below meth c s₁ [] 0 0 := Stand.of_body Bd
  have e0 : s₁.heap = h0 := by rw [← hh, Bd.state]; rfl
  have N0 := Fr.nil n0
  have KK0 : Keep h0 h0 [] := Keep.refl h0 []
  obtain ⟨PS, hPS⟩ : ∃ P : State → Prop, P = fun τ => Steps p.tables e below (s₁.setTop (entryFrame m #[(.ref a), (.int ci)] 2)) τ := ⟨_, rfl⟩
  have pre0 : ∀ τ, Steps p.tables e below (s₁.setTop (mkF m 0 #[.val (.ref a), .val (.int ci)] [])) τ → PS τ := by rw [hPS]; exact fun τ κ => castTop (own_ef34 m a ci) κ
  have pre458 : ∀ τ, Steps p.tables e below (s₁.setTop (mkF m 0 #[.val (.ref a), .val (.int (3 : Int32))] [])) τ → PS τ := by have hq := pre0; rw [hci] at hq; exact hq
  obtain ⟨_, T459, L459, X459, ⟨rfl, Nq459, eq459⟩, st459⟩ := own_virt (y := own_mn27) (b := a) X0 hx hZ hown (own_W185 hw) (own_W186 hw) (own_W188 hw) (own_W187 hw) (by decide) (rmIL l Z a0 hw [] a cz h0 n0 (Nat.le_trans Z0 KK0.1) F2 O2 P5 OLD0) (own_W189 hw) (own_W6 hw) 0 (by decide) (by decide) E7 e0 (mkF m 1 #[.val (.ref a), .val (.int (3 : Int32))] [(.ref a)]) rfl (by rw [hml]; rfl) [] [] rfl (lenOf own_pd___Z rfl) rfl (Nat.le_refl _) (Jvm.hb hby d34_1) (by decide) (by decide)
  have N459 := Fr.app N0 Nq459
  have pre460 := fun (τ : State) kt => pre458 τ (by
    show Steps p.tables e below (s₁.setTop (mkF m 0 #[.val (.ref a), .val (.int (3 : Int32))] [])) τ
    refine XS.aloadN X0.here hx rfl (Jvm.hb hby d34_0) rfl rfl ?_
    exact st459 τ kt)
  obtain ⟨T461, X461, e461, st461⟩ := getF X459 hx hZ hown (host := "") (Or.inl (own_W32 hw)) Via.refl eq459 F1 (g := (mkF m 8 #[.val (.ref a), .val (.int (3 : Int32))] [(.ref a)])) rfl rfl (Jvm.hb hby d34_8)
  have pre462 := fun (τ : State) kt => pre460 τ (by
    show Steps p.tables e below (T459.setTop (mkF m 4 #[.val (.ref a), .val (.int (3 : Int32))] [(.int (1 : Int32))])) τ
    refine XS.ifNo X459.here hx rfl (Jvm.hb hby d34_4) rfl ((if0 _ _).trans (feq (by decide)).1) ?_
    refine XS.aloadN X459.here hx rfl (Jvm.hb hby d34_7) rfl rfl ?_
    exact st461 τ kt)
  obtain ⟨_, T463, L463, X463, ⟨rfl, Nq463, eq463⟩, st463⟩ := own_stat (y := own_mn28) X461 hx hZ hown (own_W190 hw) (own_W191 hw) (by decide) (rmLC3 l Z a0 hw [] vb (3 : Int32) vf kb z v0 v1 v2 v3 v4 v5 h0 n0 (Nat.le_trans Z0 KK0.1) rfl VB h2 OLD0 O3 q_vf) (own_W193 hw) (own_W192 hw) 0 (by decide) (by decide) e461 (mkF m 12 #[.val (.ref a), .val (.int (3 : Int32))] [(.int (3 : Int32)), (.ref vb)]) rfl (by rw [hml]; rfl) [(.ref vb), (.int (3 : Int32))] [] rfl (lenOf own_pd___BI_C rfl) rfl (Nat.le_refl _) (Jvm.hb hby d34_12) (by decide) (by decide)
  have N463 := Fr.app N459 Nq463
  have pre464 := fun (τ : State) kt => pre462 τ (by
    show Steps p.tables e below (T461.setTop (mkF m 11 #[.val (.ref a), .val (.int (3 : Int32))] [(.ref vb)])) τ
    refine XS.iloadN X461.here hx rfl (Jvm.hb hby d34_11) rfl ?_
    exact st463 τ kt)
  obtain ⟨fs, hrL, hrun, hended, hW, hsame⟩ := X463.leave (v := some (.int (nar .char (own_ch v3)))) (fun h => by rw [Bd.returns] at h; cases h)
  refine ⟨_, _, cast (congrFun hPS _) (pre464 _ ?_), hrun, hended, _, _, rfl, ?_, ⟨_, rfl⟩, hW, hsame.mono (by decide) (by decide)⟩
  · show Steps p.tables e below (T463.setTop (mkF m 15 #[.val (.ref a), .val (.int (3 : Int32))] [(.int (own_ch v3))])) _
    exact retN X463 hx (t := .char) Bd.returns (by simp) (Jvm.hb hby d34_15) hrL
  · show QI (own_ch v3) h0 n0 _ T463.heap _
    rw [eq463]
    exact ⟨congrArg (fun z => some (Value.int z)) (own_nar_ch v3), N463, rfl⟩
set_option maxRecDepth 65536 in
set_option maxHeartbeats 40000000 in
theorem rmLC4 (l : Launch) (Z : State) (a0 : Array Value) (hw : ∀ d ∈ tables_1, d.before a0 Z = true) (ws : List Jvm.Cond) (vb : Addr) (ci : Int32) (vf : Value) (kb : ClassId) (z v0 v1 v2 v3 v4 v5 : Int32) (h0 : Heap) (n0 : Nat) (Z0 : n0 ≤ h0.size) (hci : ci = (4 : Int32)) (VB : Arv Z h0 vb kb .byte z [(.int v0), (.int v1), (.int v2), (.int v3), (.int v4), (.int v5)] (.int (0 : Int32))) (h2 : (4 : Int32) < z) (OLD0 : Old Z n0 h0) (O3 : Sta Z Z.heap "jdk/internal/util/Preconditions" "SIOOBE_FORMATTER" "Ljava/util/function/BiFunction;" vf) (q_vf : vf = .null ∨ ∃ b, vf = .ref b) :
    MetFree l (⟨"java/lang/StringLatin1", "charAt", "([BI)C"⟩ : MethodName) (head1 (Jvm.Cond.code (⟨"java/lang/StringLatin1", "charAt", "([BI)C"⟩ : MethodName) jdk_43_method_2_code 2 (some .char) :: ws) ({ frames := 2, cells := 0, slots := 0, locals := 28 } : Room)) (fun α U => α = #[(.ref vb), (.int ci)] ∧ Z.Warmed39 U.vm ∧ U.heap = h0) (fun _ _ _ _ _ => True) (fun _ U ω U' => ∃ ν Λ, ω = .returned ν ∧ QI (own_ch v4) h0 n0 ν U'.heap Λ ∧ FrameEnd U ω U' Λ ({ frames := 2, cells := 0, slots := 0, locals := 28 } : Room).cells ({ frames := 2, cells := 0, slots := 0, locals := 28 } : Room).slots) := by
  refine MetFree.of_bodySF (plainFor_of_name own_pn_java_lang_StringLatin1) hisR ?_
  intro p e s m args below meth c s₁ Bd hml0 hP hK
  obtain ⟨rfl, hZ, hh⟩ := hP
  have hx := Bd.exec
  have hby := Bd.bytes
  have hml : c.maxLocals = 2 := hml0
  have hown : s.vm.findClass "java/lang/StringLatin1" = some m.cls := findClass_of_methodNamed Bd.named
  have hnm := (name_of_methodNamed Bd.named Bd.method).1
  have X0 : Stand p l e ({ frames := 2, cells := 0, slots := 0, locals := 28 } : Room) s m #[(.ref vb), (.int ci)] below meth c s₁ [] 0 0 := Stand.of_body Bd
  have e0 : s₁.heap = h0 := by rw [← hh, Bd.state]; rfl
  have N0 := Fr.nil n0
  have KK0 : Keep h0 h0 [] := Keep.refl h0 []
  obtain ⟨PS, hPS⟩ : ∃ P : State → Prop, P = fun τ => Steps p.tables e below (s₁.setTop (entryFrame m #[(.ref vb), (.int ci)] 2)) τ := ⟨_, rfl⟩
  have pre0 : ∀ τ, Steps p.tables e below (s₁.setTop (mkF m 0 #[.val (.ref vb), .val (.int ci)] [])) τ → PS τ := by rw [hPS]; exact fun τ κ => castTop (own_ef36 m vb ci) κ
  have pre465 : ∀ τ, Steps p.tables e below (s₁.setTop (mkF m 0 #[.val (.ref vb), .val (.int (4 : Int32))] [])) τ → PS τ := by have hq := pre0; rw [hci] at hq; exact hq
  obtain ⟨cl466, Ar466, q466, S466, M466, H466, U466⟩ := id VB
  have pre467 := fun (τ : State) kt => pre465 τ (by
    show Steps p.tables e below (s₁.setTop (mkF m 0 #[.val (.ref vb), .val (.int (4 : Int32))] [])) τ
    refine XS.iloadN X0.here hx rfl (Jvm.hb hby d36_0) rfl ?_
    refine XS.aloadN X0.here hx rfl (Jvm.hb hby d36_1) rfl rfl ?_
    refine X0.arraylength hx ((congrArg (fun (HH : Heap) => HH[vb]?) (e0 : s₁.heap = h0)).trans Ar466.1) (State.isArrayOf_alike hZ.alike Ar466.2.1) (g := (mkF m 2 #[.val (.ref vb), .val (.int (4 : Int32))] [(.ref vb), (.int (4 : Int32))])) rfl rfl (Jvm.hb hby d36_2) _ ?_
    exact kt)
  have pre468 : ∀ τ, Steps p.tables e below (s₁.setTop (mkF m 3 #[.val (.ref vb), .val (.int (4 : Int32))] [(.int z), (.int (4 : Int32))])) τ → PS τ := by
    have hq := pre467
    rw [len_of S466 M466] at hq
    exact hq
  obtain ⟨_, T469, L469, X469, ⟨rfl, Nq469, eq469⟩, st469⟩ := own_stat (y := own_mn26) X0 hx hZ hown (own_W194 hw) (own_W195 hw) (by decide) (rmCI l Z a0 hw [] (4 : Int32) z vf h0 n0 (Nat.le_trans Z0 KK0.1) O3 q_vf OLD0 (by decide) h2) (own_W196 hw) (own_W6 hw) 0 (by decide) (by decide) e0 (mkF m 3 #[.val (.ref vb), .val (.int (4 : Int32))] [(.int z), (.int (4 : Int32))]) rfl (by rw [hml]; rfl) [(.int (4 : Int32)), (.int z)] [] rfl (lenOf own_pd__II_V rfl) rfl (Nat.le_refl _) (Jvm.hb hby d36_3) (by decide) (by decide)
  have N469 := Fr.app N0 Nq469
  have pre470 := fun (τ : State) kt => pre468 τ (st469 τ kt)
  obtain ⟨cl471, Ar471, q471, S471, M471, H471, U471⟩ := id VB
  have in471 : ¬ ((4 : Int32) < 0 ∨ cl471.slots.size ≤ ((4 : Int32)).toNatClampNeg) := inb_of S471 ⟨by decide, h2⟩
  have pre472 := fun (τ : State) kt => pre470 τ (by
    show Steps p.tables e below (T469.setTop (mkF m 6 #[.val (.ref vb), .val (.int (4 : Int32))] [])) τ
    refine XS.aloadN X469.here hx rfl (Jvm.hb hby d36_6) rfl rfl ?_
    refine XS.iloadN X469.here hx rfl (Jvm.hb hby d36_7) rfl ?_
    refine X469.baloadBytes hx ((congrArg (fun (HH : Heap) => HH[vb]?) (eq469 : T469.heap = h0)).trans Ar471.1) (State.isArrayOf_alike hZ.alike Ar471.2.1) Ar471.2.2 in471 (H471.at in471 rfl) (g := (mkF m 8 #[.val (.ref vb), .val (.int (4 : Int32))] [(.int (4 : Int32)), (.ref vb)])) rfl rfl (Jvm.hb hby d36_8) _ ?_
    refine XS.sipush X469.here hx rfl (Jvm.hb hby d36_9) ?_
    refine XS.iand X469.here hx rfl (Jvm.hb hby d36_12) rfl ?_
    refine XT.i2c X469.here hx rfl (Jvm.hb hby d36_13) rfl ?_
    exact kt)
  obtain ⟨fs, hrL, hrun, hended, hW, hsame⟩ := X469.leave (v := some (.int (nar .char ((v4 &&& (255 : Int32))).toUInt32.toUInt16.toUInt32.toInt32))) (fun h => by rw [Bd.returns] at h; cases h)
  refine ⟨_, _, cast (congrFun hPS _) (pre472 _ ?_), hrun, hended, _, _, rfl, ?_, ⟨_, rfl⟩, hW, hsame.mono (by decide) (by decide)⟩
  · show Steps p.tables e below (T469.setTop (mkF m 14 #[.val (.ref vb), .val (.int (4 : Int32))] [(.int ((v4 &&& (255 : Int32))).toUInt32.toUInt16.toUInt32.toInt32)])) _
    exact retN X469 hx (t := .char) Bd.returns (by simp) (Jvm.hb hby d36_14) hrL
  · show QI (own_ch v4) h0 n0 _ T469.heap _
    rw [eq469]
    exact ⟨congrArg (fun z => some (Value.int z)) (own_nar_ch v4), N469, rfl⟩
set_option maxRecDepth 65536 in
set_option maxHeartbeats 40000000 in
theorem rmCA4 (l : Launch) (Z : State) (a0 : Array Value) (hw : ∀ d ∈ tables_1, d.before a0 Z = true) (ws : List Jvm.Cond) (a : Addr) (ci : Int32) (cz : Int32) (vb : Addr) (vf : Value) (kb : ClassId) (z v0 v1 v2 v3 v4 v5 : Int32) (h0 : Heap) (n0 : Nat) (Z0 : n0 ≤ h0.size) (hci : ci = (4 : Int32)) (E7 : Exa Z h0 a "java/lang/String") (F1 : Fld Z h0 a "java/lang/String" "value" "[B" (.ref vb)) (F2 : Fld Z h0 a "java/lang/String" "coder" "B" (.int (0 : Int32))) (VB : Arv Z h0 vb kb .byte z [(.int v0), (.int v1), (.int v2), (.int v3), (.int v4), (.int v5)] (.int (0 : Int32))) (h2 : (4 : Int32) < z) (O3 : Sta Z Z.heap "jdk/internal/util/Preconditions" "SIOOBE_FORMATTER" "Ljava/util/function/BiFunction;" vf) (q_vf : vf = .null ∨ ∃ b, vf = .ref b) (O2 : Sta Z Z.heap "java/lang/String" "COMPACT_STRINGS" "Z" (.int cz)) (P5 : ¬ cz = 0) (OLD0 : Old Z n0 h0) :
    MetFree l (⟨"java/lang/String", "charAt", "(I)C"⟩ : MethodName) (head1 (Jvm.Cond.code (⟨"java/lang/String", "charAt", "(I)C"⟩ : MethodName) jdk_42_method_56_code 2 (some .char) :: ws) ({ frames := 3, cells := 0, slots := 0, locals := 44 } : Room)) (fun α U => α = #[(.ref a), (.int ci)] ∧ Z.Warmed39 U.vm ∧ U.heap = h0) (fun _ _ _ _ _ => True) (fun _ U ω U' => ∃ ν Λ, ω = .returned ν ∧ QI (own_ch v4) h0 n0 ν U'.heap Λ ∧ FrameEnd U ω U' Λ ({ frames := 3, cells := 0, slots := 0, locals := 44 } : Room).cells ({ frames := 3, cells := 0, slots := 0, locals := 44 } : Room).slots) := by
  refine MetFree.of_bodySF (plainFor_of_name own_pn_java_lang_String) hisR ?_
  intro p e s m args below meth c s₁ Bd hml0 hP hK
  obtain ⟨rfl, hZ, hh⟩ := hP
  have hx := Bd.exec
  have hby := Bd.bytes
  have hml : c.maxLocals = 2 := hml0
  have hown : s.vm.findClass "java/lang/String" = some m.cls := findClass_of_methodNamed Bd.named
  have hnm := (name_of_methodNamed Bd.named Bd.method).1
  have X0 : Stand p l e ({ frames := 3, cells := 0, slots := 0, locals := 44 } : Room) s m #[(.ref a), (.int ci)] below meth c s₁ [] 0 0 := Stand.of_body Bd
  have e0 : s₁.heap = h0 := by rw [← hh, Bd.state]; rfl
  have N0 := Fr.nil n0
  have KK0 : Keep h0 h0 [] := Keep.refl h0 []
  obtain ⟨PS, hPS⟩ : ∃ P : State → Prop, P = fun τ => Steps p.tables e below (s₁.setTop (entryFrame m #[(.ref a), (.int ci)] 2)) τ := ⟨_, rfl⟩
  have pre0 : ∀ τ, Steps p.tables e below (s₁.setTop (mkF m 0 #[.val (.ref a), .val (.int ci)] [])) τ → PS τ := by rw [hPS]; exact fun τ κ => castTop (own_ef34 m a ci) κ
  have pre473 : ∀ τ, Steps p.tables e below (s₁.setTop (mkF m 0 #[.val (.ref a), .val (.int (4 : Int32))] [])) τ → PS τ := by have hq := pre0; rw [hci] at hq; exact hq
  obtain ⟨_, T474, L474, X474, ⟨rfl, Nq474, eq474⟩, st474⟩ := own_virt (y := own_mn27) (b := a) X0 hx hZ hown (own_W185 hw) (own_W186 hw) (own_W188 hw) (own_W187 hw) (by decide) (rmIL l Z a0 hw [] a cz h0 n0 (Nat.le_trans Z0 KK0.1) F2 O2 P5 OLD0) (own_W189 hw) (own_W6 hw) 0 (by decide) (by decide) E7 e0 (mkF m 1 #[.val (.ref a), .val (.int (4 : Int32))] [(.ref a)]) rfl (by rw [hml]; rfl) [] [] rfl (lenOf own_pd___Z rfl) rfl (Nat.le_refl _) (Jvm.hb hby d34_1) (by decide) (by decide)
  have N474 := Fr.app N0 Nq474
  have pre475 := fun (τ : State) kt => pre473 τ (by
    show Steps p.tables e below (s₁.setTop (mkF m 0 #[.val (.ref a), .val (.int (4 : Int32))] [])) τ
    refine XS.aloadN X0.here hx rfl (Jvm.hb hby d34_0) rfl rfl ?_
    exact st474 τ kt)
  obtain ⟨T476, X476, e476, st476⟩ := getF X474 hx hZ hown (host := "") (Or.inl (own_W32 hw)) Via.refl eq474 F1 (g := (mkF m 8 #[.val (.ref a), .val (.int (4 : Int32))] [(.ref a)])) rfl rfl (Jvm.hb hby d34_8)
  have pre477 := fun (τ : State) kt => pre475 τ (by
    show Steps p.tables e below (T474.setTop (mkF m 4 #[.val (.ref a), .val (.int (4 : Int32))] [(.int (1 : Int32))])) τ
    refine XS.ifNo X474.here hx rfl (Jvm.hb hby d34_4) rfl ((if0 _ _).trans (feq (by decide)).1) ?_
    refine XS.aloadN X474.here hx rfl (Jvm.hb hby d34_7) rfl rfl ?_
    exact st476 τ kt)
  obtain ⟨_, T478, L478, X478, ⟨rfl, Nq478, eq478⟩, st478⟩ := own_stat (y := own_mn28) X476 hx hZ hown (own_W190 hw) (own_W191 hw) (by decide) (rmLC4 l Z a0 hw [] vb (4 : Int32) vf kb z v0 v1 v2 v3 v4 v5 h0 n0 (Nat.le_trans Z0 KK0.1) rfl VB h2 OLD0 O3 q_vf) (own_W193 hw) (own_W192 hw) 0 (by decide) (by decide) e476 (mkF m 12 #[.val (.ref a), .val (.int (4 : Int32))] [(.int (4 : Int32)), (.ref vb)]) rfl (by rw [hml]; rfl) [(.ref vb), (.int (4 : Int32))] [] rfl (lenOf own_pd___BI_C rfl) rfl (Nat.le_refl _) (Jvm.hb hby d34_12) (by decide) (by decide)
  have N478 := Fr.app N474 Nq478
  have pre479 := fun (τ : State) kt => pre477 τ (by
    show Steps p.tables e below (T476.setTop (mkF m 11 #[.val (.ref a), .val (.int (4 : Int32))] [(.ref vb)])) τ
    refine XS.iloadN X476.here hx rfl (Jvm.hb hby d34_11) rfl ?_
    exact st478 τ kt)
  obtain ⟨fs, hrL, hrun, hended, hW, hsame⟩ := X478.leave (v := some (.int (nar .char (own_ch v4)))) (fun h => by rw [Bd.returns] at h; cases h)
  refine ⟨_, _, cast (congrFun hPS _) (pre479 _ ?_), hrun, hended, _, _, rfl, ?_, ⟨_, rfl⟩, hW, hsame.mono (by decide) (by decide)⟩
  · show Steps p.tables e below (T478.setTop (mkF m 15 #[.val (.ref a), .val (.int (4 : Int32))] [(.int (own_ch v4))])) _
    exact retN X478 hx (t := .char) Bd.returns (by simp) (Jvm.hb hby d34_15) hrL
  · show QI (own_ch v4) h0 n0 _ T478.heap _
    rw [eq478]
    exact ⟨congrArg (fun z => some (Value.int z)) (own_nar_ch v4), N478, rfl⟩
set_option maxRecDepth 65536 in
set_option maxHeartbeats 40000000 in
theorem rmLC5 (l : Launch) (Z : State) (a0 : Array Value) (hw : ∀ d ∈ tables_1, d.before a0 Z = true) (ws : List Jvm.Cond) (vb : Addr) (ci : Int32) (vf : Value) (kb : ClassId) (z v0 v1 v2 v3 v4 v5 : Int32) (h0 : Heap) (n0 : Nat) (Z0 : n0 ≤ h0.size) (hci : ci = (5 : Int32)) (VB : Arv Z h0 vb kb .byte z [(.int v0), (.int v1), (.int v2), (.int v3), (.int v4), (.int v5)] (.int (0 : Int32))) (h2 : (5 : Int32) < z) (OLD0 : Old Z n0 h0) (O3 : Sta Z Z.heap "jdk/internal/util/Preconditions" "SIOOBE_FORMATTER" "Ljava/util/function/BiFunction;" vf) (q_vf : vf = .null ∨ ∃ b, vf = .ref b) :
    MetFree l (⟨"java/lang/StringLatin1", "charAt", "([BI)C"⟩ : MethodName) (head1 (Jvm.Cond.code (⟨"java/lang/StringLatin1", "charAt", "([BI)C"⟩ : MethodName) jdk_43_method_2_code 2 (some .char) :: ws) ({ frames := 2, cells := 0, slots := 0, locals := 28 } : Room)) (fun α U => α = #[(.ref vb), (.int ci)] ∧ Z.Warmed39 U.vm ∧ U.heap = h0) (fun _ _ _ _ _ => True) (fun _ U ω U' => ∃ ν Λ, ω = .returned ν ∧ QI (own_ch v5) h0 n0 ν U'.heap Λ ∧ FrameEnd U ω U' Λ ({ frames := 2, cells := 0, slots := 0, locals := 28 } : Room).cells ({ frames := 2, cells := 0, slots := 0, locals := 28 } : Room).slots) := by
  refine MetFree.of_bodySF (plainFor_of_name own_pn_java_lang_StringLatin1) hisR ?_
  intro p e s m args below meth c s₁ Bd hml0 hP hK
  obtain ⟨rfl, hZ, hh⟩ := hP
  have hx := Bd.exec
  have hby := Bd.bytes
  have hml : c.maxLocals = 2 := hml0
  have hown : s.vm.findClass "java/lang/StringLatin1" = some m.cls := findClass_of_methodNamed Bd.named
  have hnm := (name_of_methodNamed Bd.named Bd.method).1
  have X0 : Stand p l e ({ frames := 2, cells := 0, slots := 0, locals := 28 } : Room) s m #[(.ref vb), (.int ci)] below meth c s₁ [] 0 0 := Stand.of_body Bd
  have e0 : s₁.heap = h0 := by rw [← hh, Bd.state]; rfl
  have N0 := Fr.nil n0
  have KK0 : Keep h0 h0 [] := Keep.refl h0 []
  obtain ⟨PS, hPS⟩ : ∃ P : State → Prop, P = fun τ => Steps p.tables e below (s₁.setTop (entryFrame m #[(.ref vb), (.int ci)] 2)) τ := ⟨_, rfl⟩
  have pre0 : ∀ τ, Steps p.tables e below (s₁.setTop (mkF m 0 #[.val (.ref vb), .val (.int ci)] [])) τ → PS τ := by rw [hPS]; exact fun τ κ => castTop (own_ef36 m vb ci) κ
  have pre480 : ∀ τ, Steps p.tables e below (s₁.setTop (mkF m 0 #[.val (.ref vb), .val (.int (5 : Int32))] [])) τ → PS τ := by have hq := pre0; rw [hci] at hq; exact hq
  obtain ⟨cl481, Ar481, q481, S481, M481, H481, U481⟩ := id VB
  have pre482 := fun (τ : State) kt => pre480 τ (by
    show Steps p.tables e below (s₁.setTop (mkF m 0 #[.val (.ref vb), .val (.int (5 : Int32))] [])) τ
    refine XS.iloadN X0.here hx rfl (Jvm.hb hby d36_0) rfl ?_
    refine XS.aloadN X0.here hx rfl (Jvm.hb hby d36_1) rfl rfl ?_
    refine X0.arraylength hx ((congrArg (fun (HH : Heap) => HH[vb]?) (e0 : s₁.heap = h0)).trans Ar481.1) (State.isArrayOf_alike hZ.alike Ar481.2.1) (g := (mkF m 2 #[.val (.ref vb), .val (.int (5 : Int32))] [(.ref vb), (.int (5 : Int32))])) rfl rfl (Jvm.hb hby d36_2) _ ?_
    exact kt)
  have pre483 : ∀ τ, Steps p.tables e below (s₁.setTop (mkF m 3 #[.val (.ref vb), .val (.int (5 : Int32))] [(.int z), (.int (5 : Int32))])) τ → PS τ := by
    have hq := pre482
    rw [len_of S481 M481] at hq
    exact hq
  obtain ⟨_, T484, L484, X484, ⟨rfl, Nq484, eq484⟩, st484⟩ := own_stat (y := own_mn26) X0 hx hZ hown (own_W194 hw) (own_W195 hw) (by decide) (rmCI l Z a0 hw [] (5 : Int32) z vf h0 n0 (Nat.le_trans Z0 KK0.1) O3 q_vf OLD0 (by decide) h2) (own_W196 hw) (own_W6 hw) 0 (by decide) (by decide) e0 (mkF m 3 #[.val (.ref vb), .val (.int (5 : Int32))] [(.int z), (.int (5 : Int32))]) rfl (by rw [hml]; rfl) [(.int (5 : Int32)), (.int z)] [] rfl (lenOf own_pd__II_V rfl) rfl (Nat.le_refl _) (Jvm.hb hby d36_3) (by decide) (by decide)
  have N484 := Fr.app N0 Nq484
  have pre485 := fun (τ : State) kt => pre483 τ (st484 τ kt)
  obtain ⟨cl486, Ar486, q486, S486, M486, H486, U486⟩ := id VB
  have in486 : ¬ ((5 : Int32) < 0 ∨ cl486.slots.size ≤ ((5 : Int32)).toNatClampNeg) := inb_of S486 ⟨by decide, h2⟩
  have pre487 := fun (τ : State) kt => pre485 τ (by
    show Steps p.tables e below (T484.setTop (mkF m 6 #[.val (.ref vb), .val (.int (5 : Int32))] [])) τ
    refine XS.aloadN X484.here hx rfl (Jvm.hb hby d36_6) rfl rfl ?_
    refine XS.iloadN X484.here hx rfl (Jvm.hb hby d36_7) rfl ?_
    refine X484.baloadBytes hx ((congrArg (fun (HH : Heap) => HH[vb]?) (eq484 : T484.heap = h0)).trans Ar486.1) (State.isArrayOf_alike hZ.alike Ar486.2.1) Ar486.2.2 in486 (H486.at in486 rfl) (g := (mkF m 8 #[.val (.ref vb), .val (.int (5 : Int32))] [(.int (5 : Int32)), (.ref vb)])) rfl rfl (Jvm.hb hby d36_8) _ ?_
    refine XS.sipush X484.here hx rfl (Jvm.hb hby d36_9) ?_
    refine XS.iand X484.here hx rfl (Jvm.hb hby d36_12) rfl ?_
    refine XT.i2c X484.here hx rfl (Jvm.hb hby d36_13) rfl ?_
    exact kt)
  obtain ⟨fs, hrL, hrun, hended, hW, hsame⟩ := X484.leave (v := some (.int (nar .char ((v5 &&& (255 : Int32))).toUInt32.toUInt16.toUInt32.toInt32))) (fun h => by rw [Bd.returns] at h; cases h)
  refine ⟨_, _, cast (congrFun hPS _) (pre487 _ ?_), hrun, hended, _, _, rfl, ?_, ⟨_, rfl⟩, hW, hsame.mono (by decide) (by decide)⟩
  · show Steps p.tables e below (T484.setTop (mkF m 14 #[.val (.ref vb), .val (.int (5 : Int32))] [(.int ((v5 &&& (255 : Int32))).toUInt32.toUInt16.toUInt32.toInt32)])) _
    exact retN X484 hx (t := .char) Bd.returns (by simp) (Jvm.hb hby d36_14) hrL
  · show QI (own_ch v5) h0 n0 _ T484.heap _
    rw [eq484]
    exact ⟨congrArg (fun z => some (Value.int z)) (own_nar_ch v5), N484, rfl⟩
set_option maxRecDepth 65536 in
set_option maxHeartbeats 40000000 in
theorem rmCA5 (l : Launch) (Z : State) (a0 : Array Value) (hw : ∀ d ∈ tables_1, d.before a0 Z = true) (ws : List Jvm.Cond) (a : Addr) (ci : Int32) (cz : Int32) (vb : Addr) (vf : Value) (kb : ClassId) (z v0 v1 v2 v3 v4 v5 : Int32) (h0 : Heap) (n0 : Nat) (Z0 : n0 ≤ h0.size) (hci : ci = (5 : Int32)) (E7 : Exa Z h0 a "java/lang/String") (F1 : Fld Z h0 a "java/lang/String" "value" "[B" (.ref vb)) (F2 : Fld Z h0 a "java/lang/String" "coder" "B" (.int (0 : Int32))) (VB : Arv Z h0 vb kb .byte z [(.int v0), (.int v1), (.int v2), (.int v3), (.int v4), (.int v5)] (.int (0 : Int32))) (h2 : (5 : Int32) < z) (O3 : Sta Z Z.heap "jdk/internal/util/Preconditions" "SIOOBE_FORMATTER" "Ljava/util/function/BiFunction;" vf) (q_vf : vf = .null ∨ ∃ b, vf = .ref b) (O2 : Sta Z Z.heap "java/lang/String" "COMPACT_STRINGS" "Z" (.int cz)) (P5 : ¬ cz = 0) (OLD0 : Old Z n0 h0) :
    MetFree l (⟨"java/lang/String", "charAt", "(I)C"⟩ : MethodName) (head1 (Jvm.Cond.code (⟨"java/lang/String", "charAt", "(I)C"⟩ : MethodName) jdk_42_method_56_code 2 (some .char) :: ws) ({ frames := 3, cells := 0, slots := 0, locals := 44 } : Room)) (fun α U => α = #[(.ref a), (.int ci)] ∧ Z.Warmed39 U.vm ∧ U.heap = h0) (fun _ _ _ _ _ => True) (fun _ U ω U' => ∃ ν Λ, ω = .returned ν ∧ QI (own_ch v5) h0 n0 ν U'.heap Λ ∧ FrameEnd U ω U' Λ ({ frames := 3, cells := 0, slots := 0, locals := 44 } : Room).cells ({ frames := 3, cells := 0, slots := 0, locals := 44 } : Room).slots) := by
  refine MetFree.of_bodySF (plainFor_of_name own_pn_java_lang_String) hisR ?_
  intro p e s m args below meth c s₁ Bd hml0 hP hK
  obtain ⟨rfl, hZ, hh⟩ := hP
  have hx := Bd.exec
  have hby := Bd.bytes
  have hml : c.maxLocals = 2 := hml0
  have hown : s.vm.findClass "java/lang/String" = some m.cls := findClass_of_methodNamed Bd.named
  have hnm := (name_of_methodNamed Bd.named Bd.method).1
  have X0 : Stand p l e ({ frames := 3, cells := 0, slots := 0, locals := 44 } : Room) s m #[(.ref a), (.int ci)] below meth c s₁ [] 0 0 := Stand.of_body Bd
  have e0 : s₁.heap = h0 := by rw [← hh, Bd.state]; rfl
  have N0 := Fr.nil n0
  have KK0 : Keep h0 h0 [] := Keep.refl h0 []
  obtain ⟨PS, hPS⟩ : ∃ P : State → Prop, P = fun τ => Steps p.tables e below (s₁.setTop (entryFrame m #[(.ref a), (.int ci)] 2)) τ := ⟨_, rfl⟩
  have pre0 : ∀ τ, Steps p.tables e below (s₁.setTop (mkF m 0 #[.val (.ref a), .val (.int ci)] [])) τ → PS τ := by rw [hPS]; exact fun τ κ => castTop (own_ef34 m a ci) κ
  have pre488 : ∀ τ, Steps p.tables e below (s₁.setTop (mkF m 0 #[.val (.ref a), .val (.int (5 : Int32))] [])) τ → PS τ := by have hq := pre0; rw [hci] at hq; exact hq
  obtain ⟨_, T489, L489, X489, ⟨rfl, Nq489, eq489⟩, st489⟩ := own_virt (y := own_mn27) (b := a) X0 hx hZ hown (own_W185 hw) (own_W186 hw) (own_W188 hw) (own_W187 hw) (by decide) (rmIL l Z a0 hw [] a cz h0 n0 (Nat.le_trans Z0 KK0.1) F2 O2 P5 OLD0) (own_W189 hw) (own_W6 hw) 0 (by decide) (by decide) E7 e0 (mkF m 1 #[.val (.ref a), .val (.int (5 : Int32))] [(.ref a)]) rfl (by rw [hml]; rfl) [] [] rfl (lenOf own_pd___Z rfl) rfl (Nat.le_refl _) (Jvm.hb hby d34_1) (by decide) (by decide)
  have N489 := Fr.app N0 Nq489
  have pre490 := fun (τ : State) kt => pre488 τ (by
    show Steps p.tables e below (s₁.setTop (mkF m 0 #[.val (.ref a), .val (.int (5 : Int32))] [])) τ
    refine XS.aloadN X0.here hx rfl (Jvm.hb hby d34_0) rfl rfl ?_
    exact st489 τ kt)
  obtain ⟨T491, X491, e491, st491⟩ := getF X489 hx hZ hown (host := "") (Or.inl (own_W32 hw)) Via.refl eq489 F1 (g := (mkF m 8 #[.val (.ref a), .val (.int (5 : Int32))] [(.ref a)])) rfl rfl (Jvm.hb hby d34_8)
  have pre492 := fun (τ : State) kt => pre490 τ (by
    show Steps p.tables e below (T489.setTop (mkF m 4 #[.val (.ref a), .val (.int (5 : Int32))] [(.int (1 : Int32))])) τ
    refine XS.ifNo X489.here hx rfl (Jvm.hb hby d34_4) rfl ((if0 _ _).trans (feq (by decide)).1) ?_
    refine XS.aloadN X489.here hx rfl (Jvm.hb hby d34_7) rfl rfl ?_
    exact st491 τ kt)
  obtain ⟨_, T493, L493, X493, ⟨rfl, Nq493, eq493⟩, st493⟩ := own_stat (y := own_mn28) X491 hx hZ hown (own_W190 hw) (own_W191 hw) (by decide) (rmLC5 l Z a0 hw [] vb (5 : Int32) vf kb z v0 v1 v2 v3 v4 v5 h0 n0 (Nat.le_trans Z0 KK0.1) rfl VB h2 OLD0 O3 q_vf) (own_W193 hw) (own_W192 hw) 0 (by decide) (by decide) e491 (mkF m 12 #[.val (.ref a), .val (.int (5 : Int32))] [(.int (5 : Int32)), (.ref vb)]) rfl (by rw [hml]; rfl) [(.ref vb), (.int (5 : Int32))] [] rfl (lenOf own_pd___BI_C rfl) rfl (Nat.le_refl _) (Jvm.hb hby d34_12) (by decide) (by decide)
  have N493 := Fr.app N489 Nq493
  have pre494 := fun (τ : State) kt => pre492 τ (by
    show Steps p.tables e below (T491.setTop (mkF m 11 #[.val (.ref a), .val (.int (5 : Int32))] [(.ref vb)])) τ
    refine XS.iloadN X491.here hx rfl (Jvm.hb hby d34_11) rfl ?_
    exact st493 τ kt)
  obtain ⟨fs, hrL, hrun, hended, hW, hsame⟩ := X493.leave (v := some (.int (nar .char (own_ch v5)))) (fun h => by rw [Bd.returns] at h; cases h)
  refine ⟨_, _, cast (congrFun hPS _) (pre494 _ ?_), hrun, hended, _, _, rfl, ?_, ⟨_, rfl⟩, hW, hsame.mono (by decide) (by decide)⟩
  · show Steps p.tables e below (T493.setTop (mkF m 15 #[.val (.ref a), .val (.int (5 : Int32))] [(.int (own_ch v5))])) _
    exact retN X493 hx (t := .char) Bd.returns (by simp) (Jvm.hb hby d34_15) hrL
  · show QI (own_ch v5) h0 n0 _ T493.heap _
    rw [eq493]
    exact ⟨congrArg (fun z => some (Value.int z)) (own_nar_ch v5), N493, rfl⟩
theorem d40_0 : decode method_3_code 0 = .ok (.iload_n 0, 1) := by decide +kernel
theorem d40_1 : decode method_3_code 1 = .ok (.ifCond .ne 7, 3) := by decide +kernel
theorem d40_4 : decode method_3_code 4 = .ok (.iload_n 1, 1) := by decide +kernel
theorem d40_5 : decode method_3_code 5 = .ok (.goto 4, 3) := by decide +kernel
theorem d40_8 : decode method_3_code 8 = .ok (.iload_n 2, 1) := by decide +kernel
theorem d40_9 : decode method_3_code 9 = .ok (.ireturn, 1) := by decide +kernel
theorem own_ef40 (m : MethodId) (x0 : Int32) (x1 : Int32) (x2 : Int32) : entryFrame m #[(.int x0), (.int x1), (.int x2)] 3 = mkF m 0 #[.val (.int x0), .val (.int x1), .val (.int x2)] [] := by first | (simp [entryFrame, mkF, argsToLocals, Value.category]; done) | rfl
set_option maxRecDepth 65536 in
set_option maxHeartbeats 40000000 in
theorem rmPk (l : Launch) (Z : State) (a0 : Array Value) (hw : ∀ d ∈ tables_1, d.before a0 Z = true) (ws : List Jvm.Cond) (i : Int32) (c0 : Int32) (c1 : Int32)  (h0 : Heap) (n0 : Nat) (Z0 : n0 ≤ h0.size) (k0 : nar .char c0 = c0) (k1 : nar .char c1 = c1) :
    MetFree l (⟨"com/example/incomewright/incomewright/casefile/ProblemToStringPinLaw", "pick", "(ICC)C"⟩ : MethodName) (head1 (Jvm.Cond.code (⟨"com/example/incomewright/incomewright/casefile/ProblemToStringPinLaw", "pick", "(ICC)C"⟩ : MethodName) method_3_code 3 (some .char) :: ws) ({ frames := 0, cells := 0, slots := 0, locals := 0 } : Room)) (fun α U => α = #[(.int i), (.int c0), (.int c1)] ∧ Z.Warmed39 U.vm ∧ U.heap = h0) (fun _ _ _ _ _ => True) (fun _ U ω U' => ∃ ν Λ, ω = .returned ν ∧ QI (own_pk i c0 c1) h0 n0 ν U'.heap Λ ∧ FrameEnd U ω U' Λ ({ frames := 0, cells := 0, slots := 0, locals := 0 } : Room).cells ({ frames := 0, cells := 0, slots := 0, locals := 0 } : Room).slots) := by
  refine MetFree.of_bodySF (plainFor_of_name own_pn_com_example_incomewright_incomewright_casefile_ProblemToStringPinLaw) hisR ?_
  intro p e s m args below meth c s₁ Bd hml0 hP hK
  obtain ⟨rfl, hZ, hh⟩ := hP
  have hx := Bd.exec
  have hby := Bd.bytes
  have hml : c.maxLocals = 3 := hml0
  have hown : s.vm.findClass "com/example/incomewright/incomewright/casefile/ProblemToStringPinLaw" = some m.cls := findClass_of_methodNamed Bd.named
  have hnm := (name_of_methodNamed Bd.named Bd.method).1
  have X0 : Stand p l e ({ frames := 0, cells := 0, slots := 0, locals := 0 } : Room) s m #[(.int i), (.int c0), (.int c1)] below meth c s₁ [] 0 0 := Stand.of_body Bd
  have e0 : s₁.heap = h0 := by rw [← hh, Bd.state]; rfl
  have N0 := Fr.nil n0
  have KK0 : Keep h0 h0 [] := Keep.refl h0 []
  obtain ⟨PS, hPS⟩ : ∃ P : State → Prop, P = fun τ => Steps p.tables e below (s₁.setTop (entryFrame m #[(.int i), (.int c0), (.int c1)] 3)) τ := ⟨_, rfl⟩
  have pre0 : ∀ τ, Steps p.tables e below (s₁.setTop (mkF m 0 #[.val (.int i), .val (.int c0), .val (.int c1)] [])) τ → PS τ := by rw [hPS]; exact fun τ κ => castTop (own_ef40 m i c0 c1) κ
  have pre495 := fun (τ : State) kt => pre0 τ (by
    show Steps p.tables e below (s₁.setTop (mkF m 0 #[.val (.int i), .val (.int c0), .val (.int c1)] [])) τ
    refine XS.iloadN X0.here hx rfl (Jvm.hb hby d40_0) rfl ?_
    exact kt)
  by_cases q : i = (0 : Int32)
  · skip
    have hr : own_pk i c0 c1 = c0 := if_pos q
    have pre496 := fun (τ : State) kt => pre495 τ (by
      show Steps p.tables e below (s₁.setTop (mkF m 1 #[.val (.int i), .val (.int c0), .val (.int c1)] [(.int i)])) τ
      refine XS.ifNo X0.here hx rfl (Jvm.hb hby d40_1) rfl ((if0 _ _).trans (teq q).2) ?_
      refine XS.iloadN X0.here hx rfl (Jvm.hb hby d40_4) rfl ?_
      refine XS.goto X0.here hx rfl (pc0 := 5) (pc' := 9) rfl (Jvm.hb hby d40_5) (by decide) (by decide) ?_
      exact kt)
    obtain ⟨fs, hrL, hrun, hended, hW, hsame⟩ := X0.leave (v := some (.int (nar .char c0))) (fun h => by rw [Bd.returns] at h; cases h)
    refine ⟨_, _, cast (congrFun hPS _) (pre496 _ ?_), hrun, hended, _, _, rfl, ?_, ⟨_, rfl⟩, hW, hsame.mono (by decide) (by decide)⟩
    · show Steps p.tables e below (s₁.setTop (mkF m 9 #[.val (.int i), .val (.int c0), .val (.int c1)] [(.int c0)])) _
      exact retN X0 hx (t := .char) Bd.returns (by simp) (Jvm.hb hby d40_9) hrL
    · show QI (own_pk i c0 c1) h0 n0 _ s₁.heap _
      rw [e0]
      exact ⟨congrArg (fun z => some (Value.int z)) (k0.trans hr.symm), N0, rfl⟩
  · skip
    have hr : own_pk i c0 c1 = c1 := if_neg q
    have pre497 := fun (τ : State) kt => pre495 τ (by
      show Steps p.tables e below (s₁.setTop (mkF m 1 #[.val (.int i), .val (.int c0), .val (.int c1)] [(.int i)])) τ
      refine XS.ifYes X0.here hx rfl (pc0 := 1) (pc' := 8) rfl (Jvm.hb hby d40_1) rfl ((if0 _ _).trans (feq q).2) (by decide) (by decide) ?_
      refine XS.iloadN X0.here hx rfl (Jvm.hb hby d40_8) rfl ?_
      exact kt)
    obtain ⟨fs, hrL, hrun, hended, hW, hsame⟩ := X0.leave (v := some (.int (nar .char c1))) (fun h => by rw [Bd.returns] at h; cases h)
    refine ⟨_, _, cast (congrFun hPS _) (pre497 _ ?_), hrun, hended, _, _, rfl, ?_, ⟨_, rfl⟩, hW, hsame.mono (by decide) (by decide)⟩
    · show Steps p.tables e below (s₁.setTop (mkF m 9 #[.val (.int i), .val (.int c0), .val (.int c1)] [(.int c1)])) _
      exact retN X0 hx (t := .char) Bd.returns (by simp) (Jvm.hb hby d40_9) hrL
    · show QI (own_pk i c0 c1) h0 n0 _ s₁.heap _
      rw [e0]
      exact ⟨congrArg (fun z => some (Value.int z)) (k1.trans hr.symm), N0, rfl⟩
theorem d39_0 : decode method_4_code 0 = .ok (.iload_n 1, 1) := by decide +kernel
theorem d39_1 : decode method_4_code 1 = .ok (.ifCond .ne 12, 3) := by decide +kernel
theorem d39_4 : decode method_4_code 4 = .ok (.iload_n 0, 1) := by decide +kernel
theorem d39_5 : decode method_4_code 5 = .ok (.iload 4, 2) := by decide +kernel
theorem d39_7 : decode method_4_code 7 = .ok (.iload 5, 2) := by decide +kernel
theorem d39_9 : decode method_4_code 9 = .ok (.invokestatic 12, 3) := by decide +kernel
theorem d39_12 : decode method_4_code 12 = .ok (.ireturn, 1) := by decide +kernel
theorem d39_13 : decode method_4_code 13 = .ok (.iload_n 0, 1) := by decide +kernel
theorem d39_14 : decode method_4_code 14 = .ok (.iload_n 1, 1) := by decide +kernel
theorem d39_15 : decode method_4_code 15 = .ok (.if_icmp .ge 10, 3) := by decide +kernel
theorem d39_18 : decode method_4_code 18 = .ok (.iload_n 0, 1) := by decide +kernel
theorem d39_19 : decode method_4_code 19 = .ok (.iload_n 2, 1) := by decide +kernel
theorem d39_20 : decode method_4_code 20 = .ok (.iload_n 3, 1) := by decide +kernel
theorem d39_21 : decode method_4_code 21 = .ok (.invokestatic 12, 3) := by decide +kernel
theorem d39_24 : decode method_4_code 24 = .ok (.ireturn, 1) := by decide +kernel
theorem d39_25 : decode method_4_code 25 = .ok (.iload_n 0, 1) := by decide +kernel
theorem d39_26 : decode method_4_code 26 = .ok (.iload_n 1, 1) := by decide +kernel
theorem d39_27 : decode method_4_code 27 = .ok (.if_icmp .ne 6, 3) := by decide +kernel
theorem d39_30 : decode method_4_code 30 = .ok (.bipush 58, 2) := by decide +kernel
theorem d39_32 : decode method_4_code 32 = .ok (.ireturn, 1) := by decide +kernel
theorem d39_33 : decode method_4_code 33 = .ok (.iload_n 0, 1) := by decide +kernel
theorem d39_34 : decode method_4_code 34 = .ok (.iload_n 1, 1) := by decide +kernel
theorem d39_35 : decode method_4_code 35 = .ok (.iconst 1, 1) := by decide +kernel
theorem d39_36 : decode method_4_code 36 = .ok (.iadd, 1) := by decide +kernel
theorem d39_37 : decode method_4_code 37 = .ok (.if_icmp .ne 6, 3) := by decide +kernel
theorem d39_40 : decode method_4_code 40 = .ok (.bipush 32, 2) := by decide +kernel
theorem d39_42 : decode method_4_code 42 = .ok (.ireturn, 1) := by decide +kernel
theorem d39_43 : decode method_4_code 43 = .ok (.iload_n 0, 1) := by decide +kernel
theorem d39_44 : decode method_4_code 44 = .ok (.iload_n 1, 1) := by decide +kernel
theorem d39_45 : decode method_4_code 45 = .ok (.isub, 1) := by decide +kernel
theorem d39_46 : decode method_4_code 46 = .ok (.iconst 2, 1) := by decide +kernel
theorem d39_47 : decode method_4_code 47 = .ok (.isub, 1) := by decide +kernel
theorem d39_48 : decode method_4_code 48 = .ok (.iload 4, 2) := by decide +kernel
theorem d39_50 : decode method_4_code 50 = .ok (.iload 5, 2) := by decide +kernel
theorem d39_52 : decode method_4_code 52 = .ok (.invokestatic 12, 3) := by decide +kernel
theorem d39_55 : decode method_4_code 55 = .ok (.ireturn, 1) := by decide +kernel
theorem own_ef39 (m : MethodId) (x0 : Int32) (x1 : Int32) (x2 : Int32) (x3 : Int32) (x4 : Int32) (x5 : Int32) : entryFrame m #[(.int x0), (.int x1), (.int x2), (.int x3), (.int x4), (.int x5)] 6 = mkF m 0 #[.val (.int x0), .val (.int x1), .val (.int x2), .val (.int x3), .val (.int x4), .val (.int x5)] [] := by first | (simp [entryFrame, mkF, argsToLocals, Value.category]; done) | rfl
set_option maxRecDepth 65536 in
set_option maxHeartbeats 40000000 in
theorem rmX (l : Launch) (Z : State) (a0 : Array Value) (hw : ∀ d ∈ tables_1, d.before a0 Z = true) (ws : List Jvm.Cond) (i : Int32) (pn : Int32) (p0 : Int32) (p1 : Int32) (m0 : Int32) (m1 : Int32)  (h0 : Heap) (n0 : Nat) (Z0 : n0 ≤ h0.size) (k_p0 : nar .char p0 = p0) (k_p1 : nar .char p1 = p1) (k_m0 : nar .char m0 = m0) (k_m1 : nar .char m1 = m1) :
    MetFree l (⟨"com/example/incomewright/incomewright/casefile/ProblemToStringPinLaw", "expChar", "(IICCCC)C"⟩ : MethodName) (head1 (Jvm.Cond.code (⟨"com/example/incomewright/incomewright/casefile/ProblemToStringPinLaw", "expChar", "(IICCCC)C"⟩ : MethodName) method_4_code 6 (some .char) :: ws) ({ frames := 1, cells := 0, slots := 0, locals := 15 } : Room)) (fun α U => α = #[(.int i), (.int pn), (.int p0), (.int p1), (.int m0), (.int m1)] ∧ Z.Warmed39 U.vm ∧ U.heap = h0) (fun _ _ _ _ _ => True) (fun _ U ω U' => ∃ ν Λ, ω = .returned ν ∧ QI (own_x i pn p0 p1 m0 m1) h0 n0 ν U'.heap Λ ∧ FrameEnd U ω U' Λ ({ frames := 1, cells := 0, slots := 0, locals := 15 } : Room).cells ({ frames := 1, cells := 0, slots := 0, locals := 15 } : Room).slots) := by
  refine MetFree.of_bodySF (plainFor_of_name own_pn_com_example_incomewright_incomewright_casefile_ProblemToStringPinLaw) hisR ?_
  intro p e s m args below meth c s₁ Bd hml0 hP hK
  obtain ⟨rfl, hZ, hh⟩ := hP
  have hx := Bd.exec
  have hby := Bd.bytes
  have hml : c.maxLocals = 6 := hml0
  have hown : s.vm.findClass "com/example/incomewright/incomewright/casefile/ProblemToStringPinLaw" = some m.cls := findClass_of_methodNamed Bd.named
  have hnm := (name_of_methodNamed Bd.named Bd.method).1
  have X0 : Stand p l e ({ frames := 1, cells := 0, slots := 0, locals := 15 } : Room) s m #[(.int i), (.int pn), (.int p0), (.int p1), (.int m0), (.int m1)] below meth c s₁ [] 0 0 := Stand.of_body Bd
  have e0 : s₁.heap = h0 := by rw [← hh, Bd.state]; rfl
  have N0 := Fr.nil n0
  have KK0 : Keep h0 h0 [] := Keep.refl h0 []
  obtain ⟨PS, hPS⟩ : ∃ P : State → Prop, P = fun τ => Steps p.tables e below (s₁.setTop (entryFrame m #[(.int i), (.int pn), (.int p0), (.int p1), (.int m0), (.int m1)] 6)) τ := ⟨_, rfl⟩
  have pre0 : ∀ τ, Steps p.tables e below (s₁.setTop (mkF m 0 #[.val (.int i), .val (.int pn), .val (.int p0), .val (.int p1), .val (.int m0), .val (.int m1)] [])) τ → PS τ := by rw [hPS]; exact fun τ κ => castTop (own_ef39 m i pn p0 p1 m0 m1) κ
  have pre498 := fun (τ : State) kt => pre0 τ (by
    show Steps p.tables e below (s₁.setTop (mkF m 0 #[.val (.int i), .val (.int pn), .val (.int p0), .val (.int p1), .val (.int m0), .val (.int m1)] [])) τ
    refine XS.iloadN X0.here hx rfl (Jvm.hb hby d39_0) rfl ?_
    exact kt)
  by_cases q0 : pn = (0 : Int32)
  · skip
    obtain ⟨_, T499, L499, X499, ⟨rfl, Nq499, eq499⟩, st499⟩ := own_stat (y := own_mn29) X0 hx hZ hown (own_W205 hw) (own_W206 hw) (by decide) (rmPk l Z a0 hw [] i m0 m1 h0 n0 (Nat.le_trans Z0 KK0.1) k_m0 k_m1) (own_W207 hw) (own_W2 hw) 0 (by decide) (by decide) e0 (mkF m 9 #[.val (.int i), .val (.int pn), .val (.int p0), .val (.int p1), .val (.int m0), .val (.int m1)] [(.int m1), (.int m0), (.int i)]) rfl (by rw [hml]; rfl) [(.int i), (.int m0), (.int m1)] [] rfl (lenOf own_pd__ICC_C rfl) rfl (Nat.le_refl _) (Jvm.hb hby d39_9) (by decide) (by decide)
    have N499 := Fr.app N0 Nq499
    have pre500 := fun (τ : State) kt => pre498 τ (by
      show Steps p.tables e below (s₁.setTop (mkF m 1 #[.val (.int i), .val (.int pn), .val (.int p0), .val (.int p1), .val (.int m0), .val (.int m1)] [(.int pn)])) τ
      refine XS.ifNo X0.here hx rfl (Jvm.hb hby d39_1) rfl ((if0 _ _).trans (teq q0).2) ?_
      refine XS.iloadN X0.here hx rfl (Jvm.hb hby d39_4) rfl ?_
      refine XS.iload X0.here hx rfl (Jvm.hb hby d39_5) rfl ?_
      refine XS.iload X0.here hx rfl (Jvm.hb hby d39_7) rfl ?_
      exact st499 τ kt)
    have hr : own_x i pn p0 p1 m0 m1 = (own_pk i m0 m1) := by unfold own_x; rw [if_pos q0]; rfl
    obtain ⟨fs, hrL, hrun, hended, hW, hsame⟩ := X499.leave (v := some (.int (nar .char (own_pk i m0 m1)))) (fun h => by rw [Bd.returns] at h; cases h)
    refine ⟨_, _, cast (congrFun hPS _) (pre500 _ ?_), hrun, hended, _, _, rfl, ?_, ⟨_, rfl⟩, hW, hsame.mono (by decide) (by decide)⟩
    · show Steps p.tables e below (T499.setTop (mkF m 12 #[.val (.int i), .val (.int pn), .val (.int p0), .val (.int p1), .val (.int m0), .val (.int m1)] [(.int (own_pk i m0 m1))])) _
      exact retN X499 hx (t := .char) Bd.returns (by simp) (Jvm.hb hby d39_12) hrL
    · show QI (own_x i pn p0 p1 m0 m1) h0 n0 _ T499.heap _
      rw [eq499]
      exact ⟨congrArg (fun z => some (Value.int z)) ((own_nar_pk k_m0 k_m1).trans hr.symm), N499, rfl⟩
  · skip
    have pre501 := fun (τ : State) kt => pre498 τ (by
      show Steps p.tables e below (s₁.setTop (mkF m 1 #[.val (.int i), .val (.int pn), .val (.int p0), .val (.int p1), .val (.int m0), .val (.int m1)] [(.int pn)])) τ
      refine XS.ifYes X0.here hx rfl (pc0 := 1) (pc' := 13) rfl (Jvm.hb hby d39_1) rfl ((if0 _ _).trans (feq q0).2) (by decide) (by decide) ?_
      refine XS.iloadN X0.here hx rfl (Jvm.hb hby d39_13) rfl ?_
      refine XS.iloadN X0.here hx rfl (Jvm.hb hby d39_14) rfl ?_
      exact kt)
    by_cases q1 : i < pn
    · skip
      obtain ⟨_, T502, L502, X502, ⟨rfl, Nq502, eq502⟩, st502⟩ := own_stat (y := own_mn29) X0 hx hZ hown (own_W205 hw) (own_W206 hw) (by decide) (rmPk l Z a0 hw [] i p0 p1 h0 n0 (Nat.le_trans Z0 KK0.1) k_p0 k_p1) (own_W207 hw) (own_W2 hw) 0 (by decide) (by decide) e0 (mkF m 21 #[.val (.int i), .val (.int pn), .val (.int p0), .val (.int p1), .val (.int m0), .val (.int m1)] [(.int p1), (.int p0), (.int i)]) rfl (by rw [hml]; rfl) [(.int i), (.int p0), (.int p1)] [] rfl (lenOf own_pd__ICC_C rfl) rfl (Nat.le_refl _) (Jvm.hb hby d39_21) (by decide) (by decide)
      have N502 := Fr.app N0 Nq502
      have pre503 := fun (τ : State) kt => pre501 τ (by
        show Steps p.tables e below (s₁.setTop (mkF m 15 #[.val (.int i), .val (.int pn), .val (.int p0), .val (.int p1), .val (.int m0), .val (.int m1)] [(.int pn), (.int i)])) τ
        refine XS.icmpNo X0.here hx rfl (Jvm.hb hby d39_15) rfl (tlt q1).2.1 ?_
        refine XS.iloadN X0.here hx rfl (Jvm.hb hby d39_18) rfl ?_
        refine XS.iloadN X0.here hx rfl (Jvm.hb hby d39_19) rfl ?_
        refine XS.iloadN X0.here hx rfl (Jvm.hb hby d39_20) rfl ?_
        exact st502 τ kt)
      have hr : own_x i pn p0 p1 m0 m1 = (own_pk i p0 p1) := by unfold own_x; rw [if_neg q0, if_pos q1]; rfl
      obtain ⟨fs, hrL, hrun, hended, hW, hsame⟩ := X502.leave (v := some (.int (nar .char (own_pk i p0 p1)))) (fun h => by rw [Bd.returns] at h; cases h)
      refine ⟨_, _, cast (congrFun hPS _) (pre503 _ ?_), hrun, hended, _, _, rfl, ?_, ⟨_, rfl⟩, hW, hsame.mono (by decide) (by decide)⟩
      · show Steps p.tables e below (T502.setTop (mkF m 24 #[.val (.int i), .val (.int pn), .val (.int p0), .val (.int p1), .val (.int m0), .val (.int m1)] [(.int (own_pk i p0 p1))])) _
        exact retN X502 hx (t := .char) Bd.returns (by simp) (Jvm.hb hby d39_24) hrL
      · show QI (own_x i pn p0 p1 m0 m1) h0 n0 _ T502.heap _
        rw [eq502]
        exact ⟨congrArg (fun z => some (Value.int z)) ((own_nar_pk k_p0 k_p1).trans hr.symm), N502, rfl⟩
    · skip
      have pre504 := fun (τ : State) kt => pre501 τ (by
        show Steps p.tables e below (s₁.setTop (mkF m 15 #[.val (.int i), .val (.int pn), .val (.int p0), .val (.int p1), .val (.int m0), .val (.int m1)] [(.int pn), (.int i)])) τ
        refine XS.icmpYes X0.here hx rfl (pc0 := 15) (pc' := 25) rfl (Jvm.hb hby d39_15) rfl (flt q1).2.1 (by decide) (by decide) ?_
        refine XS.iloadN X0.here hx rfl (Jvm.hb hby d39_25) rfl ?_
        refine XS.iloadN X0.here hx rfl (Jvm.hb hby d39_26) rfl ?_
        exact kt)
      by_cases q2 : i = pn
      · skip
        have hr : own_x i pn p0 p1 m0 m1 = (58 : Int32) := by unfold own_x; rw [if_neg q0, if_neg q1, if_pos q2]
        have pre505 := fun (τ : State) kt => pre504 τ (by
          show Steps p.tables e below (s₁.setTop (mkF m 27 #[.val (.int i), .val (.int pn), .val (.int p0), .val (.int p1), .val (.int m0), .val (.int m1)] [(.int pn), (.int i)])) τ
          refine XS.icmpNo X0.here hx rfl (Jvm.hb hby d39_27) rfl (teq q2).2 ?_
          refine XS.bipush X0.here hx rfl (Jvm.hb hby d39_30) ?_
          exact kt)
        obtain ⟨fs, hrL, hrun, hended, hW, hsame⟩ := X0.leave (v := some (.int (58 : Int32))) (fun h => by rw [Bd.returns] at h; cases h)
        refine ⟨_, _, cast (congrFun hPS _) (pre505 _ ?_), hrun, hended, _, _, rfl, ?_, ⟨_, rfl⟩, hW, hsame.mono (by decide) (by decide)⟩
        · show Steps p.tables e below (s₁.setTop (mkF m 32 #[.val (.int i), .val (.int pn), .val (.int p0), .val (.int p1), .val (.int m0), .val (.int m1)] [(.int (58 : Int32))])) _
          exact retN X0 hx (t := .char) Bd.returns (by simp) (Jvm.hb hby d39_32) hrL
        · show QI (own_x i pn p0 p1 m0 m1) h0 n0 _ s₁.heap _
          rw [e0]
          exact ⟨congrArg (fun z => some (Value.int z)) (hr.symm), N0, rfl⟩
      · skip
        have pre506 := fun (τ : State) kt => pre504 τ (by
          show Steps p.tables e below (s₁.setTop (mkF m 27 #[.val (.int i), .val (.int pn), .val (.int p0), .val (.int p1), .val (.int m0), .val (.int m1)] [(.int pn), (.int i)])) τ
          refine XS.icmpYes X0.here hx rfl (pc0 := 27) (pc' := 33) rfl (Jvm.hb hby d39_27) rfl (feq q2).2 (by decide) (by decide) ?_
          refine XS.iloadN X0.here hx rfl (Jvm.hb hby d39_33) rfl ?_
          refine XS.iloadN X0.here hx rfl (Jvm.hb hby d39_34) rfl ?_
          refine XS.iconst X0.here hx rfl (Jvm.hb hby d39_35) ?_
          refine XS.iadd X0.here hx rfl (Jvm.hb hby d39_36) rfl ?_
          exact kt)
        by_cases q3 : i = (pn + (1 : Int32))
        · skip
          have hr : own_x i pn p0 p1 m0 m1 = (32 : Int32) := by unfold own_x; rw [if_neg q0, if_neg q1, if_neg q2, if_pos q3]
          have pre507 := fun (τ : State) kt => pre506 τ (by
            show Steps p.tables e below (s₁.setTop (mkF m 37 #[.val (.int i), .val (.int pn), .val (.int p0), .val (.int p1), .val (.int m0), .val (.int m1)] [(.int (pn + (1 : Int32))), (.int i)])) τ
            refine XS.icmpNo X0.here hx rfl (Jvm.hb hby d39_37) rfl (teq q3).2 ?_
            refine XS.bipush X0.here hx rfl (Jvm.hb hby d39_40) ?_
            exact kt)
          obtain ⟨fs, hrL, hrun, hended, hW, hsame⟩ := X0.leave (v := some (.int (32 : Int32))) (fun h => by rw [Bd.returns] at h; cases h)
          refine ⟨_, _, cast (congrFun hPS _) (pre507 _ ?_), hrun, hended, _, _, rfl, ?_, ⟨_, rfl⟩, hW, hsame.mono (by decide) (by decide)⟩
          · show Steps p.tables e below (s₁.setTop (mkF m 42 #[.val (.int i), .val (.int pn), .val (.int p0), .val (.int p1), .val (.int m0), .val (.int m1)] [(.int (32 : Int32))])) _
            exact retN X0 hx (t := .char) Bd.returns (by simp) (Jvm.hb hby d39_42) hrL
          · show QI (own_x i pn p0 p1 m0 m1) h0 n0 _ s₁.heap _
            rw [e0]
            exact ⟨congrArg (fun z => some (Value.int z)) (hr.symm), N0, rfl⟩
        · skip
          obtain ⟨_, T508, L508, X508, ⟨rfl, Nq508, eq508⟩, st508⟩ := own_stat (y := own_mn29) X0 hx hZ hown (own_W205 hw) (own_W206 hw) (by decide) (rmPk l Z a0 hw [] ((i - pn) - (2 : Int32)) m0 m1 h0 n0 (Nat.le_trans Z0 KK0.1) k_m0 k_m1) (own_W207 hw) (own_W2 hw) 0 (by decide) (by decide) e0 (mkF m 52 #[.val (.int i), .val (.int pn), .val (.int p0), .val (.int p1), .val (.int m0), .val (.int m1)] [(.int m1), (.int m0), (.int ((i - pn) - (2 : Int32)))]) rfl (by rw [hml]; rfl) [(.int ((i - pn) - (2 : Int32))), (.int m0), (.int m1)] [] rfl (lenOf own_pd__ICC_C rfl) rfl (Nat.le_refl _) (Jvm.hb hby d39_52) (by decide) (by decide)
          have N508 := Fr.app N0 Nq508
          have pre509 := fun (τ : State) kt => pre506 τ (by
            show Steps p.tables e below (s₁.setTop (mkF m 37 #[.val (.int i), .val (.int pn), .val (.int p0), .val (.int p1), .val (.int m0), .val (.int m1)] [(.int (pn + (1 : Int32))), (.int i)])) τ
            refine XS.icmpYes X0.here hx rfl (pc0 := 37) (pc' := 43) rfl (Jvm.hb hby d39_37) rfl (feq q3).2 (by decide) (by decide) ?_
            refine XS.iloadN X0.here hx rfl (Jvm.hb hby d39_43) rfl ?_
            refine XS.iloadN X0.here hx rfl (Jvm.hb hby d39_44) rfl ?_
            refine XS.isub X0.here hx rfl (Jvm.hb hby d39_45) rfl ?_
            refine XS.iconst X0.here hx rfl (Jvm.hb hby d39_46) ?_
            refine XS.isub X0.here hx rfl (Jvm.hb hby d39_47) rfl ?_
            refine XS.iload X0.here hx rfl (Jvm.hb hby d39_48) rfl ?_
            refine XS.iload X0.here hx rfl (Jvm.hb hby d39_50) rfl ?_
            exact st508 τ kt)
          have hr : own_x i pn p0 p1 m0 m1 = (own_pk ((i - pn) - (2 : Int32)) m0 m1) := by unfold own_x; rw [if_neg q0, if_neg q1, if_neg q2, if_neg q3]; rfl
          obtain ⟨fs, hrL, hrun, hended, hW, hsame⟩ := X508.leave (v := some (.int (nar .char (own_pk ((i - pn) - (2 : Int32)) m0 m1)))) (fun h => by rw [Bd.returns] at h; cases h)
          refine ⟨_, _, cast (congrFun hPS _) (pre509 _ ?_), hrun, hended, _, _, rfl, ?_, ⟨_, rfl⟩, hW, hsame.mono (by decide) (by decide)⟩
          · show Steps p.tables e below (T508.setTop (mkF m 55 #[.val (.int i), .val (.int pn), .val (.int p0), .val (.int p1), .val (.int m0), .val (.int m1)] [(.int (own_pk ((i - pn) - (2 : Int32)) m0 m1))])) _
            exact retN X508 hx (t := .char) Bd.returns (by simp) (Jvm.hb hby d39_55) hrL
          · show QI (own_x i pn p0 p1 m0 m1) h0 n0 _ T508.heap _
            rw [eq508]
            exact ⟨congrArg (fun z => some (Value.int z)) ((own_nar_pk k_m0 k_m1).trans hr.symm), N508, rfl⟩
theorem d33_0 : decode method_5_code 0 = .ok (.iload_n 1, 1) := by decide +kernel
theorem d33_1 : decode method_5_code 1 = .ok (.iload_n 2, 1) := by decide +kernel
theorem d33_2 : decode method_5_code 2 = .ok (.if_icmp .lt 5, 3) := by decide +kernel
theorem d33_5 : decode method_5_code 5 = .ok (.iconst 1, 1) := by decide +kernel
theorem d33_6 : decode method_5_code 6 = .ok (.ireturn, 1) := by decide +kernel
theorem d33_7 : decode method_5_code 7 = .ok (.aload_n 0, 1) := by decide +kernel
theorem d33_8 : decode method_5_code 8 = .ok (.iload_n 1, 1) := by decide +kernel
theorem d33_9 : decode method_5_code 9 = .ok (.invokevirtual 18, 3) := by decide +kernel
theorem d33_12 : decode method_5_code 12 = .ok (.iload_n 1, 1) := by decide +kernel
theorem d33_13 : decode method_5_code 13 = .ok (.iload_n 3, 1) := by decide +kernel
theorem d33_14 : decode method_5_code 14 = .ok (.iload 4, 2) := by decide +kernel
theorem d33_16 : decode method_5_code 16 = .ok (.iload 5, 2) := by decide +kernel
theorem d33_18 : decode method_5_code 18 = .ok (.iload 6, 2) := by decide +kernel
theorem d33_20 : decode method_5_code 20 = .ok (.iload 7, 2) := by decide +kernel
theorem d33_22 : decode method_5_code 22 = .ok (.invokestatic 22, 3) := by decide +kernel
theorem d33_25 : decode method_5_code 25 = .ok (.if_icmp .ne 7, 3) := by decide +kernel
theorem d33_28 : decode method_5_code 28 = .ok (.iconst 1, 1) := by decide +kernel
theorem d33_29 : decode method_5_code 29 = .ok (.goto 4, 3) := by decide +kernel
theorem d33_32 : decode method_5_code 32 = .ok (.iconst 0, 1) := by decide +kernel
theorem d33_33 : decode method_5_code 33 = .ok (.ireturn, 1) := by decide +kernel
theorem own_ef33 (m : MethodId) (x0 : Addr) (x1 : Int32) (x2 : Int32) (x3 : Int32) (x4 : Int32) (x5 : Int32) (x6 : Int32) (x7 : Int32) : entryFrame m #[(.ref x0), (.int x1), (.int x2), (.int x3), (.int x4), (.int x5), (.int x6), (.int x7)] 8 = mkF m 0 #[.val (.ref x0), .val (.int x1), .val (.int x2), .val (.int x3), .val (.int x4), .val (.int x5), .val (.int x6), .val (.int x7)] [] := by first | (simp [entryFrame, mkF, argsToLocals, Value.category]; done) | rfl
set_option maxRecDepth 65536 in
set_option maxHeartbeats 40000000 in
theorem rmAt0 (l : Launch) (Z : State) (a0 : Array Value) (hw : ∀ d ∈ tables_1, d.before a0 Z = true) (ws : List Jvm.Cond) (a : Addr) (ci : Int32) (ex : Int32) (pn : Int32) (p0 : Int32) (p1 : Int32) (m0 : Int32) (m1 : Int32) (cz : Int32) (vb : Addr) (kb : ClassId) (vf : Value) (h0 : Heap) (n0 : Nat) (Z0 : n0 ≤ h0.size) (hci : ci = (0 : Int32)) (E7 : Exa Z h0 a "java/lang/String") (F1 : Fld Z h0 a "java/lang/String" "value" "[B" (.ref vb)) (F2 : Fld Z h0 a "java/lang/String" "coder" "B" (.int (0 : Int32))) (VB : Arv Z h0 vb kb .byte ex (own_xs pn (own_b p0) (own_b p1) (own_b m0) (own_b m1)) (.int (0 : Int32))) (k0 : own_c8 p0) (k1 : own_c8 p1) (k2 : own_c8 m0) (k3 : own_c8 m1) (O3 : Sta Z Z.heap "jdk/internal/util/Preconditions" "SIOOBE_FORMATTER" "Ljava/util/function/BiFunction;" vf) (q_vf : vf = .null ∨ ∃ b, vf = .ref b) (O2 : Sta Z Z.heap "java/lang/String" "COMPACT_STRINGS" "Z" (.int cz)) (P5 : ¬ cz = 0) (OLD0 : Old Z n0 h0) :
    MetFree l (⟨"com/example/incomewright/incomewright/casefile/ProblemToStringPinLaw", "at", "(Ljava/lang/String;IIICCCC)Z"⟩ : MethodName) (head1 (Jvm.Cond.code (⟨"com/example/incomewright/incomewright/casefile/ProblemToStringPinLaw", "at", "(Ljava/lang/String;IIICCCC)Z"⟩ : MethodName) method_5_code 8 (some .boolean) :: ws) ({ frames := 4, cells := 0, slots := 0, locals := 60 } : Room)) (fun α U => α = #[(.ref a), (.int ci), (.int ex), (.int pn), (.int p0), (.int p1), (.int m0), (.int m1)] ∧ Z.Warmed39 U.vm ∧ U.heap = h0) (fun _ _ _ _ _ => True) (fun _ U ω U' => ∃ ν Λ, ω = .returned ν ∧ QI 1 h0 n0 ν U'.heap Λ ∧ FrameEnd U ω U' Λ ({ frames := 4, cells := 0, slots := 0, locals := 60 } : Room).cells ({ frames := 4, cells := 0, slots := 0, locals := 60 } : Room).slots) := by
  refine MetFree.of_bodySF (plainFor_of_name own_pn_com_example_incomewright_incomewright_casefile_ProblemToStringPinLaw) hisR ?_
  intro p e s m args below meth c s₁ Bd hml0 hP hK
  obtain ⟨rfl, hZ, hh⟩ := hP
  have hx := Bd.exec
  have hby := Bd.bytes
  have hml : c.maxLocals = 8 := hml0
  have hown : s.vm.findClass "com/example/incomewright/incomewright/casefile/ProblemToStringPinLaw" = some m.cls := findClass_of_methodNamed Bd.named
  have hnm := (name_of_methodNamed Bd.named Bd.method).1
  have X0 : Stand p l e ({ frames := 4, cells := 0, slots := 0, locals := 60 } : Room) s m #[(.ref a), (.int ci), (.int ex), (.int pn), (.int p0), (.int p1), (.int m0), (.int m1)] below meth c s₁ [] 0 0 := Stand.of_body Bd
  have e0 : s₁.heap = h0 := by rw [← hh, Bd.state]; rfl
  have N0 := Fr.nil n0
  have KK0 : Keep h0 h0 [] := Keep.refl h0 []
  obtain ⟨PS, hPS⟩ : ∃ P : State → Prop, P = fun τ => Steps p.tables e below (s₁.setTop (entryFrame m #[(.ref a), (.int ci), (.int ex), (.int pn), (.int p0), (.int p1), (.int m0), (.int m1)] 8)) τ := ⟨_, rfl⟩
  have pre0 : ∀ τ, Steps p.tables e below (s₁.setTop (mkF m 0 #[.val (.ref a), .val (.int ci), .val (.int ex), .val (.int pn), .val (.int p0), .val (.int p1), .val (.int m0), .val (.int m1)] [])) τ → PS τ := by rw [hPS]; exact fun τ κ => castTop (own_ef33 m a ci ex pn p0 p1 m0 m1) κ
  have pre510 : ∀ τ, Steps p.tables e below (s₁.setTop (mkF m 0 #[.val (.ref a), .val (.int (0 : Int32)), .val (.int ex), .val (.int pn), .val (.int p0), .val (.int p1), .val (.int m0), .val (.int m1)] [])) τ → PS τ := by have hq := pre0; rw [hci] at hq; exact hq
  have pre511 := fun (τ : State) kt => pre510 τ (by
    show Steps p.tables e below (s₁.setTop (mkF m 0 #[.val (.ref a), .val (.int (0 : Int32)), .val (.int ex), .val (.int pn), .val (.int p0), .val (.int p1), .val (.int m0), .val (.int m1)] [])) τ
    refine XS.iloadN X0.here hx rfl (Jvm.hb hby d33_0) rfl ?_
    refine XS.iloadN X0.here hx rfl (Jvm.hb hby d33_1) rfl ?_
    exact kt)
  by_cases q : (0 : Int32) < ex
  · skip
    obtain ⟨_, T512, L512, X512, ⟨rfl, Nq512, eq512⟩, st512⟩ := own_virt (y := own_mn30) (b := a) X0 hx hZ hown (own_W180 hw) (own_W181 hw) (own_W183 hw) (own_W182 hw) (by decide) (rmCA0 l Z a0 hw [] a (0 : Int32) cz vb vf kb ex (own_x (0 : Int32) pn (own_b p0) (own_b p1) (own_b m0) (own_b m1)) (own_x (1 : Int32) pn (own_b p0) (own_b p1) (own_b m0) (own_b m1)) (own_x (2 : Int32) pn (own_b p0) (own_b p1) (own_b m0) (own_b m1)) (own_x (3 : Int32) pn (own_b p0) (own_b p1) (own_b m0) (own_b m1)) (own_x (4 : Int32) pn (own_b p0) (own_b p1) (own_b m0) (own_b m1)) (own_x (5 : Int32) pn (own_b p0) (own_b p1) (own_b m0) (own_b m1)) h0 n0 (Nat.le_trans Z0 KK0.1) rfl E7 F1 F2 VB q O3 q_vf O2 P5 OLD0) (own_W184 hw) (own_W6 hw) 0 (by decide) (by decide) E7 e0 (mkF m 9 #[.val (.ref a), .val (.int (0 : Int32)), .val (.int ex), .val (.int pn), .val (.int p0), .val (.int p1), .val (.int m0), .val (.int m1)] [(.int (0 : Int32)), (.ref a)]) rfl (by rw [hml]; rfl) [(.int (0 : Int32))] [] rfl (lenOf own_pd__I_C rfl) rfl (Nat.le_refl _) (Jvm.hb hby d33_9) (by decide) (by decide)
    have N512 := Fr.app N0 Nq512
    have pre513 := fun (τ : State) kt => pre511 τ (by
      show Steps p.tables e below (s₁.setTop (mkF m 2 #[.val (.ref a), .val (.int (0 : Int32)), .val (.int ex), .val (.int pn), .val (.int p0), .val (.int p1), .val (.int m0), .val (.int m1)] [(.int ex), (.int (0 : Int32))])) τ
      refine XS.icmpYes X0.here hx rfl (pc0 := 2) (pc' := 7) rfl (Jvm.hb hby d33_2) rfl (tlt q).1 (by decide) (by decide) ?_
      refine XS.aloadN X0.here hx rfl (Jvm.hb hby d33_7) rfl rfl ?_
      refine XS.iloadN X0.here hx rfl (Jvm.hb hby d33_8) rfl ?_
      exact st512 τ kt)
    have pre514 : ∀ τ, Steps p.tables e below (T512.setTop (mkF m 12 #[.val (.ref a), .val (.int (0 : Int32)), .val (.int ex), .val (.int pn), .val (.int p0), .val (.int p1), .val (.int m0), .val (.int m1)] [(.int (own_x (0 : Int32) pn p0 p1 m0 m1))])) τ → PS τ := by have hq := pre513; rw [own_ch_x k0 k1 k2 k3] at hq; exact hq
    obtain ⟨_, T515, L515, X515, ⟨rfl, Nq515, eq515⟩, st515⟩ := own_stat (y := own_mn31) X512 hx hZ hown (own_W202 hw) (own_W203 hw) (by decide) (rmX l Z a0 hw [] (0 : Int32) pn p0 p1 m0 m1 h0 n0 (Nat.le_trans Z0 KK0.1) (own_c8_nar k0).1 (own_c8_nar k1).1 (own_c8_nar k2).1 (own_c8_nar k3).1) (own_W204 hw) (own_W2 hw) 1 (by decide) (by decide) eq512 (mkF m 22 #[.val (.ref a), .val (.int (0 : Int32)), .val (.int ex), .val (.int pn), .val (.int p0), .val (.int p1), .val (.int m0), .val (.int m1)] [(.int m1), (.int m0), (.int p1), (.int p0), (.int pn), (.int (0 : Int32)), (.int (own_x (0 : Int32) pn p0 p1 m0 m1))]) rfl (by rw [hml]; rfl) [(.int (0 : Int32)), (.int pn), (.int p0), (.int p1), (.int m0), (.int m1)] [(.int (own_x (0 : Int32) pn p0 p1 m0 m1))] rfl (lenOf own_pd__IICCCC_C rfl) rfl (Nat.le_refl _) (Jvm.hb hby d33_22) (by decide) (by decide)
    have N515 := Fr.app N512 Nq515
    have pre516 := fun (τ : State) kt => pre514 τ (by
      show Steps p.tables e below (T512.setTop (mkF m 12 #[.val (.ref a), .val (.int (0 : Int32)), .val (.int ex), .val (.int pn), .val (.int p0), .val (.int p1), .val (.int m0), .val (.int m1)] [(.int (own_x (0 : Int32) pn p0 p1 m0 m1))])) τ
      refine XS.iloadN X512.here hx rfl (Jvm.hb hby d33_12) rfl ?_
      refine XS.iloadN X512.here hx rfl (Jvm.hb hby d33_13) rfl ?_
      refine XS.iload X512.here hx rfl (Jvm.hb hby d33_14) rfl ?_
      refine XS.iload X512.here hx rfl (Jvm.hb hby d33_16) rfl ?_
      refine XS.iload X512.here hx rfl (Jvm.hb hby d33_18) rfl ?_
      refine XS.iload X512.here hx rfl (Jvm.hb hby d33_20) rfl ?_
      exact st515 τ kt)
    have pre517 := fun (τ : State) kt => pre516 τ (by
      show Steps p.tables e below (T515.setTop (mkF m 25 #[.val (.ref a), .val (.int (0 : Int32)), .val (.int ex), .val (.int pn), .val (.int p0), .val (.int p1), .val (.int m0), .val (.int m1)] [(.int (own_x (0 : Int32) pn p0 p1 m0 m1)), (.int (own_x (0 : Int32) pn p0 p1 m0 m1))])) τ
      refine XS.icmpNo X515.here hx rfl (Jvm.hb hby d33_25) rfl (teq rfl).2 ?_
      refine XS.iconst X515.here hx rfl (Jvm.hb hby d33_28) ?_
      refine XS.goto X515.here hx rfl (pc0 := 29) (pc' := 33) rfl (Jvm.hb hby d33_29) (by decide) (by decide) ?_
      exact kt)
    obtain ⟨fs, hrL, hrun, hended, hW, hsame⟩ := X515.leave (v := some (.int (1 : Int32))) (fun h => by rw [Bd.returns] at h; cases h)
    refine ⟨_, _, cast (congrFun hPS _) (pre517 _ ?_), hrun, hended, _, _, rfl, ?_, ⟨_, rfl⟩, hW, hsame.mono (by decide) (by decide)⟩
    · show Steps p.tables e below (T515.setTop (mkF m 33 #[.val (.ref a), .val (.int (0 : Int32)), .val (.int ex), .val (.int pn), .val (.int p0), .val (.int p1), .val (.int m0), .val (.int m1)] [(.int (1 : Int32))])) _
      exact retN X515 hx (t := .boolean) Bd.returns (by simp) (Jvm.hb hby d33_33) hrL
    · show QI 1 h0 n0 _ T515.heap _
      rw [eq515]
      exact ⟨rfl, N515, rfl⟩
  · skip
    have pre518 := fun (τ : State) kt => pre511 τ (by
      show Steps p.tables e below (s₁.setTop (mkF m 2 #[.val (.ref a), .val (.int (0 : Int32)), .val (.int ex), .val (.int pn), .val (.int p0), .val (.int p1), .val (.int m0), .val (.int m1)] [(.int ex), (.int (0 : Int32))])) τ
      refine XS.icmpNo X0.here hx rfl (Jvm.hb hby d33_2) rfl (flt q).1 ?_
      refine XS.iconst X0.here hx rfl (Jvm.hb hby d33_5) ?_
      exact kt)
    obtain ⟨fs, hrL, hrun, hended, hW, hsame⟩ := X0.leave (v := some (.int (1 : Int32))) (fun h => by rw [Bd.returns] at h; cases h)
    refine ⟨_, _, cast (congrFun hPS _) (pre518 _ ?_), hrun, hended, _, _, rfl, ?_, ⟨_, rfl⟩, hW, hsame.mono (by decide) (by decide)⟩
    · show Steps p.tables e below (s₁.setTop (mkF m 6 #[.val (.ref a), .val (.int (0 : Int32)), .val (.int ex), .val (.int pn), .val (.int p0), .val (.int p1), .val (.int m0), .val (.int m1)] [(.int (1 : Int32))])) _
      exact retN X0 hx (t := .boolean) Bd.returns (by simp) (Jvm.hb hby d33_6) hrL
    · show QI 1 h0 n0 _ s₁.heap _
      rw [e0]
      exact ⟨rfl, N0, rfl⟩
set_option maxRecDepth 65536 in
set_option maxHeartbeats 40000000 in
theorem rmAt1 (l : Launch) (Z : State) (a0 : Array Value) (hw : ∀ d ∈ tables_1, d.before a0 Z = true) (ws : List Jvm.Cond) (a : Addr) (ci : Int32) (ex : Int32) (pn : Int32) (p0 : Int32) (p1 : Int32) (m0 : Int32) (m1 : Int32) (cz : Int32) (vb : Addr) (kb : ClassId) (vf : Value) (h0 : Heap) (n0 : Nat) (Z0 : n0 ≤ h0.size) (hci : ci = (1 : Int32)) (E7 : Exa Z h0 a "java/lang/String") (F1 : Fld Z h0 a "java/lang/String" "value" "[B" (.ref vb)) (F2 : Fld Z h0 a "java/lang/String" "coder" "B" (.int (0 : Int32))) (VB : Arv Z h0 vb kb .byte ex (own_xs pn (own_b p0) (own_b p1) (own_b m0) (own_b m1)) (.int (0 : Int32))) (k0 : own_c8 p0) (k1 : own_c8 p1) (k2 : own_c8 m0) (k3 : own_c8 m1) (O3 : Sta Z Z.heap "jdk/internal/util/Preconditions" "SIOOBE_FORMATTER" "Ljava/util/function/BiFunction;" vf) (q_vf : vf = .null ∨ ∃ b, vf = .ref b) (O2 : Sta Z Z.heap "java/lang/String" "COMPACT_STRINGS" "Z" (.int cz)) (P5 : ¬ cz = 0) (OLD0 : Old Z n0 h0) :
    MetFree l (⟨"com/example/incomewright/incomewright/casefile/ProblemToStringPinLaw", "at", "(Ljava/lang/String;IIICCCC)Z"⟩ : MethodName) (head1 (Jvm.Cond.code (⟨"com/example/incomewright/incomewright/casefile/ProblemToStringPinLaw", "at", "(Ljava/lang/String;IIICCCC)Z"⟩ : MethodName) method_5_code 8 (some .boolean) :: ws) ({ frames := 4, cells := 0, slots := 0, locals := 60 } : Room)) (fun α U => α = #[(.ref a), (.int ci), (.int ex), (.int pn), (.int p0), (.int p1), (.int m0), (.int m1)] ∧ Z.Warmed39 U.vm ∧ U.heap = h0) (fun _ _ _ _ _ => True) (fun _ U ω U' => ∃ ν Λ, ω = .returned ν ∧ QI 1 h0 n0 ν U'.heap Λ ∧ FrameEnd U ω U' Λ ({ frames := 4, cells := 0, slots := 0, locals := 60 } : Room).cells ({ frames := 4, cells := 0, slots := 0, locals := 60 } : Room).slots) := by
  refine MetFree.of_bodySF (plainFor_of_name own_pn_com_example_incomewright_incomewright_casefile_ProblemToStringPinLaw) hisR ?_
  intro p e s m args below meth c s₁ Bd hml0 hP hK
  obtain ⟨rfl, hZ, hh⟩ := hP
  have hx := Bd.exec
  have hby := Bd.bytes
  have hml : c.maxLocals = 8 := hml0
  have hown : s.vm.findClass "com/example/incomewright/incomewright/casefile/ProblemToStringPinLaw" = some m.cls := findClass_of_methodNamed Bd.named
  have hnm := (name_of_methodNamed Bd.named Bd.method).1
  have X0 : Stand p l e ({ frames := 4, cells := 0, slots := 0, locals := 60 } : Room) s m #[(.ref a), (.int ci), (.int ex), (.int pn), (.int p0), (.int p1), (.int m0), (.int m1)] below meth c s₁ [] 0 0 := Stand.of_body Bd
  have e0 : s₁.heap = h0 := by rw [← hh, Bd.state]; rfl
  have N0 := Fr.nil n0
  have KK0 : Keep h0 h0 [] := Keep.refl h0 []
  obtain ⟨PS, hPS⟩ : ∃ P : State → Prop, P = fun τ => Steps p.tables e below (s₁.setTop (entryFrame m #[(.ref a), (.int ci), (.int ex), (.int pn), (.int p0), (.int p1), (.int m0), (.int m1)] 8)) τ := ⟨_, rfl⟩
  have pre0 : ∀ τ, Steps p.tables e below (s₁.setTop (mkF m 0 #[.val (.ref a), .val (.int ci), .val (.int ex), .val (.int pn), .val (.int p0), .val (.int p1), .val (.int m0), .val (.int m1)] [])) τ → PS τ := by rw [hPS]; exact fun τ κ => castTop (own_ef33 m a ci ex pn p0 p1 m0 m1) κ
  have pre519 : ∀ τ, Steps p.tables e below (s₁.setTop (mkF m 0 #[.val (.ref a), .val (.int (1 : Int32)), .val (.int ex), .val (.int pn), .val (.int p0), .val (.int p1), .val (.int m0), .val (.int m1)] [])) τ → PS τ := by have hq := pre0; rw [hci] at hq; exact hq
  have pre520 := fun (τ : State) kt => pre519 τ (by
    show Steps p.tables e below (s₁.setTop (mkF m 0 #[.val (.ref a), .val (.int (1 : Int32)), .val (.int ex), .val (.int pn), .val (.int p0), .val (.int p1), .val (.int m0), .val (.int m1)] [])) τ
    refine XS.iloadN X0.here hx rfl (Jvm.hb hby d33_0) rfl ?_
    refine XS.iloadN X0.here hx rfl (Jvm.hb hby d33_1) rfl ?_
    exact kt)
  by_cases q : (1 : Int32) < ex
  · skip
    obtain ⟨_, T521, L521, X521, ⟨rfl, Nq521, eq521⟩, st521⟩ := own_virt (y := own_mn30) (b := a) X0 hx hZ hown (own_W180 hw) (own_W181 hw) (own_W183 hw) (own_W182 hw) (by decide) (rmCA1 l Z a0 hw [] a (1 : Int32) cz vb vf kb ex (own_x (0 : Int32) pn (own_b p0) (own_b p1) (own_b m0) (own_b m1)) (own_x (1 : Int32) pn (own_b p0) (own_b p1) (own_b m0) (own_b m1)) (own_x (2 : Int32) pn (own_b p0) (own_b p1) (own_b m0) (own_b m1)) (own_x (3 : Int32) pn (own_b p0) (own_b p1) (own_b m0) (own_b m1)) (own_x (4 : Int32) pn (own_b p0) (own_b p1) (own_b m0) (own_b m1)) (own_x (5 : Int32) pn (own_b p0) (own_b p1) (own_b m0) (own_b m1)) h0 n0 (Nat.le_trans Z0 KK0.1) rfl E7 F1 F2 VB q O3 q_vf O2 P5 OLD0) (own_W184 hw) (own_W6 hw) 0 (by decide) (by decide) E7 e0 (mkF m 9 #[.val (.ref a), .val (.int (1 : Int32)), .val (.int ex), .val (.int pn), .val (.int p0), .val (.int p1), .val (.int m0), .val (.int m1)] [(.int (1 : Int32)), (.ref a)]) rfl (by rw [hml]; rfl) [(.int (1 : Int32))] [] rfl (lenOf own_pd__I_C rfl) rfl (Nat.le_refl _) (Jvm.hb hby d33_9) (by decide) (by decide)
    have N521 := Fr.app N0 Nq521
    have pre522 := fun (τ : State) kt => pre520 τ (by
      show Steps p.tables e below (s₁.setTop (mkF m 2 #[.val (.ref a), .val (.int (1 : Int32)), .val (.int ex), .val (.int pn), .val (.int p0), .val (.int p1), .val (.int m0), .val (.int m1)] [(.int ex), (.int (1 : Int32))])) τ
      refine XS.icmpYes X0.here hx rfl (pc0 := 2) (pc' := 7) rfl (Jvm.hb hby d33_2) rfl (tlt q).1 (by decide) (by decide) ?_
      refine XS.aloadN X0.here hx rfl (Jvm.hb hby d33_7) rfl rfl ?_
      refine XS.iloadN X0.here hx rfl (Jvm.hb hby d33_8) rfl ?_
      exact st521 τ kt)
    have pre523 : ∀ τ, Steps p.tables e below (T521.setTop (mkF m 12 #[.val (.ref a), .val (.int (1 : Int32)), .val (.int ex), .val (.int pn), .val (.int p0), .val (.int p1), .val (.int m0), .val (.int m1)] [(.int (own_x (1 : Int32) pn p0 p1 m0 m1))])) τ → PS τ := by have hq := pre522; rw [own_ch_x k0 k1 k2 k3] at hq; exact hq
    obtain ⟨_, T524, L524, X524, ⟨rfl, Nq524, eq524⟩, st524⟩ := own_stat (y := own_mn31) X521 hx hZ hown (own_W202 hw) (own_W203 hw) (by decide) (rmX l Z a0 hw [] (1 : Int32) pn p0 p1 m0 m1 h0 n0 (Nat.le_trans Z0 KK0.1) (own_c8_nar k0).1 (own_c8_nar k1).1 (own_c8_nar k2).1 (own_c8_nar k3).1) (own_W204 hw) (own_W2 hw) 1 (by decide) (by decide) eq521 (mkF m 22 #[.val (.ref a), .val (.int (1 : Int32)), .val (.int ex), .val (.int pn), .val (.int p0), .val (.int p1), .val (.int m0), .val (.int m1)] [(.int m1), (.int m0), (.int p1), (.int p0), (.int pn), (.int (1 : Int32)), (.int (own_x (1 : Int32) pn p0 p1 m0 m1))]) rfl (by rw [hml]; rfl) [(.int (1 : Int32)), (.int pn), (.int p0), (.int p1), (.int m0), (.int m1)] [(.int (own_x (1 : Int32) pn p0 p1 m0 m1))] rfl (lenOf own_pd__IICCCC_C rfl) rfl (Nat.le_refl _) (Jvm.hb hby d33_22) (by decide) (by decide)
    have N524 := Fr.app N521 Nq524
    have pre525 := fun (τ : State) kt => pre523 τ (by
      show Steps p.tables e below (T521.setTop (mkF m 12 #[.val (.ref a), .val (.int (1 : Int32)), .val (.int ex), .val (.int pn), .val (.int p0), .val (.int p1), .val (.int m0), .val (.int m1)] [(.int (own_x (1 : Int32) pn p0 p1 m0 m1))])) τ
      refine XS.iloadN X521.here hx rfl (Jvm.hb hby d33_12) rfl ?_
      refine XS.iloadN X521.here hx rfl (Jvm.hb hby d33_13) rfl ?_
      refine XS.iload X521.here hx rfl (Jvm.hb hby d33_14) rfl ?_
      refine XS.iload X521.here hx rfl (Jvm.hb hby d33_16) rfl ?_
      refine XS.iload X521.here hx rfl (Jvm.hb hby d33_18) rfl ?_
      refine XS.iload X521.here hx rfl (Jvm.hb hby d33_20) rfl ?_
      exact st524 τ kt)
    have pre526 := fun (τ : State) kt => pre525 τ (by
      show Steps p.tables e below (T524.setTop (mkF m 25 #[.val (.ref a), .val (.int (1 : Int32)), .val (.int ex), .val (.int pn), .val (.int p0), .val (.int p1), .val (.int m0), .val (.int m1)] [(.int (own_x (1 : Int32) pn p0 p1 m0 m1)), (.int (own_x (1 : Int32) pn p0 p1 m0 m1))])) τ
      refine XS.icmpNo X524.here hx rfl (Jvm.hb hby d33_25) rfl (teq rfl).2 ?_
      refine XS.iconst X524.here hx rfl (Jvm.hb hby d33_28) ?_
      refine XS.goto X524.here hx rfl (pc0 := 29) (pc' := 33) rfl (Jvm.hb hby d33_29) (by decide) (by decide) ?_
      exact kt)
    obtain ⟨fs, hrL, hrun, hended, hW, hsame⟩ := X524.leave (v := some (.int (1 : Int32))) (fun h => by rw [Bd.returns] at h; cases h)
    refine ⟨_, _, cast (congrFun hPS _) (pre526 _ ?_), hrun, hended, _, _, rfl, ?_, ⟨_, rfl⟩, hW, hsame.mono (by decide) (by decide)⟩
    · show Steps p.tables e below (T524.setTop (mkF m 33 #[.val (.ref a), .val (.int (1 : Int32)), .val (.int ex), .val (.int pn), .val (.int p0), .val (.int p1), .val (.int m0), .val (.int m1)] [(.int (1 : Int32))])) _
      exact retN X524 hx (t := .boolean) Bd.returns (by simp) (Jvm.hb hby d33_33) hrL
    · show QI 1 h0 n0 _ T524.heap _
      rw [eq524]
      exact ⟨rfl, N524, rfl⟩
  · skip
    have pre527 := fun (τ : State) kt => pre520 τ (by
      show Steps p.tables e below (s₁.setTop (mkF m 2 #[.val (.ref a), .val (.int (1 : Int32)), .val (.int ex), .val (.int pn), .val (.int p0), .val (.int p1), .val (.int m0), .val (.int m1)] [(.int ex), (.int (1 : Int32))])) τ
      refine XS.icmpNo X0.here hx rfl (Jvm.hb hby d33_2) rfl (flt q).1 ?_
      refine XS.iconst X0.here hx rfl (Jvm.hb hby d33_5) ?_
      exact kt)
    obtain ⟨fs, hrL, hrun, hended, hW, hsame⟩ := X0.leave (v := some (.int (1 : Int32))) (fun h => by rw [Bd.returns] at h; cases h)
    refine ⟨_, _, cast (congrFun hPS _) (pre527 _ ?_), hrun, hended, _, _, rfl, ?_, ⟨_, rfl⟩, hW, hsame.mono (by decide) (by decide)⟩
    · show Steps p.tables e below (s₁.setTop (mkF m 6 #[.val (.ref a), .val (.int (1 : Int32)), .val (.int ex), .val (.int pn), .val (.int p0), .val (.int p1), .val (.int m0), .val (.int m1)] [(.int (1 : Int32))])) _
      exact retN X0 hx (t := .boolean) Bd.returns (by simp) (Jvm.hb hby d33_6) hrL
    · show QI 1 h0 n0 _ s₁.heap _
      rw [e0]
      exact ⟨rfl, N0, rfl⟩
set_option maxRecDepth 65536 in
set_option maxHeartbeats 40000000 in
theorem rmAt2 (l : Launch) (Z : State) (a0 : Array Value) (hw : ∀ d ∈ tables_1, d.before a0 Z = true) (ws : List Jvm.Cond) (a : Addr) (ci : Int32) (ex : Int32) (pn : Int32) (p0 : Int32) (p1 : Int32) (m0 : Int32) (m1 : Int32) (cz : Int32) (vb : Addr) (kb : ClassId) (vf : Value) (h0 : Heap) (n0 : Nat) (Z0 : n0 ≤ h0.size) (hci : ci = (2 : Int32)) (E7 : Exa Z h0 a "java/lang/String") (F1 : Fld Z h0 a "java/lang/String" "value" "[B" (.ref vb)) (F2 : Fld Z h0 a "java/lang/String" "coder" "B" (.int (0 : Int32))) (VB : Arv Z h0 vb kb .byte ex (own_xs pn (own_b p0) (own_b p1) (own_b m0) (own_b m1)) (.int (0 : Int32))) (k0 : own_c8 p0) (k1 : own_c8 p1) (k2 : own_c8 m0) (k3 : own_c8 m1) (O3 : Sta Z Z.heap "jdk/internal/util/Preconditions" "SIOOBE_FORMATTER" "Ljava/util/function/BiFunction;" vf) (q_vf : vf = .null ∨ ∃ b, vf = .ref b) (O2 : Sta Z Z.heap "java/lang/String" "COMPACT_STRINGS" "Z" (.int cz)) (P5 : ¬ cz = 0) (OLD0 : Old Z n0 h0) :
    MetFree l (⟨"com/example/incomewright/incomewright/casefile/ProblemToStringPinLaw", "at", "(Ljava/lang/String;IIICCCC)Z"⟩ : MethodName) (head1 (Jvm.Cond.code (⟨"com/example/incomewright/incomewright/casefile/ProblemToStringPinLaw", "at", "(Ljava/lang/String;IIICCCC)Z"⟩ : MethodName) method_5_code 8 (some .boolean) :: ws) ({ frames := 4, cells := 0, slots := 0, locals := 60 } : Room)) (fun α U => α = #[(.ref a), (.int ci), (.int ex), (.int pn), (.int p0), (.int p1), (.int m0), (.int m1)] ∧ Z.Warmed39 U.vm ∧ U.heap = h0) (fun _ _ _ _ _ => True) (fun _ U ω U' => ∃ ν Λ, ω = .returned ν ∧ QI 1 h0 n0 ν U'.heap Λ ∧ FrameEnd U ω U' Λ ({ frames := 4, cells := 0, slots := 0, locals := 60 } : Room).cells ({ frames := 4, cells := 0, slots := 0, locals := 60 } : Room).slots) := by
  refine MetFree.of_bodySF (plainFor_of_name own_pn_com_example_incomewright_incomewright_casefile_ProblemToStringPinLaw) hisR ?_
  intro p e s m args below meth c s₁ Bd hml0 hP hK
  obtain ⟨rfl, hZ, hh⟩ := hP
  have hx := Bd.exec
  have hby := Bd.bytes
  have hml : c.maxLocals = 8 := hml0
  have hown : s.vm.findClass "com/example/incomewright/incomewright/casefile/ProblemToStringPinLaw" = some m.cls := findClass_of_methodNamed Bd.named
  have hnm := (name_of_methodNamed Bd.named Bd.method).1
  have X0 : Stand p l e ({ frames := 4, cells := 0, slots := 0, locals := 60 } : Room) s m #[(.ref a), (.int ci), (.int ex), (.int pn), (.int p0), (.int p1), (.int m0), (.int m1)] below meth c s₁ [] 0 0 := Stand.of_body Bd
  have e0 : s₁.heap = h0 := by rw [← hh, Bd.state]; rfl
  have N0 := Fr.nil n0
  have KK0 : Keep h0 h0 [] := Keep.refl h0 []
  obtain ⟨PS, hPS⟩ : ∃ P : State → Prop, P = fun τ => Steps p.tables e below (s₁.setTop (entryFrame m #[(.ref a), (.int ci), (.int ex), (.int pn), (.int p0), (.int p1), (.int m0), (.int m1)] 8)) τ := ⟨_, rfl⟩
  have pre0 : ∀ τ, Steps p.tables e below (s₁.setTop (mkF m 0 #[.val (.ref a), .val (.int ci), .val (.int ex), .val (.int pn), .val (.int p0), .val (.int p1), .val (.int m0), .val (.int m1)] [])) τ → PS τ := by rw [hPS]; exact fun τ κ => castTop (own_ef33 m a ci ex pn p0 p1 m0 m1) κ
  have pre528 : ∀ τ, Steps p.tables e below (s₁.setTop (mkF m 0 #[.val (.ref a), .val (.int (2 : Int32)), .val (.int ex), .val (.int pn), .val (.int p0), .val (.int p1), .val (.int m0), .val (.int m1)] [])) τ → PS τ := by have hq := pre0; rw [hci] at hq; exact hq
  have pre529 := fun (τ : State) kt => pre528 τ (by
    show Steps p.tables e below (s₁.setTop (mkF m 0 #[.val (.ref a), .val (.int (2 : Int32)), .val (.int ex), .val (.int pn), .val (.int p0), .val (.int p1), .val (.int m0), .val (.int m1)] [])) τ
    refine XS.iloadN X0.here hx rfl (Jvm.hb hby d33_0) rfl ?_
    refine XS.iloadN X0.here hx rfl (Jvm.hb hby d33_1) rfl ?_
    exact kt)
  by_cases q : (2 : Int32) < ex
  · skip
    obtain ⟨_, T530, L530, X530, ⟨rfl, Nq530, eq530⟩, st530⟩ := own_virt (y := own_mn30) (b := a) X0 hx hZ hown (own_W180 hw) (own_W181 hw) (own_W183 hw) (own_W182 hw) (by decide) (rmCA2 l Z a0 hw [] a (2 : Int32) cz vb vf kb ex (own_x (0 : Int32) pn (own_b p0) (own_b p1) (own_b m0) (own_b m1)) (own_x (1 : Int32) pn (own_b p0) (own_b p1) (own_b m0) (own_b m1)) (own_x (2 : Int32) pn (own_b p0) (own_b p1) (own_b m0) (own_b m1)) (own_x (3 : Int32) pn (own_b p0) (own_b p1) (own_b m0) (own_b m1)) (own_x (4 : Int32) pn (own_b p0) (own_b p1) (own_b m0) (own_b m1)) (own_x (5 : Int32) pn (own_b p0) (own_b p1) (own_b m0) (own_b m1)) h0 n0 (Nat.le_trans Z0 KK0.1) rfl E7 F1 F2 VB q O3 q_vf O2 P5 OLD0) (own_W184 hw) (own_W6 hw) 0 (by decide) (by decide) E7 e0 (mkF m 9 #[.val (.ref a), .val (.int (2 : Int32)), .val (.int ex), .val (.int pn), .val (.int p0), .val (.int p1), .val (.int m0), .val (.int m1)] [(.int (2 : Int32)), (.ref a)]) rfl (by rw [hml]; rfl) [(.int (2 : Int32))] [] rfl (lenOf own_pd__I_C rfl) rfl (Nat.le_refl _) (Jvm.hb hby d33_9) (by decide) (by decide)
    have N530 := Fr.app N0 Nq530
    have pre531 := fun (τ : State) kt => pre529 τ (by
      show Steps p.tables e below (s₁.setTop (mkF m 2 #[.val (.ref a), .val (.int (2 : Int32)), .val (.int ex), .val (.int pn), .val (.int p0), .val (.int p1), .val (.int m0), .val (.int m1)] [(.int ex), (.int (2 : Int32))])) τ
      refine XS.icmpYes X0.here hx rfl (pc0 := 2) (pc' := 7) rfl (Jvm.hb hby d33_2) rfl (tlt q).1 (by decide) (by decide) ?_
      refine XS.aloadN X0.here hx rfl (Jvm.hb hby d33_7) rfl rfl ?_
      refine XS.iloadN X0.here hx rfl (Jvm.hb hby d33_8) rfl ?_
      exact st530 τ kt)
    have pre532 : ∀ τ, Steps p.tables e below (T530.setTop (mkF m 12 #[.val (.ref a), .val (.int (2 : Int32)), .val (.int ex), .val (.int pn), .val (.int p0), .val (.int p1), .val (.int m0), .val (.int m1)] [(.int (own_x (2 : Int32) pn p0 p1 m0 m1))])) τ → PS τ := by have hq := pre531; rw [own_ch_x k0 k1 k2 k3] at hq; exact hq
    obtain ⟨_, T533, L533, X533, ⟨rfl, Nq533, eq533⟩, st533⟩ := own_stat (y := own_mn31) X530 hx hZ hown (own_W202 hw) (own_W203 hw) (by decide) (rmX l Z a0 hw [] (2 : Int32) pn p0 p1 m0 m1 h0 n0 (Nat.le_trans Z0 KK0.1) (own_c8_nar k0).1 (own_c8_nar k1).1 (own_c8_nar k2).1 (own_c8_nar k3).1) (own_W204 hw) (own_W2 hw) 1 (by decide) (by decide) eq530 (mkF m 22 #[.val (.ref a), .val (.int (2 : Int32)), .val (.int ex), .val (.int pn), .val (.int p0), .val (.int p1), .val (.int m0), .val (.int m1)] [(.int m1), (.int m0), (.int p1), (.int p0), (.int pn), (.int (2 : Int32)), (.int (own_x (2 : Int32) pn p0 p1 m0 m1))]) rfl (by rw [hml]; rfl) [(.int (2 : Int32)), (.int pn), (.int p0), (.int p1), (.int m0), (.int m1)] [(.int (own_x (2 : Int32) pn p0 p1 m0 m1))] rfl (lenOf own_pd__IICCCC_C rfl) rfl (Nat.le_refl _) (Jvm.hb hby d33_22) (by decide) (by decide)
    have N533 := Fr.app N530 Nq533
    have pre534 := fun (τ : State) kt => pre532 τ (by
      show Steps p.tables e below (T530.setTop (mkF m 12 #[.val (.ref a), .val (.int (2 : Int32)), .val (.int ex), .val (.int pn), .val (.int p0), .val (.int p1), .val (.int m0), .val (.int m1)] [(.int (own_x (2 : Int32) pn p0 p1 m0 m1))])) τ
      refine XS.iloadN X530.here hx rfl (Jvm.hb hby d33_12) rfl ?_
      refine XS.iloadN X530.here hx rfl (Jvm.hb hby d33_13) rfl ?_
      refine XS.iload X530.here hx rfl (Jvm.hb hby d33_14) rfl ?_
      refine XS.iload X530.here hx rfl (Jvm.hb hby d33_16) rfl ?_
      refine XS.iload X530.here hx rfl (Jvm.hb hby d33_18) rfl ?_
      refine XS.iload X530.here hx rfl (Jvm.hb hby d33_20) rfl ?_
      exact st533 τ kt)
    have pre535 := fun (τ : State) kt => pre534 τ (by
      show Steps p.tables e below (T533.setTop (mkF m 25 #[.val (.ref a), .val (.int (2 : Int32)), .val (.int ex), .val (.int pn), .val (.int p0), .val (.int p1), .val (.int m0), .val (.int m1)] [(.int (own_x (2 : Int32) pn p0 p1 m0 m1)), (.int (own_x (2 : Int32) pn p0 p1 m0 m1))])) τ
      refine XS.icmpNo X533.here hx rfl (Jvm.hb hby d33_25) rfl (teq rfl).2 ?_
      refine XS.iconst X533.here hx rfl (Jvm.hb hby d33_28) ?_
      refine XS.goto X533.here hx rfl (pc0 := 29) (pc' := 33) rfl (Jvm.hb hby d33_29) (by decide) (by decide) ?_
      exact kt)
    obtain ⟨fs, hrL, hrun, hended, hW, hsame⟩ := X533.leave (v := some (.int (1 : Int32))) (fun h => by rw [Bd.returns] at h; cases h)
    refine ⟨_, _, cast (congrFun hPS _) (pre535 _ ?_), hrun, hended, _, _, rfl, ?_, ⟨_, rfl⟩, hW, hsame.mono (by decide) (by decide)⟩
    · show Steps p.tables e below (T533.setTop (mkF m 33 #[.val (.ref a), .val (.int (2 : Int32)), .val (.int ex), .val (.int pn), .val (.int p0), .val (.int p1), .val (.int m0), .val (.int m1)] [(.int (1 : Int32))])) _
      exact retN X533 hx (t := .boolean) Bd.returns (by simp) (Jvm.hb hby d33_33) hrL
    · show QI 1 h0 n0 _ T533.heap _
      rw [eq533]
      exact ⟨rfl, N533, rfl⟩
  · skip
    have pre536 := fun (τ : State) kt => pre529 τ (by
      show Steps p.tables e below (s₁.setTop (mkF m 2 #[.val (.ref a), .val (.int (2 : Int32)), .val (.int ex), .val (.int pn), .val (.int p0), .val (.int p1), .val (.int m0), .val (.int m1)] [(.int ex), (.int (2 : Int32))])) τ
      refine XS.icmpNo X0.here hx rfl (Jvm.hb hby d33_2) rfl (flt q).1 ?_
      refine XS.iconst X0.here hx rfl (Jvm.hb hby d33_5) ?_
      exact kt)
    obtain ⟨fs, hrL, hrun, hended, hW, hsame⟩ := X0.leave (v := some (.int (1 : Int32))) (fun h => by rw [Bd.returns] at h; cases h)
    refine ⟨_, _, cast (congrFun hPS _) (pre536 _ ?_), hrun, hended, _, _, rfl, ?_, ⟨_, rfl⟩, hW, hsame.mono (by decide) (by decide)⟩
    · show Steps p.tables e below (s₁.setTop (mkF m 6 #[.val (.ref a), .val (.int (2 : Int32)), .val (.int ex), .val (.int pn), .val (.int p0), .val (.int p1), .val (.int m0), .val (.int m1)] [(.int (1 : Int32))])) _
      exact retN X0 hx (t := .boolean) Bd.returns (by simp) (Jvm.hb hby d33_6) hrL
    · show QI 1 h0 n0 _ s₁.heap _
      rw [e0]
      exact ⟨rfl, N0, rfl⟩
set_option maxRecDepth 65536 in
set_option maxHeartbeats 40000000 in
theorem rmAt3 (l : Launch) (Z : State) (a0 : Array Value) (hw : ∀ d ∈ tables_1, d.before a0 Z = true) (ws : List Jvm.Cond) (a : Addr) (ci : Int32) (ex : Int32) (pn : Int32) (p0 : Int32) (p1 : Int32) (m0 : Int32) (m1 : Int32) (cz : Int32) (vb : Addr) (kb : ClassId) (vf : Value) (h0 : Heap) (n0 : Nat) (Z0 : n0 ≤ h0.size) (hci : ci = (3 : Int32)) (E7 : Exa Z h0 a "java/lang/String") (F1 : Fld Z h0 a "java/lang/String" "value" "[B" (.ref vb)) (F2 : Fld Z h0 a "java/lang/String" "coder" "B" (.int (0 : Int32))) (VB : Arv Z h0 vb kb .byte ex (own_xs pn (own_b p0) (own_b p1) (own_b m0) (own_b m1)) (.int (0 : Int32))) (k0 : own_c8 p0) (k1 : own_c8 p1) (k2 : own_c8 m0) (k3 : own_c8 m1) (O3 : Sta Z Z.heap "jdk/internal/util/Preconditions" "SIOOBE_FORMATTER" "Ljava/util/function/BiFunction;" vf) (q_vf : vf = .null ∨ ∃ b, vf = .ref b) (O2 : Sta Z Z.heap "java/lang/String" "COMPACT_STRINGS" "Z" (.int cz)) (P5 : ¬ cz = 0) (OLD0 : Old Z n0 h0) :
    MetFree l (⟨"com/example/incomewright/incomewright/casefile/ProblemToStringPinLaw", "at", "(Ljava/lang/String;IIICCCC)Z"⟩ : MethodName) (head1 (Jvm.Cond.code (⟨"com/example/incomewright/incomewright/casefile/ProblemToStringPinLaw", "at", "(Ljava/lang/String;IIICCCC)Z"⟩ : MethodName) method_5_code 8 (some .boolean) :: ws) ({ frames := 4, cells := 0, slots := 0, locals := 60 } : Room)) (fun α U => α = #[(.ref a), (.int ci), (.int ex), (.int pn), (.int p0), (.int p1), (.int m0), (.int m1)] ∧ Z.Warmed39 U.vm ∧ U.heap = h0) (fun _ _ _ _ _ => True) (fun _ U ω U' => ∃ ν Λ, ω = .returned ν ∧ QI 1 h0 n0 ν U'.heap Λ ∧ FrameEnd U ω U' Λ ({ frames := 4, cells := 0, slots := 0, locals := 60 } : Room).cells ({ frames := 4, cells := 0, slots := 0, locals := 60 } : Room).slots) := by
  refine MetFree.of_bodySF (plainFor_of_name own_pn_com_example_incomewright_incomewright_casefile_ProblemToStringPinLaw) hisR ?_
  intro p e s m args below meth c s₁ Bd hml0 hP hK
  obtain ⟨rfl, hZ, hh⟩ := hP
  have hx := Bd.exec
  have hby := Bd.bytes
  have hml : c.maxLocals = 8 := hml0
  have hown : s.vm.findClass "com/example/incomewright/incomewright/casefile/ProblemToStringPinLaw" = some m.cls := findClass_of_methodNamed Bd.named
  have hnm := (name_of_methodNamed Bd.named Bd.method).1
  have X0 : Stand p l e ({ frames := 4, cells := 0, slots := 0, locals := 60 } : Room) s m #[(.ref a), (.int ci), (.int ex), (.int pn), (.int p0), (.int p1), (.int m0), (.int m1)] below meth c s₁ [] 0 0 := Stand.of_body Bd
  have e0 : s₁.heap = h0 := by rw [← hh, Bd.state]; rfl
  have N0 := Fr.nil n0
  have KK0 : Keep h0 h0 [] := Keep.refl h0 []
  obtain ⟨PS, hPS⟩ : ∃ P : State → Prop, P = fun τ => Steps p.tables e below (s₁.setTop (entryFrame m #[(.ref a), (.int ci), (.int ex), (.int pn), (.int p0), (.int p1), (.int m0), (.int m1)] 8)) τ := ⟨_, rfl⟩
  have pre0 : ∀ τ, Steps p.tables e below (s₁.setTop (mkF m 0 #[.val (.ref a), .val (.int ci), .val (.int ex), .val (.int pn), .val (.int p0), .val (.int p1), .val (.int m0), .val (.int m1)] [])) τ → PS τ := by rw [hPS]; exact fun τ κ => castTop (own_ef33 m a ci ex pn p0 p1 m0 m1) κ
  have pre537 : ∀ τ, Steps p.tables e below (s₁.setTop (mkF m 0 #[.val (.ref a), .val (.int (3 : Int32)), .val (.int ex), .val (.int pn), .val (.int p0), .val (.int p1), .val (.int m0), .val (.int m1)] [])) τ → PS τ := by have hq := pre0; rw [hci] at hq; exact hq
  have pre538 := fun (τ : State) kt => pre537 τ (by
    show Steps p.tables e below (s₁.setTop (mkF m 0 #[.val (.ref a), .val (.int (3 : Int32)), .val (.int ex), .val (.int pn), .val (.int p0), .val (.int p1), .val (.int m0), .val (.int m1)] [])) τ
    refine XS.iloadN X0.here hx rfl (Jvm.hb hby d33_0) rfl ?_
    refine XS.iloadN X0.here hx rfl (Jvm.hb hby d33_1) rfl ?_
    exact kt)
  by_cases q : (3 : Int32) < ex
  · skip
    obtain ⟨_, T539, L539, X539, ⟨rfl, Nq539, eq539⟩, st539⟩ := own_virt (y := own_mn30) (b := a) X0 hx hZ hown (own_W180 hw) (own_W181 hw) (own_W183 hw) (own_W182 hw) (by decide) (rmCA3 l Z a0 hw [] a (3 : Int32) cz vb vf kb ex (own_x (0 : Int32) pn (own_b p0) (own_b p1) (own_b m0) (own_b m1)) (own_x (1 : Int32) pn (own_b p0) (own_b p1) (own_b m0) (own_b m1)) (own_x (2 : Int32) pn (own_b p0) (own_b p1) (own_b m0) (own_b m1)) (own_x (3 : Int32) pn (own_b p0) (own_b p1) (own_b m0) (own_b m1)) (own_x (4 : Int32) pn (own_b p0) (own_b p1) (own_b m0) (own_b m1)) (own_x (5 : Int32) pn (own_b p0) (own_b p1) (own_b m0) (own_b m1)) h0 n0 (Nat.le_trans Z0 KK0.1) rfl E7 F1 F2 VB q O3 q_vf O2 P5 OLD0) (own_W184 hw) (own_W6 hw) 0 (by decide) (by decide) E7 e0 (mkF m 9 #[.val (.ref a), .val (.int (3 : Int32)), .val (.int ex), .val (.int pn), .val (.int p0), .val (.int p1), .val (.int m0), .val (.int m1)] [(.int (3 : Int32)), (.ref a)]) rfl (by rw [hml]; rfl) [(.int (3 : Int32))] [] rfl (lenOf own_pd__I_C rfl) rfl (Nat.le_refl _) (Jvm.hb hby d33_9) (by decide) (by decide)
    have N539 := Fr.app N0 Nq539
    have pre540 := fun (τ : State) kt => pre538 τ (by
      show Steps p.tables e below (s₁.setTop (mkF m 2 #[.val (.ref a), .val (.int (3 : Int32)), .val (.int ex), .val (.int pn), .val (.int p0), .val (.int p1), .val (.int m0), .val (.int m1)] [(.int ex), (.int (3 : Int32))])) τ
      refine XS.icmpYes X0.here hx rfl (pc0 := 2) (pc' := 7) rfl (Jvm.hb hby d33_2) rfl (tlt q).1 (by decide) (by decide) ?_
      refine XS.aloadN X0.here hx rfl (Jvm.hb hby d33_7) rfl rfl ?_
      refine XS.iloadN X0.here hx rfl (Jvm.hb hby d33_8) rfl ?_
      exact st539 τ kt)
    have pre541 : ∀ τ, Steps p.tables e below (T539.setTop (mkF m 12 #[.val (.ref a), .val (.int (3 : Int32)), .val (.int ex), .val (.int pn), .val (.int p0), .val (.int p1), .val (.int m0), .val (.int m1)] [(.int (own_x (3 : Int32) pn p0 p1 m0 m1))])) τ → PS τ := by have hq := pre540; rw [own_ch_x k0 k1 k2 k3] at hq; exact hq
    obtain ⟨_, T542, L542, X542, ⟨rfl, Nq542, eq542⟩, st542⟩ := own_stat (y := own_mn31) X539 hx hZ hown (own_W202 hw) (own_W203 hw) (by decide) (rmX l Z a0 hw [] (3 : Int32) pn p0 p1 m0 m1 h0 n0 (Nat.le_trans Z0 KK0.1) (own_c8_nar k0).1 (own_c8_nar k1).1 (own_c8_nar k2).1 (own_c8_nar k3).1) (own_W204 hw) (own_W2 hw) 1 (by decide) (by decide) eq539 (mkF m 22 #[.val (.ref a), .val (.int (3 : Int32)), .val (.int ex), .val (.int pn), .val (.int p0), .val (.int p1), .val (.int m0), .val (.int m1)] [(.int m1), (.int m0), (.int p1), (.int p0), (.int pn), (.int (3 : Int32)), (.int (own_x (3 : Int32) pn p0 p1 m0 m1))]) rfl (by rw [hml]; rfl) [(.int (3 : Int32)), (.int pn), (.int p0), (.int p1), (.int m0), (.int m1)] [(.int (own_x (3 : Int32) pn p0 p1 m0 m1))] rfl (lenOf own_pd__IICCCC_C rfl) rfl (Nat.le_refl _) (Jvm.hb hby d33_22) (by decide) (by decide)
    have N542 := Fr.app N539 Nq542
    have pre543 := fun (τ : State) kt => pre541 τ (by
      show Steps p.tables e below (T539.setTop (mkF m 12 #[.val (.ref a), .val (.int (3 : Int32)), .val (.int ex), .val (.int pn), .val (.int p0), .val (.int p1), .val (.int m0), .val (.int m1)] [(.int (own_x (3 : Int32) pn p0 p1 m0 m1))])) τ
      refine XS.iloadN X539.here hx rfl (Jvm.hb hby d33_12) rfl ?_
      refine XS.iloadN X539.here hx rfl (Jvm.hb hby d33_13) rfl ?_
      refine XS.iload X539.here hx rfl (Jvm.hb hby d33_14) rfl ?_
      refine XS.iload X539.here hx rfl (Jvm.hb hby d33_16) rfl ?_
      refine XS.iload X539.here hx rfl (Jvm.hb hby d33_18) rfl ?_
      refine XS.iload X539.here hx rfl (Jvm.hb hby d33_20) rfl ?_
      exact st542 τ kt)
    have pre544 := fun (τ : State) kt => pre543 τ (by
      show Steps p.tables e below (T542.setTop (mkF m 25 #[.val (.ref a), .val (.int (3 : Int32)), .val (.int ex), .val (.int pn), .val (.int p0), .val (.int p1), .val (.int m0), .val (.int m1)] [(.int (own_x (3 : Int32) pn p0 p1 m0 m1)), (.int (own_x (3 : Int32) pn p0 p1 m0 m1))])) τ
      refine XS.icmpNo X542.here hx rfl (Jvm.hb hby d33_25) rfl (teq rfl).2 ?_
      refine XS.iconst X542.here hx rfl (Jvm.hb hby d33_28) ?_
      refine XS.goto X542.here hx rfl (pc0 := 29) (pc' := 33) rfl (Jvm.hb hby d33_29) (by decide) (by decide) ?_
      exact kt)
    obtain ⟨fs, hrL, hrun, hended, hW, hsame⟩ := X542.leave (v := some (.int (1 : Int32))) (fun h => by rw [Bd.returns] at h; cases h)
    refine ⟨_, _, cast (congrFun hPS _) (pre544 _ ?_), hrun, hended, _, _, rfl, ?_, ⟨_, rfl⟩, hW, hsame.mono (by decide) (by decide)⟩
    · show Steps p.tables e below (T542.setTop (mkF m 33 #[.val (.ref a), .val (.int (3 : Int32)), .val (.int ex), .val (.int pn), .val (.int p0), .val (.int p1), .val (.int m0), .val (.int m1)] [(.int (1 : Int32))])) _
      exact retN X542 hx (t := .boolean) Bd.returns (by simp) (Jvm.hb hby d33_33) hrL
    · show QI 1 h0 n0 _ T542.heap _
      rw [eq542]
      exact ⟨rfl, N542, rfl⟩
  · skip
    have pre545 := fun (τ : State) kt => pre538 τ (by
      show Steps p.tables e below (s₁.setTop (mkF m 2 #[.val (.ref a), .val (.int (3 : Int32)), .val (.int ex), .val (.int pn), .val (.int p0), .val (.int p1), .val (.int m0), .val (.int m1)] [(.int ex), (.int (3 : Int32))])) τ
      refine XS.icmpNo X0.here hx rfl (Jvm.hb hby d33_2) rfl (flt q).1 ?_
      refine XS.iconst X0.here hx rfl (Jvm.hb hby d33_5) ?_
      exact kt)
    obtain ⟨fs, hrL, hrun, hended, hW, hsame⟩ := X0.leave (v := some (.int (1 : Int32))) (fun h => by rw [Bd.returns] at h; cases h)
    refine ⟨_, _, cast (congrFun hPS _) (pre545 _ ?_), hrun, hended, _, _, rfl, ?_, ⟨_, rfl⟩, hW, hsame.mono (by decide) (by decide)⟩
    · show Steps p.tables e below (s₁.setTop (mkF m 6 #[.val (.ref a), .val (.int (3 : Int32)), .val (.int ex), .val (.int pn), .val (.int p0), .val (.int p1), .val (.int m0), .val (.int m1)] [(.int (1 : Int32))])) _
      exact retN X0 hx (t := .boolean) Bd.returns (by simp) (Jvm.hb hby d33_6) hrL
    · show QI 1 h0 n0 _ s₁.heap _
      rw [e0]
      exact ⟨rfl, N0, rfl⟩
set_option maxRecDepth 65536 in
set_option maxHeartbeats 40000000 in
theorem rmAt4 (l : Launch) (Z : State) (a0 : Array Value) (hw : ∀ d ∈ tables_1, d.before a0 Z = true) (ws : List Jvm.Cond) (a : Addr) (ci : Int32) (ex : Int32) (pn : Int32) (p0 : Int32) (p1 : Int32) (m0 : Int32) (m1 : Int32) (cz : Int32) (vb : Addr) (kb : ClassId) (vf : Value) (h0 : Heap) (n0 : Nat) (Z0 : n0 ≤ h0.size) (hci : ci = (4 : Int32)) (E7 : Exa Z h0 a "java/lang/String") (F1 : Fld Z h0 a "java/lang/String" "value" "[B" (.ref vb)) (F2 : Fld Z h0 a "java/lang/String" "coder" "B" (.int (0 : Int32))) (VB : Arv Z h0 vb kb .byte ex (own_xs pn (own_b p0) (own_b p1) (own_b m0) (own_b m1)) (.int (0 : Int32))) (k0 : own_c8 p0) (k1 : own_c8 p1) (k2 : own_c8 m0) (k3 : own_c8 m1) (O3 : Sta Z Z.heap "jdk/internal/util/Preconditions" "SIOOBE_FORMATTER" "Ljava/util/function/BiFunction;" vf) (q_vf : vf = .null ∨ ∃ b, vf = .ref b) (O2 : Sta Z Z.heap "java/lang/String" "COMPACT_STRINGS" "Z" (.int cz)) (P5 : ¬ cz = 0) (OLD0 : Old Z n0 h0) :
    MetFree l (⟨"com/example/incomewright/incomewright/casefile/ProblemToStringPinLaw", "at", "(Ljava/lang/String;IIICCCC)Z"⟩ : MethodName) (head1 (Jvm.Cond.code (⟨"com/example/incomewright/incomewright/casefile/ProblemToStringPinLaw", "at", "(Ljava/lang/String;IIICCCC)Z"⟩ : MethodName) method_5_code 8 (some .boolean) :: ws) ({ frames := 4, cells := 0, slots := 0, locals := 60 } : Room)) (fun α U => α = #[(.ref a), (.int ci), (.int ex), (.int pn), (.int p0), (.int p1), (.int m0), (.int m1)] ∧ Z.Warmed39 U.vm ∧ U.heap = h0) (fun _ _ _ _ _ => True) (fun _ U ω U' => ∃ ν Λ, ω = .returned ν ∧ QI 1 h0 n0 ν U'.heap Λ ∧ FrameEnd U ω U' Λ ({ frames := 4, cells := 0, slots := 0, locals := 60 } : Room).cells ({ frames := 4, cells := 0, slots := 0, locals := 60 } : Room).slots) := by
  refine MetFree.of_bodySF (plainFor_of_name own_pn_com_example_incomewright_incomewright_casefile_ProblemToStringPinLaw) hisR ?_
  intro p e s m args below meth c s₁ Bd hml0 hP hK
  obtain ⟨rfl, hZ, hh⟩ := hP
  have hx := Bd.exec
  have hby := Bd.bytes
  have hml : c.maxLocals = 8 := hml0
  have hown : s.vm.findClass "com/example/incomewright/incomewright/casefile/ProblemToStringPinLaw" = some m.cls := findClass_of_methodNamed Bd.named
  have hnm := (name_of_methodNamed Bd.named Bd.method).1
  have X0 : Stand p l e ({ frames := 4, cells := 0, slots := 0, locals := 60 } : Room) s m #[(.ref a), (.int ci), (.int ex), (.int pn), (.int p0), (.int p1), (.int m0), (.int m1)] below meth c s₁ [] 0 0 := Stand.of_body Bd
  have e0 : s₁.heap = h0 := by rw [← hh, Bd.state]; rfl
  have N0 := Fr.nil n0
  have KK0 : Keep h0 h0 [] := Keep.refl h0 []
  obtain ⟨PS, hPS⟩ : ∃ P : State → Prop, P = fun τ => Steps p.tables e below (s₁.setTop (entryFrame m #[(.ref a), (.int ci), (.int ex), (.int pn), (.int p0), (.int p1), (.int m0), (.int m1)] 8)) τ := ⟨_, rfl⟩
  have pre0 : ∀ τ, Steps p.tables e below (s₁.setTop (mkF m 0 #[.val (.ref a), .val (.int ci), .val (.int ex), .val (.int pn), .val (.int p0), .val (.int p1), .val (.int m0), .val (.int m1)] [])) τ → PS τ := by rw [hPS]; exact fun τ κ => castTop (own_ef33 m a ci ex pn p0 p1 m0 m1) κ
  have pre546 : ∀ τ, Steps p.tables e below (s₁.setTop (mkF m 0 #[.val (.ref a), .val (.int (4 : Int32)), .val (.int ex), .val (.int pn), .val (.int p0), .val (.int p1), .val (.int m0), .val (.int m1)] [])) τ → PS τ := by have hq := pre0; rw [hci] at hq; exact hq
  have pre547 := fun (τ : State) kt => pre546 τ (by
    show Steps p.tables e below (s₁.setTop (mkF m 0 #[.val (.ref a), .val (.int (4 : Int32)), .val (.int ex), .val (.int pn), .val (.int p0), .val (.int p1), .val (.int m0), .val (.int m1)] [])) τ
    refine XS.iloadN X0.here hx rfl (Jvm.hb hby d33_0) rfl ?_
    refine XS.iloadN X0.here hx rfl (Jvm.hb hby d33_1) rfl ?_
    exact kt)
  by_cases q : (4 : Int32) < ex
  · skip
    obtain ⟨_, T548, L548, X548, ⟨rfl, Nq548, eq548⟩, st548⟩ := own_virt (y := own_mn30) (b := a) X0 hx hZ hown (own_W180 hw) (own_W181 hw) (own_W183 hw) (own_W182 hw) (by decide) (rmCA4 l Z a0 hw [] a (4 : Int32) cz vb vf kb ex (own_x (0 : Int32) pn (own_b p0) (own_b p1) (own_b m0) (own_b m1)) (own_x (1 : Int32) pn (own_b p0) (own_b p1) (own_b m0) (own_b m1)) (own_x (2 : Int32) pn (own_b p0) (own_b p1) (own_b m0) (own_b m1)) (own_x (3 : Int32) pn (own_b p0) (own_b p1) (own_b m0) (own_b m1)) (own_x (4 : Int32) pn (own_b p0) (own_b p1) (own_b m0) (own_b m1)) (own_x (5 : Int32) pn (own_b p0) (own_b p1) (own_b m0) (own_b m1)) h0 n0 (Nat.le_trans Z0 KK0.1) rfl E7 F1 F2 VB q O3 q_vf O2 P5 OLD0) (own_W184 hw) (own_W6 hw) 0 (by decide) (by decide) E7 e0 (mkF m 9 #[.val (.ref a), .val (.int (4 : Int32)), .val (.int ex), .val (.int pn), .val (.int p0), .val (.int p1), .val (.int m0), .val (.int m1)] [(.int (4 : Int32)), (.ref a)]) rfl (by rw [hml]; rfl) [(.int (4 : Int32))] [] rfl (lenOf own_pd__I_C rfl) rfl (Nat.le_refl _) (Jvm.hb hby d33_9) (by decide) (by decide)
    have N548 := Fr.app N0 Nq548
    have pre549 := fun (τ : State) kt => pre547 τ (by
      show Steps p.tables e below (s₁.setTop (mkF m 2 #[.val (.ref a), .val (.int (4 : Int32)), .val (.int ex), .val (.int pn), .val (.int p0), .val (.int p1), .val (.int m0), .val (.int m1)] [(.int ex), (.int (4 : Int32))])) τ
      refine XS.icmpYes X0.here hx rfl (pc0 := 2) (pc' := 7) rfl (Jvm.hb hby d33_2) rfl (tlt q).1 (by decide) (by decide) ?_
      refine XS.aloadN X0.here hx rfl (Jvm.hb hby d33_7) rfl rfl ?_
      refine XS.iloadN X0.here hx rfl (Jvm.hb hby d33_8) rfl ?_
      exact st548 τ kt)
    have pre550 : ∀ τ, Steps p.tables e below (T548.setTop (mkF m 12 #[.val (.ref a), .val (.int (4 : Int32)), .val (.int ex), .val (.int pn), .val (.int p0), .val (.int p1), .val (.int m0), .val (.int m1)] [(.int (own_x (4 : Int32) pn p0 p1 m0 m1))])) τ → PS τ := by have hq := pre549; rw [own_ch_x k0 k1 k2 k3] at hq; exact hq
    obtain ⟨_, T551, L551, X551, ⟨rfl, Nq551, eq551⟩, st551⟩ := own_stat (y := own_mn31) X548 hx hZ hown (own_W202 hw) (own_W203 hw) (by decide) (rmX l Z a0 hw [] (4 : Int32) pn p0 p1 m0 m1 h0 n0 (Nat.le_trans Z0 KK0.1) (own_c8_nar k0).1 (own_c8_nar k1).1 (own_c8_nar k2).1 (own_c8_nar k3).1) (own_W204 hw) (own_W2 hw) 1 (by decide) (by decide) eq548 (mkF m 22 #[.val (.ref a), .val (.int (4 : Int32)), .val (.int ex), .val (.int pn), .val (.int p0), .val (.int p1), .val (.int m0), .val (.int m1)] [(.int m1), (.int m0), (.int p1), (.int p0), (.int pn), (.int (4 : Int32)), (.int (own_x (4 : Int32) pn p0 p1 m0 m1))]) rfl (by rw [hml]; rfl) [(.int (4 : Int32)), (.int pn), (.int p0), (.int p1), (.int m0), (.int m1)] [(.int (own_x (4 : Int32) pn p0 p1 m0 m1))] rfl (lenOf own_pd__IICCCC_C rfl) rfl (Nat.le_refl _) (Jvm.hb hby d33_22) (by decide) (by decide)
    have N551 := Fr.app N548 Nq551
    have pre552 := fun (τ : State) kt => pre550 τ (by
      show Steps p.tables e below (T548.setTop (mkF m 12 #[.val (.ref a), .val (.int (4 : Int32)), .val (.int ex), .val (.int pn), .val (.int p0), .val (.int p1), .val (.int m0), .val (.int m1)] [(.int (own_x (4 : Int32) pn p0 p1 m0 m1))])) τ
      refine XS.iloadN X548.here hx rfl (Jvm.hb hby d33_12) rfl ?_
      refine XS.iloadN X548.here hx rfl (Jvm.hb hby d33_13) rfl ?_
      refine XS.iload X548.here hx rfl (Jvm.hb hby d33_14) rfl ?_
      refine XS.iload X548.here hx rfl (Jvm.hb hby d33_16) rfl ?_
      refine XS.iload X548.here hx rfl (Jvm.hb hby d33_18) rfl ?_
      refine XS.iload X548.here hx rfl (Jvm.hb hby d33_20) rfl ?_
      exact st551 τ kt)
    have pre553 := fun (τ : State) kt => pre552 τ (by
      show Steps p.tables e below (T551.setTop (mkF m 25 #[.val (.ref a), .val (.int (4 : Int32)), .val (.int ex), .val (.int pn), .val (.int p0), .val (.int p1), .val (.int m0), .val (.int m1)] [(.int (own_x (4 : Int32) pn p0 p1 m0 m1)), (.int (own_x (4 : Int32) pn p0 p1 m0 m1))])) τ
      refine XS.icmpNo X551.here hx rfl (Jvm.hb hby d33_25) rfl (teq rfl).2 ?_
      refine XS.iconst X551.here hx rfl (Jvm.hb hby d33_28) ?_
      refine XS.goto X551.here hx rfl (pc0 := 29) (pc' := 33) rfl (Jvm.hb hby d33_29) (by decide) (by decide) ?_
      exact kt)
    obtain ⟨fs, hrL, hrun, hended, hW, hsame⟩ := X551.leave (v := some (.int (1 : Int32))) (fun h => by rw [Bd.returns] at h; cases h)
    refine ⟨_, _, cast (congrFun hPS _) (pre553 _ ?_), hrun, hended, _, _, rfl, ?_, ⟨_, rfl⟩, hW, hsame.mono (by decide) (by decide)⟩
    · show Steps p.tables e below (T551.setTop (mkF m 33 #[.val (.ref a), .val (.int (4 : Int32)), .val (.int ex), .val (.int pn), .val (.int p0), .val (.int p1), .val (.int m0), .val (.int m1)] [(.int (1 : Int32))])) _
      exact retN X551 hx (t := .boolean) Bd.returns (by simp) (Jvm.hb hby d33_33) hrL
    · show QI 1 h0 n0 _ T551.heap _
      rw [eq551]
      exact ⟨rfl, N551, rfl⟩
  · skip
    have pre554 := fun (τ : State) kt => pre547 τ (by
      show Steps p.tables e below (s₁.setTop (mkF m 2 #[.val (.ref a), .val (.int (4 : Int32)), .val (.int ex), .val (.int pn), .val (.int p0), .val (.int p1), .val (.int m0), .val (.int m1)] [(.int ex), (.int (4 : Int32))])) τ
      refine XS.icmpNo X0.here hx rfl (Jvm.hb hby d33_2) rfl (flt q).1 ?_
      refine XS.iconst X0.here hx rfl (Jvm.hb hby d33_5) ?_
      exact kt)
    obtain ⟨fs, hrL, hrun, hended, hW, hsame⟩ := X0.leave (v := some (.int (1 : Int32))) (fun h => by rw [Bd.returns] at h; cases h)
    refine ⟨_, _, cast (congrFun hPS _) (pre554 _ ?_), hrun, hended, _, _, rfl, ?_, ⟨_, rfl⟩, hW, hsame.mono (by decide) (by decide)⟩
    · show Steps p.tables e below (s₁.setTop (mkF m 6 #[.val (.ref a), .val (.int (4 : Int32)), .val (.int ex), .val (.int pn), .val (.int p0), .val (.int p1), .val (.int m0), .val (.int m1)] [(.int (1 : Int32))])) _
      exact retN X0 hx (t := .boolean) Bd.returns (by simp) (Jvm.hb hby d33_6) hrL
    · show QI 1 h0 n0 _ s₁.heap _
      rw [e0]
      exact ⟨rfl, N0, rfl⟩
set_option maxRecDepth 65536 in
set_option maxHeartbeats 40000000 in
theorem rmAt5 (l : Launch) (Z : State) (a0 : Array Value) (hw : ∀ d ∈ tables_1, d.before a0 Z = true) (ws : List Jvm.Cond) (a : Addr) (ci : Int32) (ex : Int32) (pn : Int32) (p0 : Int32) (p1 : Int32) (m0 : Int32) (m1 : Int32) (cz : Int32) (vb : Addr) (kb : ClassId) (vf : Value) (h0 : Heap) (n0 : Nat) (Z0 : n0 ≤ h0.size) (hci : ci = (5 : Int32)) (E7 : Exa Z h0 a "java/lang/String") (F1 : Fld Z h0 a "java/lang/String" "value" "[B" (.ref vb)) (F2 : Fld Z h0 a "java/lang/String" "coder" "B" (.int (0 : Int32))) (VB : Arv Z h0 vb kb .byte ex (own_xs pn (own_b p0) (own_b p1) (own_b m0) (own_b m1)) (.int (0 : Int32))) (k0 : own_c8 p0) (k1 : own_c8 p1) (k2 : own_c8 m0) (k3 : own_c8 m1) (O3 : Sta Z Z.heap "jdk/internal/util/Preconditions" "SIOOBE_FORMATTER" "Ljava/util/function/BiFunction;" vf) (q_vf : vf = .null ∨ ∃ b, vf = .ref b) (O2 : Sta Z Z.heap "java/lang/String" "COMPACT_STRINGS" "Z" (.int cz)) (P5 : ¬ cz = 0) (OLD0 : Old Z n0 h0) :
    MetFree l (⟨"com/example/incomewright/incomewright/casefile/ProblemToStringPinLaw", "at", "(Ljava/lang/String;IIICCCC)Z"⟩ : MethodName) (head1 (Jvm.Cond.code (⟨"com/example/incomewright/incomewright/casefile/ProblemToStringPinLaw", "at", "(Ljava/lang/String;IIICCCC)Z"⟩ : MethodName) method_5_code 8 (some .boolean) :: ws) ({ frames := 4, cells := 0, slots := 0, locals := 60 } : Room)) (fun α U => α = #[(.ref a), (.int ci), (.int ex), (.int pn), (.int p0), (.int p1), (.int m0), (.int m1)] ∧ Z.Warmed39 U.vm ∧ U.heap = h0) (fun _ _ _ _ _ => True) (fun _ U ω U' => ∃ ν Λ, ω = .returned ν ∧ QI 1 h0 n0 ν U'.heap Λ ∧ FrameEnd U ω U' Λ ({ frames := 4, cells := 0, slots := 0, locals := 60 } : Room).cells ({ frames := 4, cells := 0, slots := 0, locals := 60 } : Room).slots) := by
  refine MetFree.of_bodySF (plainFor_of_name own_pn_com_example_incomewright_incomewright_casefile_ProblemToStringPinLaw) hisR ?_
  intro p e s m args below meth c s₁ Bd hml0 hP hK
  obtain ⟨rfl, hZ, hh⟩ := hP
  have hx := Bd.exec
  have hby := Bd.bytes
  have hml : c.maxLocals = 8 := hml0
  have hown : s.vm.findClass "com/example/incomewright/incomewright/casefile/ProblemToStringPinLaw" = some m.cls := findClass_of_methodNamed Bd.named
  have hnm := (name_of_methodNamed Bd.named Bd.method).1
  have X0 : Stand p l e ({ frames := 4, cells := 0, slots := 0, locals := 60 } : Room) s m #[(.ref a), (.int ci), (.int ex), (.int pn), (.int p0), (.int p1), (.int m0), (.int m1)] below meth c s₁ [] 0 0 := Stand.of_body Bd
  have e0 : s₁.heap = h0 := by rw [← hh, Bd.state]; rfl
  have N0 := Fr.nil n0
  have KK0 : Keep h0 h0 [] := Keep.refl h0 []
  obtain ⟨PS, hPS⟩ : ∃ P : State → Prop, P = fun τ => Steps p.tables e below (s₁.setTop (entryFrame m #[(.ref a), (.int ci), (.int ex), (.int pn), (.int p0), (.int p1), (.int m0), (.int m1)] 8)) τ := ⟨_, rfl⟩
  have pre0 : ∀ τ, Steps p.tables e below (s₁.setTop (mkF m 0 #[.val (.ref a), .val (.int ci), .val (.int ex), .val (.int pn), .val (.int p0), .val (.int p1), .val (.int m0), .val (.int m1)] [])) τ → PS τ := by rw [hPS]; exact fun τ κ => castTop (own_ef33 m a ci ex pn p0 p1 m0 m1) κ
  have pre555 : ∀ τ, Steps p.tables e below (s₁.setTop (mkF m 0 #[.val (.ref a), .val (.int (5 : Int32)), .val (.int ex), .val (.int pn), .val (.int p0), .val (.int p1), .val (.int m0), .val (.int m1)] [])) τ → PS τ := by have hq := pre0; rw [hci] at hq; exact hq
  have pre556 := fun (τ : State) kt => pre555 τ (by
    show Steps p.tables e below (s₁.setTop (mkF m 0 #[.val (.ref a), .val (.int (5 : Int32)), .val (.int ex), .val (.int pn), .val (.int p0), .val (.int p1), .val (.int m0), .val (.int m1)] [])) τ
    refine XS.iloadN X0.here hx rfl (Jvm.hb hby d33_0) rfl ?_
    refine XS.iloadN X0.here hx rfl (Jvm.hb hby d33_1) rfl ?_
    exact kt)
  by_cases q : (5 : Int32) < ex
  · skip
    obtain ⟨_, T557, L557, X557, ⟨rfl, Nq557, eq557⟩, st557⟩ := own_virt (y := own_mn30) (b := a) X0 hx hZ hown (own_W180 hw) (own_W181 hw) (own_W183 hw) (own_W182 hw) (by decide) (rmCA5 l Z a0 hw [] a (5 : Int32) cz vb vf kb ex (own_x (0 : Int32) pn (own_b p0) (own_b p1) (own_b m0) (own_b m1)) (own_x (1 : Int32) pn (own_b p0) (own_b p1) (own_b m0) (own_b m1)) (own_x (2 : Int32) pn (own_b p0) (own_b p1) (own_b m0) (own_b m1)) (own_x (3 : Int32) pn (own_b p0) (own_b p1) (own_b m0) (own_b m1)) (own_x (4 : Int32) pn (own_b p0) (own_b p1) (own_b m0) (own_b m1)) (own_x (5 : Int32) pn (own_b p0) (own_b p1) (own_b m0) (own_b m1)) h0 n0 (Nat.le_trans Z0 KK0.1) rfl E7 F1 F2 VB q O3 q_vf O2 P5 OLD0) (own_W184 hw) (own_W6 hw) 0 (by decide) (by decide) E7 e0 (mkF m 9 #[.val (.ref a), .val (.int (5 : Int32)), .val (.int ex), .val (.int pn), .val (.int p0), .val (.int p1), .val (.int m0), .val (.int m1)] [(.int (5 : Int32)), (.ref a)]) rfl (by rw [hml]; rfl) [(.int (5 : Int32))] [] rfl (lenOf own_pd__I_C rfl) rfl (Nat.le_refl _) (Jvm.hb hby d33_9) (by decide) (by decide)
    have N557 := Fr.app N0 Nq557
    have pre558 := fun (τ : State) kt => pre556 τ (by
      show Steps p.tables e below (s₁.setTop (mkF m 2 #[.val (.ref a), .val (.int (5 : Int32)), .val (.int ex), .val (.int pn), .val (.int p0), .val (.int p1), .val (.int m0), .val (.int m1)] [(.int ex), (.int (5 : Int32))])) τ
      refine XS.icmpYes X0.here hx rfl (pc0 := 2) (pc' := 7) rfl (Jvm.hb hby d33_2) rfl (tlt q).1 (by decide) (by decide) ?_
      refine XS.aloadN X0.here hx rfl (Jvm.hb hby d33_7) rfl rfl ?_
      refine XS.iloadN X0.here hx rfl (Jvm.hb hby d33_8) rfl ?_
      exact st557 τ kt)
    have pre559 : ∀ τ, Steps p.tables e below (T557.setTop (mkF m 12 #[.val (.ref a), .val (.int (5 : Int32)), .val (.int ex), .val (.int pn), .val (.int p0), .val (.int p1), .val (.int m0), .val (.int m1)] [(.int (own_x (5 : Int32) pn p0 p1 m0 m1))])) τ → PS τ := by have hq := pre558; rw [own_ch_x k0 k1 k2 k3] at hq; exact hq
    obtain ⟨_, T560, L560, X560, ⟨rfl, Nq560, eq560⟩, st560⟩ := own_stat (y := own_mn31) X557 hx hZ hown (own_W202 hw) (own_W203 hw) (by decide) (rmX l Z a0 hw [] (5 : Int32) pn p0 p1 m0 m1 h0 n0 (Nat.le_trans Z0 KK0.1) (own_c8_nar k0).1 (own_c8_nar k1).1 (own_c8_nar k2).1 (own_c8_nar k3).1) (own_W204 hw) (own_W2 hw) 1 (by decide) (by decide) eq557 (mkF m 22 #[.val (.ref a), .val (.int (5 : Int32)), .val (.int ex), .val (.int pn), .val (.int p0), .val (.int p1), .val (.int m0), .val (.int m1)] [(.int m1), (.int m0), (.int p1), (.int p0), (.int pn), (.int (5 : Int32)), (.int (own_x (5 : Int32) pn p0 p1 m0 m1))]) rfl (by rw [hml]; rfl) [(.int (5 : Int32)), (.int pn), (.int p0), (.int p1), (.int m0), (.int m1)] [(.int (own_x (5 : Int32) pn p0 p1 m0 m1))] rfl (lenOf own_pd__IICCCC_C rfl) rfl (Nat.le_refl _) (Jvm.hb hby d33_22) (by decide) (by decide)
    have N560 := Fr.app N557 Nq560
    have pre561 := fun (τ : State) kt => pre559 τ (by
      show Steps p.tables e below (T557.setTop (mkF m 12 #[.val (.ref a), .val (.int (5 : Int32)), .val (.int ex), .val (.int pn), .val (.int p0), .val (.int p1), .val (.int m0), .val (.int m1)] [(.int (own_x (5 : Int32) pn p0 p1 m0 m1))])) τ
      refine XS.iloadN X557.here hx rfl (Jvm.hb hby d33_12) rfl ?_
      refine XS.iloadN X557.here hx rfl (Jvm.hb hby d33_13) rfl ?_
      refine XS.iload X557.here hx rfl (Jvm.hb hby d33_14) rfl ?_
      refine XS.iload X557.here hx rfl (Jvm.hb hby d33_16) rfl ?_
      refine XS.iload X557.here hx rfl (Jvm.hb hby d33_18) rfl ?_
      refine XS.iload X557.here hx rfl (Jvm.hb hby d33_20) rfl ?_
      exact st560 τ kt)
    have pre562 := fun (τ : State) kt => pre561 τ (by
      show Steps p.tables e below (T560.setTop (mkF m 25 #[.val (.ref a), .val (.int (5 : Int32)), .val (.int ex), .val (.int pn), .val (.int p0), .val (.int p1), .val (.int m0), .val (.int m1)] [(.int (own_x (5 : Int32) pn p0 p1 m0 m1)), (.int (own_x (5 : Int32) pn p0 p1 m0 m1))])) τ
      refine XS.icmpNo X560.here hx rfl (Jvm.hb hby d33_25) rfl (teq rfl).2 ?_
      refine XS.iconst X560.here hx rfl (Jvm.hb hby d33_28) ?_
      refine XS.goto X560.here hx rfl (pc0 := 29) (pc' := 33) rfl (Jvm.hb hby d33_29) (by decide) (by decide) ?_
      exact kt)
    obtain ⟨fs, hrL, hrun, hended, hW, hsame⟩ := X560.leave (v := some (.int (1 : Int32))) (fun h => by rw [Bd.returns] at h; cases h)
    refine ⟨_, _, cast (congrFun hPS _) (pre562 _ ?_), hrun, hended, _, _, rfl, ?_, ⟨_, rfl⟩, hW, hsame.mono (by decide) (by decide)⟩
    · show Steps p.tables e below (T560.setTop (mkF m 33 #[.val (.ref a), .val (.int (5 : Int32)), .val (.int ex), .val (.int pn), .val (.int p0), .val (.int p1), .val (.int m0), .val (.int m1)] [(.int (1 : Int32))])) _
      exact retN X560 hx (t := .boolean) Bd.returns (by simp) (Jvm.hb hby d33_33) hrL
    · show QI 1 h0 n0 _ T560.heap _
      rw [eq560]
      exact ⟨rfl, N560, rfl⟩
  · skip
    have pre563 := fun (τ : State) kt => pre556 τ (by
      show Steps p.tables e below (s₁.setTop (mkF m 2 #[.val (.ref a), .val (.int (5 : Int32)), .val (.int ex), .val (.int pn), .val (.int p0), .val (.int p1), .val (.int m0), .val (.int m1)] [(.int ex), (.int (5 : Int32))])) τ
      refine XS.icmpNo X0.here hx rfl (Jvm.hb hby d33_2) rfl (flt q).1 ?_
      refine XS.iconst X0.here hx rfl (Jvm.hb hby d33_5) ?_
      exact kt)
    obtain ⟨fs, hrL, hrun, hended, hW, hsame⟩ := X0.leave (v := some (.int (1 : Int32))) (fun h => by rw [Bd.returns] at h; cases h)
    refine ⟨_, _, cast (congrFun hPS _) (pre563 _ ?_), hrun, hended, _, _, rfl, ?_, ⟨_, rfl⟩, hW, hsame.mono (by decide) (by decide)⟩
    · show Steps p.tables e below (s₁.setTop (mkF m 6 #[.val (.ref a), .val (.int (5 : Int32)), .val (.int ex), .val (.int pn), .val (.int p0), .val (.int p1), .val (.int m0), .val (.int m1)] [(.int (1 : Int32))])) _
      exact retN X0 hx (t := .boolean) Bd.returns (by simp) (Jvm.hb hby d33_6) hrL
    · show QI 1 h0 n0 _ s₁.heap _
      rw [e0]
      exact ⟨rfl, N0, rfl⟩
def Q0 (n0 : Nat) (v : Option Value) (h : Heap) (L : List Loc) : Prop := v = some (.int 1) ∧ Fr n0 L
theorem own_ef0 (m : MethodId) (x0 : Int32) (x1 : Int32) (x2 : Int32) : entryFrame m #[(.int x0), (.int x1), (.int x2)] maxLocals = mkF m 0 #[.val (.int x0), .val (.int x1), .val (.int x2), .unset, .unset, .unset, .unset, .unset, .unset, .unset, .unset, .unset, .unset] [] := by first | (simp [entryFrame, mkF, argsToLocals, Value.category, maxLocals]; done) | rfl
set_option maxRecDepth 65536 in
set_option maxHeartbeats 40000000 in
theorem rm0 (l : Launch) (Z : State) (a0 : Array Value) (hw : ∀ d ∈ tables_1, d.before a0 Z = true) (ws : List Jvm.Cond) (aa : Int32) (bb : Int32) (le : Int32) (cz : Int32) (vf : Value) (h0 : Heap) (n0 : Nat) (Z0 : n0 ≤ h0.size) (hEL : EW Z a0 EL) (wS : ∀ a ∈ Bundle.stringAtoms, a.before a0 Z = true) (O2 : Sta Z Z.heap "java/lang/String" "COMPACT_STRINGS" "Z" (.int cz)) (P5 : ¬ cz = 0) (OLD0 : Old Z n0 h0) (O3 : Sta Z Z.heap "jdk/internal/util/Preconditions" "SIOOBE_FORMATTER" "Ljava/util/function/BiFunction;" vf) (q_vf : vf = .null ∨ ∃ b, vf = .ref b) :
    MetFree l x (head1 (Jvm.Cond.code x code maxLocals ret :: ws) room_1) (fun α U => α = #[(.int aa), (.int bb), (.int le)] ∧ Z.Warmed39 U.vm ∧ U.heap = h0 ∧ CHv Z EL U.vm h0) (fun _ _ _ _ _ => True) (fun _ U ω U' => ∃ ν Λ, ω = .returned ν ∧ Q0 n0 ν U'.heap Λ ∧ ReturnedEndW U ω U' Λ room_1.cells room_1.slots) := by
  refine MetFree.of_bodySF (plainFor_of_name own_pn_com_example_incomewright_incomewright_casefile_ProblemToStringPinLaw) hisR ?_
  intro p e s m args below meth c s₁ Bd hml0 hP hK
  obtain ⟨rfl, hZ0, hh, CV0⟩ := hP
  have hZ : Z.Warmed39 (s.setVm s.vm).vm := hZ0
  have hx := Bd.exec
  have hby := Bd.bytes
  have hml : c.maxLocals = 13 := hml0
  have hown : (s.setVm s.vm).vm.findClass "com/example/incomewright/incomewright/casefile/ProblemToStringPinLaw" = some m.cls := findClass_of_methodNamed Bd.named
  have hnm := (name_of_methodNamed Bd.named Bd.method).1
  have X0 : Stand p l e room_1 (s.setVm s.vm) m #[(.int aa), (.int bb), (.int le)] below meth c s₁ [] 0 0 := Stand.of_body Bd
  have e0 : s₁.heap = h0 := by rw [← hh, Bd.state]; rfl
  have N0 := Fr.nil n0
  have KK0 : Keep h0 h0 [] := Keep.refl h0 []
  have hS0 : s.Since s.vm h0.size := (State.WarmedH.refl s).since _
  have hk0 : h0.size ≤ h0.size := Nat.le_refl _
  have CT0 := CHr.refl CV0
  have CM0 := CHr.refl CV0
  obtain ⟨PS, hPS⟩ : ∃ P : State → Prop, P = fun τ => Steps p.tables e below (s₁.setTop (entryFrame m #[(.int aa), (.int bb), (.int le)] maxLocals)) τ := ⟨_, rfl⟩
  have pre0 : ∀ τ, Steps p.tables e below (s₁.setTop (mkF m 0 #[.val (.int aa), .val (.int bb), .val (.int le), .unset, .unset, .unset, .unset, .unset, .unset, .unset, .unset, .unset, .unset] [])) τ → PS τ := by rw [hPS]; exact fun τ κ => castTop (own_ef0 m aa bb le) κ
  have pre564 := fun (τ : State) kt => pre0 τ (by
    show Steps p.tables e below (s₁.setTop (mkF m 0 #[.val (.int aa), .val (.int bb), .val (.int le), .unset, .unset, .unset, .unset, .unset, .unset, .unset, .unset, .unset, .unset] [])) τ
    refine XS.iloadN X0.here hx rfl (Jvm.hb hby at_0) rfl ?_
    refine XS.iconst X0.here hx rfl (Jvm.hb hby at_1) ?_
    refine XS.iand X0.here hx rfl (Jvm.hb hby at_2) rfl ?_
    refine XS.iconst X0.here hx rfl (Jvm.hb hby at_3) ?_
    refine iremM X0 hx rfl (Jvm.hb hby at_4) rfl (by decide) ?_
    refine XS.istoreN X0.here hx rfl (Jvm.hb hby at_5) rfl (l' := #[.val (.int aa), .val (.int bb), .val (.int le), .val (.int ((le &&& (3 : Int32)) % (3 : Int32))), .unset, .unset, .unset, .unset, .unset, .unset, .unset, .unset, .unset]) rfl ?_
    exact kt)
  obtain ⟨pn, e_pn⟩ : ∃ z : Int32, z = ((le &&& (3 : Int32)) % (3 : Int32)) := ⟨_, rfl⟩
  have pre565 : ∀ τ, Steps p.tables e below (s₁.setTop (mkF m 6 #[.val (.int aa), .val (.int bb), .val (.int le), .val (.int pn), .unset, .unset, .unset, .unset, .unset, .unset, .unset, .unset, .unset] [])) τ → PS τ := by rw [e_pn]; exact pre564
  have pre566 := fun (τ : State) kt => pre565 τ (by
    show Steps p.tables e below (s₁.setTop (mkF m 6 #[.val (.int aa), .val (.int bb), .val (.int le), .val (.int pn), .unset, .unset, .unset, .unset, .unset, .unset, .unset, .unset, .unset] [])) τ
    refine XS.iloadN X0.here hx rfl (Jvm.hb hby at_6) rfl ?_
    refine XS.iconst X0.here hx rfl (Jvm.hb hby at_7) ?_
    refine XT.iushr X0.here hx rfl (Jvm.hb hby at_8) rfl ?_
    refine XS.iconst X0.here hx rfl (Jvm.hb hby at_9) ?_
    refine XS.iand X0.here hx rfl (Jvm.hb hby at_10) rfl ?_
    refine XS.iconst X0.here hx rfl (Jvm.hb hby at_11) ?_
    refine iremM X0 hx rfl (Jvm.hb hby at_12) rfl (by decide) ?_
    refine XS.istore X0.here hx rfl (Jvm.hb hby at_13) rfl (l' := #[.val (.int aa), .val (.int bb), .val (.int le), .val (.int pn), .val (.int (((XT.ushr le (2 : Int32)) &&& (3 : Int32)) % (3 : Int32))), .unset, .unset, .unset, .unset, .unset, .unset, .unset, .unset]) rfl ?_
    exact kt)
  obtain ⟨mn, e_mn⟩ : ∃ z : Int32, z = (((XT.ushr le (2 : Int32)) &&& (3 : Int32)) % (3 : Int32)) := ⟨_, rfl⟩
  have pre567 : ∀ τ, Steps p.tables e below (s₁.setTop (mkF m 15 #[.val (.int aa), .val (.int bb), .val (.int le), .val (.int pn), .val (.int mn), .unset, .unset, .unset, .unset, .unset, .unset, .unset, .unset] [])) τ → PS τ := by rw [e_mn]; exact pre566
  have pre568 := fun (τ : State) kt => pre567 τ (by
    show Steps p.tables e below (s₁.setTop (mkF m 15 #[.val (.int aa), .val (.int bb), .val (.int le), .val (.int pn), .val (.int mn), .unset, .unset, .unset, .unset, .unset, .unset, .unset, .unset] [])) τ
    refine XS.iloadN X0.here hx rfl (Jvm.hb hby at_15) rfl ?_
    refine XS.sipush X0.here hx rfl (Jvm.hb hby at_16) ?_
    refine XS.iand X0.here hx rfl (Jvm.hb hby at_19) rfl ?_
    refine XT.i2c X0.here hx rfl (Jvm.hb hby at_20) rfl ?_
    refine XS.istore X0.here hx rfl (Jvm.hb hby at_21) rfl (l' := #[.val (.int aa), .val (.int bb), .val (.int le), .val (.int pn), .val (.int mn), .val (.int ((aa &&& (255 : Int32))).toUInt32.toUInt16.toUInt32.toInt32), .unset, .unset, .unset, .unset, .unset, .unset, .unset]) rfl ?_
    exact kt)
  obtain ⟨p0, e_p0⟩ : ∃ z : Int32, z = ((aa &&& (255 : Int32))).toUInt32.toUInt16.toUInt32.toInt32 := ⟨_, rfl⟩
  have pre569 : ∀ τ, Steps p.tables e below (s₁.setTop (mkF m 23 #[.val (.int aa), .val (.int bb), .val (.int le), .val (.int pn), .val (.int mn), .val (.int p0), .unset, .unset, .unset, .unset, .unset, .unset, .unset] [])) τ → PS τ := by rw [e_p0]; exact pre568
  have pre570 := fun (τ : State) kt => pre569 τ (by
    show Steps p.tables e below (s₁.setTop (mkF m 23 #[.val (.int aa), .val (.int bb), .val (.int le), .val (.int pn), .val (.int mn), .val (.int p0), .unset, .unset, .unset, .unset, .unset, .unset, .unset] [])) τ
    refine XS.iloadN X0.here hx rfl (Jvm.hb hby at_23) rfl ?_
    refine XS.bipush X0.here hx rfl (Jvm.hb hby at_24) ?_
    refine XT.iushr X0.here hx rfl (Jvm.hb hby at_26) rfl ?_
    refine XS.sipush X0.here hx rfl (Jvm.hb hby at_27) ?_
    refine XS.iand X0.here hx rfl (Jvm.hb hby at_30) rfl ?_
    refine XT.i2c X0.here hx rfl (Jvm.hb hby at_31) rfl ?_
    refine XS.istore X0.here hx rfl (Jvm.hb hby at_32) rfl (l' := #[.val (.int aa), .val (.int bb), .val (.int le), .val (.int pn), .val (.int mn), .val (.int p0), .val (.int (((XT.ushr aa (8 : Int32)) &&& (255 : Int32))).toUInt32.toUInt16.toUInt32.toInt32), .unset, .unset, .unset, .unset, .unset, .unset]) rfl ?_
    exact kt)
  obtain ⟨p1, e_p1⟩ : ∃ z : Int32, z = (((XT.ushr aa (8 : Int32)) &&& (255 : Int32))).toUInt32.toUInt16.toUInt32.toInt32 := ⟨_, rfl⟩
  have pre571 : ∀ τ, Steps p.tables e below (s₁.setTop (mkF m 34 #[.val (.int aa), .val (.int bb), .val (.int le), .val (.int pn), .val (.int mn), .val (.int p0), .val (.int p1), .unset, .unset, .unset, .unset, .unset, .unset] [])) τ → PS τ := by rw [e_p1]; exact pre570
  have pre572 := fun (τ : State) kt => pre571 τ (by
    show Steps p.tables e below (s₁.setTop (mkF m 34 #[.val (.int aa), .val (.int bb), .val (.int le), .val (.int pn), .val (.int mn), .val (.int p0), .val (.int p1), .unset, .unset, .unset, .unset, .unset, .unset] [])) τ
    refine XS.iloadN X0.here hx rfl (Jvm.hb hby at_34) rfl ?_
    refine XS.sipush X0.here hx rfl (Jvm.hb hby at_35) ?_
    refine XS.iand X0.here hx rfl (Jvm.hb hby at_38) rfl ?_
    refine XT.i2c X0.here hx rfl (Jvm.hb hby at_39) rfl ?_
    refine XS.istore X0.here hx rfl (Jvm.hb hby at_40) rfl (l' := #[.val (.int aa), .val (.int bb), .val (.int le), .val (.int pn), .val (.int mn), .val (.int p0), .val (.int p1), .val (.int ((bb &&& (255 : Int32))).toUInt32.toUInt16.toUInt32.toInt32), .unset, .unset, .unset, .unset, .unset]) rfl ?_
    exact kt)
  obtain ⟨m0, e_m0⟩ : ∃ z : Int32, z = ((bb &&& (255 : Int32))).toUInt32.toUInt16.toUInt32.toInt32 := ⟨_, rfl⟩
  have pre573 : ∀ τ, Steps p.tables e below (s₁.setTop (mkF m 42 #[.val (.int aa), .val (.int bb), .val (.int le), .val (.int pn), .val (.int mn), .val (.int p0), .val (.int p1), .val (.int m0), .unset, .unset, .unset, .unset, .unset] [])) τ → PS τ := by rw [e_m0]; exact pre572
  have pre574 := fun (τ : State) kt => pre573 τ (by
    show Steps p.tables e below (s₁.setTop (mkF m 42 #[.val (.int aa), .val (.int bb), .val (.int le), .val (.int pn), .val (.int mn), .val (.int p0), .val (.int p1), .val (.int m0), .unset, .unset, .unset, .unset, .unset] [])) τ
    refine XS.iloadN X0.here hx rfl (Jvm.hb hby at_42) rfl ?_
    refine XS.bipush X0.here hx rfl (Jvm.hb hby at_43) ?_
    refine XT.iushr X0.here hx rfl (Jvm.hb hby at_45) rfl ?_
    refine XS.sipush X0.here hx rfl (Jvm.hb hby at_46) ?_
    refine XS.iand X0.here hx rfl (Jvm.hb hby at_49) rfl ?_
    refine XT.i2c X0.here hx rfl (Jvm.hb hby at_50) rfl ?_
    refine XS.istore X0.here hx rfl (Jvm.hb hby at_51) rfl (l' := #[.val (.int aa), .val (.int bb), .val (.int le), .val (.int pn), .val (.int mn), .val (.int p0), .val (.int p1), .val (.int m0), .val (.int (((XT.ushr bb (8 : Int32)) &&& (255 : Int32))).toUInt32.toUInt16.toUInt32.toInt32), .unset, .unset, .unset, .unset]) rfl ?_
    exact kt)
  obtain ⟨m1, e_m1⟩ : ∃ z : Int32, z = (((XT.ushr bb (8 : Int32)) &&& (255 : Int32))).toUInt32.toUInt16.toUInt32.toInt32 := ⟨_, rfl⟩
  have pre575 : ∀ τ, Steps p.tables e below (s₁.setTop (mkF m 53 #[.val (.int aa), .val (.int bb), .val (.int le), .val (.int pn), .val (.int mn), .val (.int p0), .val (.int p1), .val (.int m0), .val (.int m1), .unset, .unset, .unset, .unset] [])) τ → PS τ := by rw [e_m1]; exact pre574
  have hp : own_012 pn := by rw [e_pn]; exact own_rem3 _
  have hm : own_012 mn := by rw [e_mn]; exact own_rem3 _
  have k0 : own_c8 p0 := by rw [e_p0]; exact own_c8_of _
  have k1 : own_c8 p1 := by rw [e_p1]; exact own_c8_of _
  have k2 : own_c8 m0 := by rw [e_m0]; exact own_c8_of _
  have k3 : own_c8 m1 := by rw [e_m1]; exact own_c8_of _
  obtain ⟨_, T576, L576, k576, X576, ⟨Nq576, Kq576, ps, pb, kp, rfl, E_ps, C_ps, F_ps, V_ps⟩, hS576, hk576, hZ, hown, C576, st576⟩ := own_statH (y := own_mn32) X0 hx hZ hown (own_W0 hw) (own_W1 hw) (by decide) (rmStr l Z a0 hw [] pn p0 p1 cz h0 n0 (Nat.le_trans Z0 KK0.1) hEL wS hp k0 k1 O2 P5 OLD0) (own_W3 hw) (own_W2 hw) 0 (by decide) (by decide) hS0 (Nat.le_trans hk0 CM0.2.1) hEL CM0.1 e0 (mkF m 58 #[.val (.int aa), .val (.int bb), .val (.int le), .val (.int pn), .val (.int mn), .val (.int p0), .val (.int p1), .val (.int m0), .val (.int m1), .unset, .unset, .unset, .unset] [(.int p1), (.int p0), (.int pn)]) rfl (by rw [hml]; rfl) [(.int pn), (.int p0), (.int p1)] [] rfl (lenOf own_pd__ICC_Ljava_lang_String_ rfl) rfl (Nat.le_refl _) (Jvm.hb hby at_58) (by decide) (by decide)
  have N576 := Fr.app N0 Nq576
  have K576 : Keep h0 T576.heap [] := KK0.trans Kq576 (all0)
  have pre577 := fun (τ : State) kt => pre575 τ (by
    show Steps p.tables e below (s₁.setTop (mkF m 53 #[.val (.int aa), .val (.int bb), .val (.int le), .val (.int pn), .val (.int mn), .val (.int p0), .val (.int p1), .val (.int m0), .val (.int m1), .unset, .unset, .unset, .unset] [])) τ
    refine XS.iloadN X0.here hx rfl (Jvm.hb hby at_53) rfl ?_
    refine XS.iload X0.here hx rfl (Jvm.hb hby at_54) rfl ?_
    refine XS.iload X0.here hx rfl (Jvm.hb hby at_56) rfl ?_
    exact st576 τ kt)
  have CM576 := CHr.refl C576.1
  have old578 := OLD0.keep Kq576 (all0)
  obtain ⟨_, T579, L579, k579, X579, ⟨Nq579, Kq579, ms, mb, km, rfl, E_ms, C_ms, F_ms, V_ms⟩, hS579, hk579, hZ, hown, C579, st579⟩ := own_statH (y := own_mn32) X576 hx hZ hown (own_W0 hw) (own_W1 hw) (by decide) (rmStr l Z a0 hw [] mn m0 m1 cz T576.heap n0 (Nat.le_trans Z0 K576.1) hEL wS hm k2 k3 O2 P5 old578) (own_W3 hw) (own_W2 hw) 0 (by decide) (by decide) hS576 (Nat.le_trans hk576 CM576.2.1) hEL CM576.1 rfl (mkF m 69 #[.val (.int aa), .val (.int bb), .val (.int le), .val (.int pn), .val (.int mn), .val (.int p0), .val (.int p1), .val (.int m0), .val (.int m1), .val (.ref ps), .unset, .unset, .unset] [(.int m1), (.int m0), (.int mn)]) rfl (by rw [hml]; rfl) [(.int mn), (.int m0), (.int m1)] [] rfl (lenOf own_pd__ICC_Ljava_lang_String_ rfl) rfl (Nat.le_refl _) (Jvm.hb hby at_69) (by decide) (by decide)
  have N579 := Fr.app N576 Nq579
  have K579 : Keep h0 T579.heap [] := K576.trans Kq579 (all0)
  have pre580 := fun (τ : State) kt => pre577 τ (by
    show Steps p.tables e below (T576.setTop (mkF m 61 #[.val (.int aa), .val (.int bb), .val (.int le), .val (.int pn), .val (.int mn), .val (.int p0), .val (.int p1), .val (.int m0), .val (.int m1), .unset, .unset, .unset, .unset] [(.ref ps)])) τ
    refine XS.astore X576.here hx rfl (Jvm.hb hby at_61) rfl rfl (l' := #[.val (.int aa), .val (.int bb), .val (.int le), .val (.int pn), .val (.int mn), .val (.int p0), .val (.int p1), .val (.int m0), .val (.int m1), .val (.ref ps), .unset, .unset, .unset]) rfl ?_
    refine XS.iload X576.here hx rfl (Jvm.hb hby at_63) rfl ?_
    refine XS.iload X576.here hx rfl (Jvm.hb hby at_65) rfl ?_
    refine XS.iload X576.here hx rfl (Jvm.hb hby at_67) rfl ?_
    exact st579 τ kt)
  have CM579 := CHr.refl C579.1
  obtain ⟨T581, h581, X581, e581, E581, A581, D581, -, st581⟩ := newO X579 hx hZ hown (own_W37 hw) (own_W38 hw) (own_W39 hw) rfl (g := (mkF m 74 #[.val (.int aa), .val (.int bb), .val (.int le), .val (.int pn), .val (.int mn), .val (.int p0), .val (.int p1), .val (.int m0), .val (.int m1), .val (.ref ps), .val (.ref ms), .unset, .unset] [])) rfl (Jvm.hb hby at_74) (by decide) (by decide)
  obtain ⟨po, g581⟩ : ∃ z, z = T579.heap.size := ⟨_, rfl⟩
  rw [← g581] at A581 D581 st581
  have f582 := E_ps.keep Kq579
  have ne_ps_po : ps ≠ po := Nat.ne_of_lt (Nat.lt_of_lt_of_le f582.lt (Nat.le_of_eq g581.symm))
  have f583 := V_ps.keep Kq579 (nin0)
  have ne_pb_po : pb ≠ po := Nat.ne_of_lt (Nat.lt_of_lt_of_le f583.lt (Nat.le_of_eq g581.symm))
  have ne_ms_po : ms ≠ po := Nat.ne_of_lt (Nat.lt_of_lt_of_le E_ms.lt (Nat.le_of_eq g581.symm))
  have ne_mb_po : mb ≠ po := Nat.ne_of_lt (Nat.lt_of_lt_of_le V_ms.lt (Nat.le_of_eq g581.symm))
  have g_po : n0 ≤ po := Nat.le_trans (Nat.le_trans Z0 K579.1) (Nat.le_of_eq g581.symm)
  have sz_po : h0.size ≤ po := Nat.le_trans K579.1 (Nat.le_of_eq g581.symm)
  have K581 : Keep h0 h581 [] := K579.ext E581
  have F_path_po : Fld Z h581 po "com/example/incomewright/incomewright/casefile/Problem" "path" "Ljava/lang/String;" .null := D581 (Or.inr (own_W51 hw)) (ty := (.object "java/lang/String")) (by decide)
  have F_message_po : Fld Z h581 po "com/example/incomewright/incomewright/casefile/Problem" "message" "Ljava/lang/String;" .null := D581 (Or.inr (own_W54 hw)) (ty := (.object "java/lang/String")) (by decide)
  have pre584 := fun (τ : State) kt => pre580 τ (by
    show Steps p.tables e below (T579.setTop (mkF m 72 #[.val (.int aa), .val (.int bb), .val (.int le), .val (.int pn), .val (.int mn), .val (.int p0), .val (.int p1), .val (.int m0), .val (.int m1), .val (.ref ps), .unset, .unset, .unset] [(.ref ms)])) τ
    refine XS.astore X579.here hx rfl (Jvm.hb hby at_72) rfl rfl (l' := #[.val (.int aa), .val (.int bb), .val (.int le), .val (.int pn), .val (.int mn), .val (.int p0), .val (.int p1), .val (.int m0), .val (.int m1), .val (.ref ps), .val (.ref ms), .unset, .unset]) rfl ?_
    exact st581 τ kt)
  have CM581 := CM579.trans (CHr.ext E581 CM579.1)
  have f585 := f582.ext E581
  have f586 := E_ms.ext E581
  obtain ⟨_, T587, L587, k587, X587, ⟨rfl, Nq587, Kq587, fp_, fm_⟩, hS587, hk587, hZ, hown, C587, st587⟩ := own_specH (y := own_mn33) (b := po) X581 hx hZ rfl hown (own_W40 hw) (own_W41 hw) (by decide) (rmPI l Z a0 hw [] po ps ms h581 n0 (Nat.le_trans Z0 K581.1) hEL wS A581 F_path_po F_message_po g_po f585 f586) (own_W42 hw) (own_W39 hw) 1 (by decide) (by decide) hS579 (Nat.le_trans hk579 CM581.2.1) hEL CM581.1 e581 (mkF m 82 #[.val (.int aa), .val (.int bb), .val (.int le), .val (.int pn), .val (.int mn), .val (.int p0), .val (.int p1), .val (.int m0), .val (.int m1), .val (.ref ps), .val (.ref ms), .unset, .unset] [(.ref ms), (.ref ps), (.ref po), (.ref po)]) rfl (by rw [hml]; rfl) [(.ref ps), (.ref ms)] [(.ref po)] rfl (lenOf own_pd__Ljava_lang_String_Ljava_lang_String__V rfl) rfl (Nat.le_refl _) (Jvm.hb hby at_82) (by decide) (by decide)
  have N587 := Fr.app N579 Nq587
  have K587 : Keep h0 T587.heap [] := K581.trans Kq587 (allS (Or.inr sz_po) (all0))
  have pre588 := fun (τ : State) kt => pre584 τ (by
    show Steps p.tables e below (T581.setTop (mkF m 77 #[.val (.int aa), .val (.int bb), .val (.int le), .val (.int pn), .val (.int mn), .val (.int p0), .val (.int p1), .val (.int m0), .val (.int m1), .val (.ref ps), .val (.ref ms), .unset, .unset] [(.ref po)])) τ
    refine XS.dup X581.here hx rfl (Jvm.hb hby at_77) rfl rfl ?_
    refine XS.aload X581.here hx rfl (Jvm.hb hby at_78) rfl rfl ?_
    refine XS.aload X581.here hx rfl (Jvm.hb hby at_80) rfl rfl ?_
    exact st587 τ kt)
  have CM587 := CHr.refl C587.1
  have f589 := A581.keep Kq587
  have f590 := f585.keep Kq587
  have f591 := F_ps.keep Kq579 (nin0)
  have f592 := f591.ext E581
  have f593 := f592.keep Kq587 (ninS ne_ps_po (nin0))
  have f594 := C_ps.keep Kq579 (nin0)
  have f595 := f594.ext E581
  have f596 := f595.keep Kq587 (ninS ne_ps_po (nin0))
  have f597 := f583.ext E581
  have f598 := f597.keep Kq587 (ninS ne_pb_po (nin0))
  have f599 := f586.keep Kq587
  have f600 := F_ms.ext E581
  have f601 := f600.keep Kq587 (ninS ne_ms_po (nin0))
  have f602 := C_ms.ext E581
  have f603 := f602.keep Kq587 (ninS ne_ms_po (nin0))
  have f604 := V_ms.ext E581
  have f605 := f604.keep Kq587 (ninS ne_mb_po (nin0))
  have old606 := old578.keep Kq579 (all0)
  have old607 := old606.ext E581
  have old608 := old607.keep Kq587 (allS g_po (all0))
  obtain ⟨_, T609, L609, k609, X609, ⟨Nq609, Kq609, rr, rb, kr, rfl, E_rr, C_rr, F_rr, V_rr⟩, hS609, hk609, hZ, hown, C609, st609⟩ := own_virtH (y := own_mn34) (b := po) X587 hx hZ hown (own_W55 hw) (own_W56 hw) (own_W58 hw) (own_W57 hw) (by decide) (rmPT l Z a0 hw [] po cz ps ms pb mb kp km pn mn (own_b p0) (own_b p1) (own_b m0) (own_b m1) T587.heap n0 (Nat.le_trans Z0 K587.1) hEL wS f589 fp_ fm_ f590 f593 f596 f598 f599 f601 f603 f605 hp hm O2 P5 old608) (own_W59 hw) (own_W39 hw) 0 (by decide) (by decide) hS587 (Nat.le_trans hk587 CM587.2.1) hEL CM587.1 f589 rfl (mkF m 85 #[.val (.int aa), .val (.int bb), .val (.int le), .val (.int pn), .val (.int mn), .val (.int p0), .val (.int p1), .val (.int m0), .val (.int m1), .val (.ref ps), .val (.ref ms), .unset, .unset] [(.ref po)]) rfl (by rw [hml]; rfl) [] [] rfl (lenOf own_pd___Ljava_lang_String_ rfl) rfl (Nat.le_refl _) (Jvm.hb hby at_85) (by decide) (by decide)
  have N609 := Fr.app N587 Nq609
  have K609 : Keep h0 T609.heap [] := K587.trans Kq609 (all0)
  have pre610 := fun (τ : State) kt => pre588 τ (st609 τ kt)
  have CM609 := CHr.refl C609.1
  have pre611 := fun (τ : State) kt => pre610 τ (by
    show Steps p.tables e below (T609.setTop (mkF m 88 #[.val (.int aa), .val (.int bb), .val (.int le), .val (.int pn), .val (.int mn), .val (.int p0), .val (.int p1), .val (.int m0), .val (.int m1), .val (.ref ps), .val (.ref ms), .unset, .unset] [(.ref rr)])) τ
    refine XS.astore X609.here hx rfl (Jvm.hb hby at_88) rfl rfl (l' := #[.val (.int aa), .val (.int bb), .val (.int le), .val (.int pn), .val (.int mn), .val (.int p0), .val (.int p1), .val (.int m0), .val (.int m1), .val (.ref ps), .val (.ref ms), .val (.ref rr), .unset]) rfl ?_
    refine XS.aload X609.here hx rfl (Jvm.hb hby at_90) rfl rfl ?_
    refine XT.ifnonnullYes X609.here hx rfl (pc0 := 92) (pc' := 97) rfl (Jvm.hb hby at_92) rfl (by decide) (by decide) ?_
    refine XS.iloadN X609.here hx rfl (Jvm.hb hby at_97) rfl ?_
    exact kt)
  obtain ⟨ex, hj612, pre612⟩ : ∃ (ex : Int32), (ex = own_tot pn mn) ∧ ∀ τ, Steps p.tables e below (T609.setTop (mkF m 112 #[.val (.int aa), .val (.int bb), .val (.int le), .val (.int pn), .val (.int mn), .val (.int p0), .val (.int p1), .val (.int m0), .val (.int m1), .val (.ref ps), .val (.ref ms), .val (.ref rr), .unset] [(.int ex)])) τ → PS τ := by
    by_cases q : pn = (0 : Int32)
    · skip
      have pre613 := fun (τ : State) kt => pre611 τ (by
        show Steps p.tables e below (T609.setTop (mkF m 98 #[.val (.int aa), .val (.int bb), .val (.int le), .val (.int pn), .val (.int mn), .val (.int p0), .val (.int p1), .val (.int m0), .val (.int m1), .val (.ref ps), .val (.ref ms), .val (.ref rr), .unset] [(.int pn)])) τ
        refine XS.ifNo X609.here hx rfl (Jvm.hb hby at_98) rfl ((if0 _ _).trans (teq q).2) ?_
        refine XS.iload X609.here hx rfl (Jvm.hb hby at_101) rfl ?_
        refine XS.goto X609.here hx rfl (pc0 := 103) (pc' := 112) rfl (Jvm.hb hby at_103) (by decide) (by decide) ?_
        exact kt)
      exact ⟨mn, (if_pos q).symm, pre613⟩
    · skip
      have pre614 := fun (τ : State) kt => pre611 τ (by
        show Steps p.tables e below (T609.setTop (mkF m 98 #[.val (.int aa), .val (.int bb), .val (.int le), .val (.int pn), .val (.int mn), .val (.int p0), .val (.int p1), .val (.int m0), .val (.int m1), .val (.ref ps), .val (.ref ms), .val (.ref rr), .unset] [(.int pn)])) τ
        refine XS.ifYes X609.here hx rfl (pc0 := 98) (pc' := 106) rfl (Jvm.hb hby at_98) rfl ((if0 _ _).trans (feq q).2) (by decide) (by decide) ?_
        refine XS.iloadN X609.here hx rfl (Jvm.hb hby at_106) rfl ?_
        refine XS.iconst X609.here hx rfl (Jvm.hb hby at_107) ?_
        refine XS.iadd X609.here hx rfl (Jvm.hb hby at_108) rfl ?_
        refine XS.iload X609.here hx rfl (Jvm.hb hby at_109) rfl ?_
        refine XS.iadd X609.here hx rfl (Jvm.hb hby at_111) rfl ?_
        exact kt)
      exact ⟨((pn + (2 : Int32)) + mn), (if_neg q).symm, pre614⟩
  have V_r2 := V_rr
  rw [← hj612] at V_r2
  have old615 := old608.keep Kq609 (all0)
  obtain ⟨_, T616, L616, X616, ⟨rfl, Nq616, eq616⟩, st616⟩ := own_virt (y := own_mn3) (b := rr) X609 hx hZ hown (own_W176 hw) (own_W94 hw) (own_W96 hw) (own_W95 hw) (by decide) (rmLen l Z a0 hw [] rr cz rb kr ex _ T609.heap n0 (Nat.le_trans Z0 K609.1) E_rr F_rr C_rr V_r2 O2 P5 old615) (own_W97 hw) (own_W6 hw) 0 (by decide) (by decide) E_rr rfl (mkF m 116 #[.val (.int aa), .val (.int bb), .val (.int le), .val (.int pn), .val (.int mn), .val (.int p0), .val (.int p1), .val (.int m0), .val (.int m1), .val (.ref ps), .val (.ref ms), .val (.ref rr), .val (.int ex)] [(.ref rr)]) rfl (by rw [hml]; rfl) [] [] rfl (lenOf own_pd___I rfl) rfl (Nat.le_refl _) (Jvm.hb hby at_116) (by decide) (by decide)
  have N616 := Fr.app N609 Nq616
  have pre617 := fun (τ : State) kt => pre612 τ (by
    show Steps p.tables e below (T609.setTop (mkF m 112 #[.val (.int aa), .val (.int bb), .val (.int le), .val (.int pn), .val (.int mn), .val (.int p0), .val (.int p1), .val (.int m0), .val (.int m1), .val (.ref ps), .val (.ref ms), .val (.ref rr), .unset] [(.int ex)])) τ
    refine XS.istore X609.here hx rfl (Jvm.hb hby at_112) rfl (l' := #[.val (.int aa), .val (.int bb), .val (.int le), .val (.int pn), .val (.int mn), .val (.int p0), .val (.int p1), .val (.int m0), .val (.int m1), .val (.ref ps), .val (.ref ms), .val (.ref rr), .val (.int ex)]) rfl ?_
    refine XS.aload X609.here hx rfl (Jvm.hb hby at_114) rfl rfl ?_
    exact st616 τ kt)
  obtain ⟨_, T618, L618, X618, ⟨rfl, Nq618, eq618⟩, st618⟩ := own_stat (y := own_mn35) X616 hx hZ hown (own_W177 hw) (own_W178 hw) (by decide) (rmAt0 l Z a0 hw [] rr (0 : Int32) ex pn p0 p1 m0 m1 cz rb kr vf T609.heap n0 (Nat.le_trans Z0 K609.1) rfl E_rr F_rr C_rr V_r2 k0 k1 k2 k3 O3 q_vf O2 P5 old615) (own_W179 hw) (own_W2 hw) 0 (by decide) (by decide) eq616 (mkF m 140 #[.val (.int aa), .val (.int bb), .val (.int le), .val (.int pn), .val (.int mn), .val (.int p0), .val (.int p1), .val (.int m0), .val (.int m1), .val (.ref ps), .val (.ref ms), .val (.ref rr), .val (.int ex)] [(.int m1), (.int m0), (.int p1), (.int p0), (.int pn), (.int ex), (.int (0 : Int32)), (.ref rr)]) rfl (by rw [hml]; rfl) [(.ref rr), (.int (0 : Int32)), (.int ex), (.int pn), (.int p0), (.int p1), (.int m0), (.int m1)] [] rfl (lenOf own_pd__Ljava_lang_String_IIICCCC_Z rfl) rfl (Nat.le_refl _) (Jvm.hb hby at_140) (by decide) (by decide)
  have N618 := Fr.app N616 Nq618
  have pre619 := fun (τ : State) kt => pre617 τ (by
    show Steps p.tables e below (T616.setTop (mkF m 119 #[.val (.int aa), .val (.int bb), .val (.int le), .val (.int pn), .val (.int mn), .val (.int p0), .val (.int p1), .val (.int m0), .val (.int m1), .val (.ref ps), .val (.ref ms), .val (.ref rr), .val (.int ex)] [(.int ex)])) τ
    refine XS.iload X616.here hx rfl (Jvm.hb hby at_119) rfl ?_
    refine XS.icmpYes X616.here hx rfl (pc0 := 121) (pc' := 126) rfl (Jvm.hb hby at_121) rfl (teq rfl).1 (by decide) (by decide) ?_
    refine XS.aload X616.here hx rfl (Jvm.hb hby at_126) rfl rfl ?_
    refine XS.iconst X616.here hx rfl (Jvm.hb hby at_128) ?_
    refine XS.iload X616.here hx rfl (Jvm.hb hby at_129) rfl ?_
    refine XS.iloadN X616.here hx rfl (Jvm.hb hby at_131) rfl ?_
    refine XS.iload X616.here hx rfl (Jvm.hb hby at_132) rfl ?_
    refine XS.iload X616.here hx rfl (Jvm.hb hby at_134) rfl ?_
    refine XS.iload X616.here hx rfl (Jvm.hb hby at_136) rfl ?_
    refine XS.iload X616.here hx rfl (Jvm.hb hby at_138) rfl ?_
    exact st618 τ kt)
  obtain ⟨_, T620, L620, X620, ⟨rfl, Nq620, eq620⟩, st620⟩ := own_stat (y := own_mn35) X618 hx hZ hown (own_W177 hw) (own_W178 hw) (by decide) (rmAt1 l Z a0 hw [] rr (1 : Int32) ex pn p0 p1 m0 m1 cz rb kr vf T609.heap n0 (Nat.le_trans Z0 K609.1) rfl E_rr F_rr C_rr V_r2 k0 k1 k2 k3 O3 q_vf O2 P5 old615) (own_W179 hw) (own_W2 hw) 0 (by decide) (by decide) eq618 (mkF m 160 #[.val (.int aa), .val (.int bb), .val (.int le), .val (.int pn), .val (.int mn), .val (.int p0), .val (.int p1), .val (.int m0), .val (.int m1), .val (.ref ps), .val (.ref ms), .val (.ref rr), .val (.int ex)] [(.int m1), (.int m0), (.int p1), (.int p0), (.int pn), (.int ex), (.int (1 : Int32)), (.ref rr)]) rfl (by rw [hml]; rfl) [(.ref rr), (.int (1 : Int32)), (.int ex), (.int pn), (.int p0), (.int p1), (.int m0), (.int m1)] [] rfl (lenOf own_pd__Ljava_lang_String_IIICCCC_Z rfl) rfl (Nat.le_refl _) (Jvm.hb hby at_160) (by decide) (by decide)
  have N620 := Fr.app N618 Nq620
  have pre621 := fun (τ : State) kt => pre619 τ (by
    show Steps p.tables e below (T618.setTop (mkF m 143 #[.val (.int aa), .val (.int bb), .val (.int le), .val (.int pn), .val (.int mn), .val (.int p0), .val (.int p1), .val (.int m0), .val (.int m1), .val (.ref ps), .val (.ref ms), .val (.ref rr), .val (.int ex)] [(.int (1 : Int32))])) τ
    refine XS.ifNo X618.here hx rfl (Jvm.hb hby at_143) rfl ((if0 _ _).trans (feq (by decide)).1) ?_
    refine XS.aload X618.here hx rfl (Jvm.hb hby at_146) rfl rfl ?_
    refine XS.iconst X618.here hx rfl (Jvm.hb hby at_148) ?_
    refine XS.iload X618.here hx rfl (Jvm.hb hby at_149) rfl ?_
    refine XS.iloadN X618.here hx rfl (Jvm.hb hby at_151) rfl ?_
    refine XS.iload X618.here hx rfl (Jvm.hb hby at_152) rfl ?_
    refine XS.iload X618.here hx rfl (Jvm.hb hby at_154) rfl ?_
    refine XS.iload X618.here hx rfl (Jvm.hb hby at_156) rfl ?_
    refine XS.iload X618.here hx rfl (Jvm.hb hby at_158) rfl ?_
    exact st620 τ kt)
  obtain ⟨_, T622, L622, X622, ⟨rfl, Nq622, eq622⟩, st622⟩ := own_stat (y := own_mn35) X620 hx hZ hown (own_W177 hw) (own_W178 hw) (by decide) (rmAt2 l Z a0 hw [] rr (2 : Int32) ex pn p0 p1 m0 m1 cz rb kr vf T609.heap n0 (Nat.le_trans Z0 K609.1) rfl E_rr F_rr C_rr V_r2 k0 k1 k2 k3 O3 q_vf O2 P5 old615) (own_W179 hw) (own_W2 hw) 0 (by decide) (by decide) eq620 (mkF m 180 #[.val (.int aa), .val (.int bb), .val (.int le), .val (.int pn), .val (.int mn), .val (.int p0), .val (.int p1), .val (.int m0), .val (.int m1), .val (.ref ps), .val (.ref ms), .val (.ref rr), .val (.int ex)] [(.int m1), (.int m0), (.int p1), (.int p0), (.int pn), (.int ex), (.int (2 : Int32)), (.ref rr)]) rfl (by rw [hml]; rfl) [(.ref rr), (.int (2 : Int32)), (.int ex), (.int pn), (.int p0), (.int p1), (.int m0), (.int m1)] [] rfl (lenOf own_pd__Ljava_lang_String_IIICCCC_Z rfl) rfl (Nat.le_refl _) (Jvm.hb hby at_180) (by decide) (by decide)
  have N622 := Fr.app N620 Nq622
  have pre623 := fun (τ : State) kt => pre621 τ (by
    show Steps p.tables e below (T620.setTop (mkF m 163 #[.val (.int aa), .val (.int bb), .val (.int le), .val (.int pn), .val (.int mn), .val (.int p0), .val (.int p1), .val (.int m0), .val (.int m1), .val (.ref ps), .val (.ref ms), .val (.ref rr), .val (.int ex)] [(.int (1 : Int32))])) τ
    refine XS.ifNo X620.here hx rfl (Jvm.hb hby at_163) rfl ((if0 _ _).trans (feq (by decide)).1) ?_
    refine XS.aload X620.here hx rfl (Jvm.hb hby at_166) rfl rfl ?_
    refine XS.iconst X620.here hx rfl (Jvm.hb hby at_168) ?_
    refine XS.iload X620.here hx rfl (Jvm.hb hby at_169) rfl ?_
    refine XS.iloadN X620.here hx rfl (Jvm.hb hby at_171) rfl ?_
    refine XS.iload X620.here hx rfl (Jvm.hb hby at_172) rfl ?_
    refine XS.iload X620.here hx rfl (Jvm.hb hby at_174) rfl ?_
    refine XS.iload X620.here hx rfl (Jvm.hb hby at_176) rfl ?_
    refine XS.iload X620.here hx rfl (Jvm.hb hby at_178) rfl ?_
    exact st622 τ kt)
  obtain ⟨_, T624, L624, X624, ⟨rfl, Nq624, eq624⟩, st624⟩ := own_stat (y := own_mn35) X622 hx hZ hown (own_W177 hw) (own_W178 hw) (by decide) (rmAt3 l Z a0 hw [] rr (3 : Int32) ex pn p0 p1 m0 m1 cz rb kr vf T609.heap n0 (Nat.le_trans Z0 K609.1) rfl E_rr F_rr C_rr V_r2 k0 k1 k2 k3 O3 q_vf O2 P5 old615) (own_W179 hw) (own_W2 hw) 0 (by decide) (by decide) eq622 (mkF m 200 #[.val (.int aa), .val (.int bb), .val (.int le), .val (.int pn), .val (.int mn), .val (.int p0), .val (.int p1), .val (.int m0), .val (.int m1), .val (.ref ps), .val (.ref ms), .val (.ref rr), .val (.int ex)] [(.int m1), (.int m0), (.int p1), (.int p0), (.int pn), (.int ex), (.int (3 : Int32)), (.ref rr)]) rfl (by rw [hml]; rfl) [(.ref rr), (.int (3 : Int32)), (.int ex), (.int pn), (.int p0), (.int p1), (.int m0), (.int m1)] [] rfl (lenOf own_pd__Ljava_lang_String_IIICCCC_Z rfl) rfl (Nat.le_refl _) (Jvm.hb hby at_200) (by decide) (by decide)
  have N624 := Fr.app N622 Nq624
  have pre625 := fun (τ : State) kt => pre623 τ (by
    show Steps p.tables e below (T622.setTop (mkF m 183 #[.val (.int aa), .val (.int bb), .val (.int le), .val (.int pn), .val (.int mn), .val (.int p0), .val (.int p1), .val (.int m0), .val (.int m1), .val (.ref ps), .val (.ref ms), .val (.ref rr), .val (.int ex)] [(.int (1 : Int32))])) τ
    refine XS.ifNo X622.here hx rfl (Jvm.hb hby at_183) rfl ((if0 _ _).trans (feq (by decide)).1) ?_
    refine XS.aload X622.here hx rfl (Jvm.hb hby at_186) rfl rfl ?_
    refine XS.iconst X622.here hx rfl (Jvm.hb hby at_188) ?_
    refine XS.iload X622.here hx rfl (Jvm.hb hby at_189) rfl ?_
    refine XS.iloadN X622.here hx rfl (Jvm.hb hby at_191) rfl ?_
    refine XS.iload X622.here hx rfl (Jvm.hb hby at_192) rfl ?_
    refine XS.iload X622.here hx rfl (Jvm.hb hby at_194) rfl ?_
    refine XS.iload X622.here hx rfl (Jvm.hb hby at_196) rfl ?_
    refine XS.iload X622.here hx rfl (Jvm.hb hby at_198) rfl ?_
    exact st624 τ kt)
  obtain ⟨_, T626, L626, X626, ⟨rfl, Nq626, eq626⟩, st626⟩ := own_stat (y := own_mn35) X624 hx hZ hown (own_W177 hw) (own_W178 hw) (by decide) (rmAt4 l Z a0 hw [] rr (4 : Int32) ex pn p0 p1 m0 m1 cz rb kr vf T609.heap n0 (Nat.le_trans Z0 K609.1) rfl E_rr F_rr C_rr V_r2 k0 k1 k2 k3 O3 q_vf O2 P5 old615) (own_W179 hw) (own_W2 hw) 0 (by decide) (by decide) eq624 (mkF m 220 #[.val (.int aa), .val (.int bb), .val (.int le), .val (.int pn), .val (.int mn), .val (.int p0), .val (.int p1), .val (.int m0), .val (.int m1), .val (.ref ps), .val (.ref ms), .val (.ref rr), .val (.int ex)] [(.int m1), (.int m0), (.int p1), (.int p0), (.int pn), (.int ex), (.int (4 : Int32)), (.ref rr)]) rfl (by rw [hml]; rfl) [(.ref rr), (.int (4 : Int32)), (.int ex), (.int pn), (.int p0), (.int p1), (.int m0), (.int m1)] [] rfl (lenOf own_pd__Ljava_lang_String_IIICCCC_Z rfl) rfl (Nat.le_refl _) (Jvm.hb hby at_220) (by decide) (by decide)
  have N626 := Fr.app N624 Nq626
  have pre627 := fun (τ : State) kt => pre625 τ (by
    show Steps p.tables e below (T624.setTop (mkF m 203 #[.val (.int aa), .val (.int bb), .val (.int le), .val (.int pn), .val (.int mn), .val (.int p0), .val (.int p1), .val (.int m0), .val (.int m1), .val (.ref ps), .val (.ref ms), .val (.ref rr), .val (.int ex)] [(.int (1 : Int32))])) τ
    refine XS.ifNo X624.here hx rfl (Jvm.hb hby at_203) rfl ((if0 _ _).trans (feq (by decide)).1) ?_
    refine XS.aload X624.here hx rfl (Jvm.hb hby at_206) rfl rfl ?_
    refine XS.iconst X624.here hx rfl (Jvm.hb hby at_208) ?_
    refine XS.iload X624.here hx rfl (Jvm.hb hby at_209) rfl ?_
    refine XS.iloadN X624.here hx rfl (Jvm.hb hby at_211) rfl ?_
    refine XS.iload X624.here hx rfl (Jvm.hb hby at_212) rfl ?_
    refine XS.iload X624.here hx rfl (Jvm.hb hby at_214) rfl ?_
    refine XS.iload X624.here hx rfl (Jvm.hb hby at_216) rfl ?_
    refine XS.iload X624.here hx rfl (Jvm.hb hby at_218) rfl ?_
    exact st626 τ kt)
  obtain ⟨_, T628, L628, X628, ⟨rfl, Nq628, eq628⟩, st628⟩ := own_stat (y := own_mn35) X626 hx hZ hown (own_W177 hw) (own_W178 hw) (by decide) (rmAt5 l Z a0 hw [] rr (5 : Int32) ex pn p0 p1 m0 m1 cz rb kr vf T609.heap n0 (Nat.le_trans Z0 K609.1) rfl E_rr F_rr C_rr V_r2 k0 k1 k2 k3 O3 q_vf O2 P5 old615) (own_W179 hw) (own_W2 hw) 0 (by decide) (by decide) eq626 (mkF m 240 #[.val (.int aa), .val (.int bb), .val (.int le), .val (.int pn), .val (.int mn), .val (.int p0), .val (.int p1), .val (.int m0), .val (.int m1), .val (.ref ps), .val (.ref ms), .val (.ref rr), .val (.int ex)] [(.int m1), (.int m0), (.int p1), (.int p0), (.int pn), (.int ex), (.int (5 : Int32)), (.ref rr)]) rfl (by rw [hml]; rfl) [(.ref rr), (.int (5 : Int32)), (.int ex), (.int pn), (.int p0), (.int p1), (.int m0), (.int m1)] [] rfl (lenOf own_pd__Ljava_lang_String_IIICCCC_Z rfl) rfl (Nat.le_refl _) (Jvm.hb hby at_240) (by decide) (by decide)
  have N628 := Fr.app N626 Nq628
  have pre629 := fun (τ : State) kt => pre627 τ (by
    show Steps p.tables e below (T626.setTop (mkF m 223 #[.val (.int aa), .val (.int bb), .val (.int le), .val (.int pn), .val (.int mn), .val (.int p0), .val (.int p1), .val (.int m0), .val (.int m1), .val (.ref ps), .val (.ref ms), .val (.ref rr), .val (.int ex)] [(.int (1 : Int32))])) τ
    refine XS.ifNo X626.here hx rfl (Jvm.hb hby at_223) rfl ((if0 _ _).trans (feq (by decide)).1) ?_
    refine XS.aload X626.here hx rfl (Jvm.hb hby at_226) rfl rfl ?_
    refine XS.iconst X626.here hx rfl (Jvm.hb hby at_228) ?_
    refine XS.iload X626.here hx rfl (Jvm.hb hby at_229) rfl ?_
    refine XS.iloadN X626.here hx rfl (Jvm.hb hby at_231) rfl ?_
    refine XS.iload X626.here hx rfl (Jvm.hb hby at_232) rfl ?_
    refine XS.iload X626.here hx rfl (Jvm.hb hby at_234) rfl ?_
    refine XS.iload X626.here hx rfl (Jvm.hb hby at_236) rfl ?_
    refine XS.iload X626.here hx rfl (Jvm.hb hby at_238) rfl ?_
    exact st628 τ kt)
  have pre630 := fun (τ : State) kt => pre629 τ (by
    show Steps p.tables e below (T628.setTop (mkF m 243 #[.val (.int aa), .val (.int bb), .val (.int le), .val (.int pn), .val (.int mn), .val (.int p0), .val (.int p1), .val (.int m0), .val (.int m1), .val (.ref ps), .val (.ref ms), .val (.ref rr), .val (.int ex)] [(.int (1 : Int32))])) τ
    refine XS.ifNo X628.here hx rfl (Jvm.hb hby at_243) rfl ((if0 _ _).trans (feq (by decide)).1) ?_
    refine XS.iconst X628.here hx rfl (Jvm.hb hby at_246) ?_
    refine XS.goto X628.here hx rfl (pc0 := 247) (pc' := 251) rfl (Jvm.hb hby at_247) (by decide) (by decide) ?_
    exact kt)
  have eE : T628.heap = T609.heap := eq628
  obtain ⟨fs, hrL, hrun, hended, hRE⟩ := X628.leaveW hS609 (Nat.le_trans (Nat.le_trans hk609 CM609.2.1) (Nat.le_of_eq (congrArg Array.size eE.symm))) (v := some (.int (1 : Int32))) (fun h => by rw [Bd.returns] at h; cases h)
  refine ⟨_, _, cast (congrFun hPS _) (pre630 _ ?_), hrun, hended, _, _, rfl, ?_, hRE.1, hRE.2.1, hRE.2.2.1, hRE.2.2.2.mono (by decide) (by decide)⟩
  · show Steps p.tables e below (T628.setTop (mkF m 251 #[.val (.int aa), .val (.int bb), .val (.int le), .val (.int pn), .val (.int mn), .val (.int p0), .val (.int p1), .val (.int m0), .val (.int m1), .val (.ref ps), .val (.ref ms), .val (.ref rr), .val (.int ex)] [(.int (1 : Int32))])) _
    exact retN X628 hx (t := .boolean) Bd.returns (by simp) (Jvm.hb hby at_251) hrL
  · show Q0 n0 _ T628.heap _
    exact ⟨rfl, N628⟩
set_option maxRecDepth 65536 in
set_option maxHeartbeats 40000000 in
theorem comes_1 {Post : Tables → Env → Array Value → State → Outcome → State → Prop} (hpost : ∀ tb e args s v u, (limb_1_1.after args s (.returned v) u = true ∧ limb_1_2.after args s (.returned v) u = true ∧ True) → FramedW s (.returned v) u (Jvm.fieldLocs frame_1_writes args s ++ Jvm.arrayLocs frame_1_arrays args s ++ Jvm.staticLocs frame_1_statics s) 40 4288 → Post tb e args s (.returned v) u) :
    ArmFor flags0 classFile x code maxLocals ret World_1 tables_1 room_1 Calls_1 rest_1 Pre_1 Post := by
  intro l hfl _ _ p e ha hc hk s m args below hf hA hF happ hP
  obtain ⟨hcalls, hrest, hpre⟩ := hP
  obtain ⟨-, -, -, hnamed, -, -, -, hat⟩ := (Spec.applies_iff hf).mp happ
  obtain ⟨hg, hn⟩ := and_e (Cond.before_iff.mp (show (Jvm.Cond.and given_1 narrow_1).before args s = true from hpre))
  obtain ⟨g1, g2⟩ := and_e hg
  obtain ⟨g3, g4⟩ := and_e g2
  obtain ⟨g5, g6⟩ := and_e g4
  obtain ⟨w0, w1, w2, rfl⟩ : ∃ w0 w1 w2 : Value, args = #[w0, w1, w2] := by
    have hs : args.size = 3 := by simpa [Cond.value, given_1] using g1
    obtain ⟨L⟩ := args
    match L, hs with
    | [w0, w1, w2], _ => exact ⟨w0, w1, w2, rfl⟩
  have hw := fun d (hd : d ∈ tables_1) => atoms_spec (ws := Jvm.Cond.code x code maxLocals ret :: tables_1) hat d (List.mem_cons_of_mem _ hd)
  obtain ⟨hsets, hown0⟩ := atoms_of _ (rest_1_c_eq ▸ (show rest_1_c.before _ s = true from hrest))
  have hr0 := Cond.before_iff.mp hown0
  obtain ⟨i0, ei0⟩ := is_v g3
  obtain rfl : w0 = (.int i0) := Option.some.inj ei0
  obtain ⟨i1, ei1⟩ := is_v g5
  obtain rfl : w1 = (.int i1) := Option.some.inj ei1
  obtain ⟨i2, ei2⟩ := is_v g6
  obtain rfl : w2 = (.int i2) := Option.some.inj ei2
  have n5 := not_v (Cond.before_iff.mp (hsets _ (List.mem_of_getElem? (i := 2) rfl)))
  obtain ⟨i11, e10⟩ := is_v (Cond.before_iff.mp (hsets _ (List.mem_of_getElem? (i := 1) rfl)))
  have S12 : Sta s s.heap "java/lang/String" "COMPACT_STRINGS" "Z" (.int i11) := Sta.start e10 (Or.inl (hsets _ (List.mem_of_getElem? (i := 0) rfl)))
  have c17 : ¬ (i11 = (0 : Int32)) := gotF (Cond.eq_ints e10 (Term.int_eval (0))) n5
  obtain ⟨vF, eF, qF0⟩ := isR_v (Cond.before_iff.mp (hsets _ (List.mem_of_getElem? (i := 8) rfl)))
  have qF := own_isr qF0
  have SF : Sta s s.heap "jdk/internal/util/Preconditions" "SIOOBE_FORMATTER" "Ljava/util/function/BiFunction;" vF := Sta.start eF (Or.inl (hsets _ (List.mem_of_getElem? (i := 7) rfl)))
  have hEL : EW s _ EL := EW.cons (own_W44 hw) (by decide) (EW.cons (own_W52 hw) (by decide) (EW.cons (own_W130 hw) (by decide) (EW.cons (own_W34 hw) (by decide) EW.nil)))
  have wS : ∀ a ∈ Bundle.stringAtoms, a.before _ s = true := fun d hd => hw d ((by decide +kernel : ∀ d ∈ Bundle.stringAtoms, d ∈ tables_1) d hd)
  have CV : CHv s EL s.vm s.heap := CHv.start hEL (fun p hp => hcalls.1 p hp) (hsets _ (List.mem_of_getElem? (i := 2) rfl)) (own_W23 hw) (own_W5 hw)
  obtain ⟨n, o, h1, h2, h3, _, L, rfl, ⟨rfl, N⟩, hq⟩ := rm0 l s _ hw tables_1 i0 i1 i2 i11 vF s.heap s.heap.size (Nat.le_refl _) hEL wS S12 c17 (Old.start s) SF qF p e ha hc hk s m _ below hf ((Spec.applies_iff_loose hf).mp happ).1 ⟨rfl, State.Warmed39.refl s, rfl, CV⟩ trivial
  refine ⟨n, _, h1, h2, h3, hpost _ _ _ _ _ _ ⟨Cond.after_iff.mpr rfl, Cond.after_iff.mpr (eq_i res_at (Term.int_eval (1)) rfl), trivial⟩ ⟨hq.1, hq.2.1, hq.2.2.1, (hq.2.2.2.sift fun y hy => Or.inr (N y hy)).mono (by decide) (by decide)⟩⟩
theorem main_1_1 : Claimed_1_1 := comes_1 fun _ _ _ _ _ _ h hF => ⟨h.1, hF⟩
theorem main_1_2 : Claimed_1_2 := comes_1 fun _ _ _ _ _ _ h hF => ⟨h.2.1, hF⟩
end Jvm.Pilot.@@N@@
namespace Jvm.Pilot.@@N@@
open Jvm Jvm.ClassFile Sem Op Lib Jvm.Free Jvm.Stand Jvm.Pilot.@@N@@.Jvm.D
/-! MADE BY PROGRAM (witnessworld.py) out of the Statement's table words and the real class files: 27 classes; the members and pool entries that the words name. The judged class is class 1, her method 5. -/
namespace start1
open Jvm.ClassFile
def u (s : String) : CpInfo := .utf8 (stringToUtf16 s)
/-- a pool by its gaps: so many unusable entries, then the entry; so many at the end -/
def gap : Nat → List CpInfo → List CpInfo
  | 0, r => r
  | n + 1, r => .unusable :: gap n r
def poolList (es : List (Nat × CpInfo)) (last : Nat) : List CpInfo := es.foldr (fun e r => gap e.1 (e.2 :: r)) (gap last [])
def pool (es : List (Nat × CpInfo)) (last : Nat) : Array CpInfo := ⟨poolList es last⟩
def fileOf (pool : Array CpInfo) (this : Nat) (attrs : Array Attribute := #[]) (ms : Array MethodInfo := #[]) (fl : Nat := 33) (sup : Nat := 0) (ifs : Array Nat := #[]) (fds : Array FieldInfo := #[]) : ClassFile where
  minorVersion := 0
  majorVersion := 65
  constantPool := pool
  accessFlags := fl
  thisClass := this
  superClass := sup
  interfaces := ifs
  fields := fds
  methods := ms
  attributes := attrs
def plain (name : String) (sup : Option ClassId) : Class where
  name := name
  kind := .ordinary
  loader := none
  accessFlags := 33
  super := sup
  interfaces := #[]
  cf := none
  fields := #[]
  methods := #[]
  instanceTypes := #[]
  staticTypes := #[]
  resolved := #[]
  callSites := []
  init := .initialized
  statics := none
  mirror := none

def pool0 : Array CpInfo := pool [(5, u "<init>"), (0, u "()V"), (1, .class_ 10), (1, u "java/lang/Object")] 113

def k0c0 : Code := { maxStack := 0, maxLocals := 1, code := object_method_1_code, exceptionTable := #[], attributes := #[] }
def k0m0 : Method := { name := "<init>", desc := "()V", sig := { parameters := [], returnType := none }, accessFlags := 1, code := some k0c0 }
/-- java/lang/Object -/
def k0 : Class := { plain "java/lang/Object" none with
  accessFlags := 33
  interfaces := #[]
  cf := some (fileOf pool0 8 #[] #[{ accessFlags := 1, nameIndex := 5, descriptorIndex := 6, attributes := #[] }] 33 0 #[] #[])
  fields := #[]
  methods := #[k0m0]
  instanceTypes := #[]
  staticTypes := #[]
  resolved := Array.replicate 124 none
  statics := none }

def pool1 : Array CpInfo := pool [(2, .class_ 4), (1, u "java/lang/Object"), (0, u "<init>"), (0, u "()V"), (0, .class_ 8), (0, u "java/lang/String"), (0, .methodref 7 10), (0, .nameAndType 5 11), (0, u "([C)V"), (0, .methodref 13 14), (0, .class_ 15), (0, .nameAndType 16 17), (0, u "com/example/incomewright/incomewright/casefile/ProblemToStringPinLaw"), (0, u "pick"), (0, u "(ICC)C"), (0, .methodref 7 19), (0, .nameAndType 20 21), (0, u "charAt"), (0, u "(I)C"), (0, .methodref 13 23), (0, .nameAndType 24 25), (0, u "expChar"), (0, u "(IICCCC)C"), (0, .methodref 13 27), (0, .nameAndType 28 29), (0, u "str"), (0, u "(ICC)Ljava/lang/String;"), (0, .class_ 31), (0, u "com/example/incomewright/incomewright/casefile/Problem"), (0, .methodref 30 33), (0, .nameAndType 5 34), (0, u "(Ljava/lang/String;Ljava/lang/String;)V"), (0, .methodref 30 36), (0, .nameAndType 37 38), (0, u "toString"), (0, u "()Ljava/lang/String;"), (0, .methodref 7 40), (0, .nameAndType 41 42), (0, u "length"), (0, u "()I"), (0, .methodref 13 44), (0, .nameAndType 45 46), (0, u "at"), (0, u "(Ljava/lang/String;IIICCCC)Z"), (3, u "law"), (0, u "(III)Z")] 2

def k1m0 : Method := { name := "<init>", desc := "()V", sig := { parameters := [], returnType := none }, accessFlags := 1, code := none }
def k1c1 : Code := { maxStack := 6, maxLocals := 3, code := method_2_code, exceptionTable := #[], attributes := #[] }
def k1m1 : Method := { name := "str", desc := "(ICC)Ljava/lang/String;", sig := { parameters := [.int, .char, .char], returnType := some (.object "java/lang/String") }, accessFlags := 10, code := some k1c1 }
def k1c2 : Code := { maxStack := 1, maxLocals := 3, code := method_3_code, exceptionTable := #[], attributes := #[] }
def k1m2 : Method := { name := "pick", desc := "(ICC)C", sig := { parameters := [.int, .char, .char], returnType := some .char }, accessFlags := 10, code := some k1c2 }
def k1c3 : Code := { maxStack := 3, maxLocals := 6, code := method_4_code, exceptionTable := #[], attributes := #[] }
def k1m3 : Method := { name := "expChar", desc := "(IICCCC)C", sig := { parameters := [.int, .int, .char, .char, .char, .char], returnType := some .char }, accessFlags := 10, code := some k1c3 }
def k1c4 : Code := { maxStack := 7, maxLocals := 8, code := method_5_code, exceptionTable := #[], attributes := #[] }
def k1m4 : Method := { name := "at", desc := "(Ljava/lang/String;IIICCCC)Z", sig := { parameters := [(.object "java/lang/String"), .int, .int, .int, .char, .char, .char, .char], returnType := some .boolean }, accessFlags := 10, code := some k1c4 }
def k1c5 : Code := { maxStack := 8, maxLocals := 13, code := code, exceptionTable := #[], attributes := #[] }
def k1m5 : Method := { name := "law", desc := "(III)Z", sig := { parameters := [.int, .int, .int], returnType := some .boolean }, accessFlags := 9, code := some k1c5 }
/-- com/example/incomewright/incomewright/casefile/ProblemToStringPinLaw -/
def k1 : Class := { plain "com/example/incomewright/incomewright/casefile/ProblemToStringPinLaw" (some 0) with
  accessFlags := 49
  interfaces := #[]
  cf := some (fileOf pool1 13 #[] #[{ accessFlags := 1, nameIndex := 5, descriptorIndex := 6, attributes := #[] }, { accessFlags := 10, nameIndex := 28, descriptorIndex := 29, attributes := #[] }, { accessFlags := 10, nameIndex := 16, descriptorIndex := 17, attributes := #[] }, { accessFlags := 10, nameIndex := 24, descriptorIndex := 25, attributes := #[] }, { accessFlags := 10, nameIndex := 45, descriptorIndex := 46, attributes := #[] }, { accessFlags := 9, nameIndex := 50, descriptorIndex := 51, attributes := #[] }] 49 2 #[] #[])
  fields := #[]
  methods := #[k1m0, k1m1, k1m2, k1m3, k1m4, k1m5]
  instanceTypes := #[]
  staticTypes := #[]
  resolved := Array.replicate 54 none
  statics := none }

def pool2 : Array CpInfo := pool [(1, .class_ 2), (0, u "java/io/Serializable"), (0, .class_ 4), (0, u "java/lang/Object")] 2

/-- java/io/Serializable -/
def k2 : Class := { plain "java/io/Serializable" (some 0) with
  accessFlags := 1537
  interfaces := #[]
  cf := some (fileOf pool2 1 #[] #[] 1537 3 #[] #[])
  fields := #[]
  methods := #[]
  instanceTypes := #[]
  staticTypes := #[]
  resolved := Array.replicate 7 none
  statics := none }

def pool3 : Array CpInfo := pool [(1, .class_ 2), (0, u "java/lang/Comparable"), (0, .class_ 4), (0, u "java/lang/Object")] 7

/-- java/lang/Comparable -/
def k3 : Class := { plain "java/lang/Comparable" (some 0) with
  accessFlags := 1537
  interfaces := #[]
  cf := some (fileOf pool3 1 #[] #[] 1537 3 #[] #[])
  fields := #[]
  methods := #[]
  instanceTypes := #[]
  staticTypes := #[]
  resolved := Array.replicate 12 none
  statics := none }

def pool4 : Array CpInfo := pool [(2, .class_ 4), (1, u "java/lang/CharSequence"), (42, .class_ 48), (0, u "java/lang/CharSequence$1CodePointIterator"), (10, .class_ 60), (0, u "java/lang/CharSequence$1CharIterator"), (5, .class_ 67), (0, u "java/lang/Object")] 63

/-- java/lang/CharSequence -/
def k4 : Class := { plain "java/lang/CharSequence" (some 0) with
  accessFlags := 1537
  interfaces := #[]
  cf := some (fileOf pool4 2 #[.nestMembers #[47, 59]] #[] 1537 66 #[] #[])
  fields := #[]
  methods := #[]
  instanceTypes := #[]
  staticTypes := #[]
  resolved := Array.replicate 131 none
  statics := none }

def pool5 : Array CpInfo := pool [(1, .class_ 2), (0, u "java/lang/constant/Constable"), (0, .class_ 4), (0, u "java/lang/Object")] 6

/-- java/lang/constant/Constable -/
def k5 : Class := { plain "java/lang/constant/Constable" (some 0) with
  accessFlags := 1537
  interfaces := #[]
  cf := some (fileOf pool5 1 #[] #[] 1537 3 #[] #[])
  fields := #[]
  methods := #[]
  instanceTypes := #[]
  staticTypes := #[]
  resolved := Array.replicate 11 none
  statics := none }

def pool6 : Array CpInfo := pool [(1, .class_ 2), (0, u "java/lang/constant/ConstantDesc"), (0, .class_ 4), (0, u "java/lang/Object")] 32

/-- java/lang/constant/ConstantDesc -/
def k6 : Class := { plain "java/lang/constant/ConstantDesc" (some 0) with
  accessFlags := 1537
  interfaces := #[]
  cf := some (fileOf pool6 1 #[] #[] 1537 3 #[] #[])
  fields := #[]
  methods := #[]
  instanceTypes := #[]
  staticTypes := #[]
  resolved := Array.replicate 37 none
  statics := none }

def pool7 : Array CpInfo := pool [(1, .methodref 2 3), (0, .class_ 4), (0, .nameAndType 5 6), (0, u "java/lang/Object"), (0, u "<init>"), (0, u "()V"), (0, .string 8), (0, u ""), (0, .fieldref 10 11), (0, .class_ 12), (0, .nameAndType 13 14), (0, u "java/lang/String"), (0, u "value"), (0, u "[B"), (0, .fieldref 10 16), (0, .nameAndType 17 18), (0, u "coder"), (0, u "B"), (2, u "hash"), (0, u "I"), (2, u "hashIsZero"), (0, u "Z"), (0, .methodref 10 28), (0, .nameAndType 5 29), (0, u "([CIILjava/lang/Void;)V"), (8, .fieldref 10 39), (0, .nameAndType 40 26), (0, u "COMPACT_STRINGS"), (1, .class_ 44), (1, u "java/lang/StringUTF16"), (0, u "compress"), (1, .methodref 42 48), (0, .nameAndType 49 50), (0, u "coderFromArrayLen"), (0, u "([BI)B"), (3, .methodref 55 56), (0, .class_ 57), (0, .nameAndType 58 59), (0, u "java/util/Arrays"), (0, u "copyOfRange"), (0, u "([BII)[B"), (47, .class_ 109), (1, u "java/lang/StringLatin1"), (32, u "()Z"), (34, .methodref 42 178), (0, .nameAndType 45 179), (0, u "([CII)[B"), (13, .class_ 195), (1, u "java/lang/System"), (16, .methodref 193 213), (0, .nameAndType 214 215), (0, u "arraycopy"), (0, u "(Ljava/lang/Object;ILjava/lang/Object;II)V"), (118, u "()I"), (0, .methodref 10 336), (0, .nameAndType 17 337), (0, u "()B"), (2, u "()[B"), (22, u "([BI)C"), (27, u "(II)V"), (35, u "(I)C"), (61, .methodref 10 490), (0, .nameAndType 5 491), (0, u "(Ljava/lang/AbstractStringBuilder;Ljava/lang/Void;)V"), (0, .methodref 10 493), (0, .nameAndType 494 142), (0, u "isLatin1"), (0, .methodref 107 496), (0, .nameAndType 497 363), (0, u "charAt"), (3, u "checkIndex"), (4, .nameAndType 507 334), (0, u "length"), (24, u "getBytes"), (16, .methodref 550 506), (0, .class_ 551), (0, u "java/lang/AbstractStringBuilder"), (0, .methodref 550 553), (0, .nameAndType 554 340), (0, u "getValue"), (20, .class_ 576), (0, u "java/lang/CharSequence"), (22, u "CASE_INSENSITIVE_ORDER"), (0, u "Ljava/util/Comparator;"), (91, u "isEmpty"), (128, u "([BIB)V"), (188, u "([C)V"), (36, .methodref 550 493), (5, .fieldref 1054 1055), (0, .class_ 1056), (0, .nameAndType 1057 1058), (0, u "jdk/internal/util/Preconditions"), (0, u "SIOOBE_FORMATTER"), (0, u "Ljava/util/function/BiFunction;"), (0, .methodref 1054 1060), (0, .nameAndType 501 1061), (0, u "(IILjava/util/function/BiFunction;)I"), (39, u "serialPersistentFields"), (0, u "[Ljava/io/ObjectStreamField;"), (0, .class_ 1104), (0, u "java/lang/String$CaseInsensitiveComparator"), (1, .class_ 1107), (0, u "java/io/Serializable"), (0, .class_ 1109), (0, u "java/lang/Comparable"), (0, .class_ 1111), (0, u "java/lang/constant/Constable"), (0, .class_ 1113), (0, u "java/lang/constant/ConstantDesc"), (2, u "serialVersionUID"), (0, u "J"), (3, u "REPL"), (0, u "C"), (2, u "LATIN1"), (1, u "UTF16"), (105, u "(Ljava/lang/StringBuilder;)V")] 217

def k7m0 : Method := { name := "<init>", desc := "()V", sig := { parameters := [], returnType := none }, accessFlags := 1, code := none }
def k7c1 : Code := { maxStack := 5, maxLocals := 2, code := jdk_42_method_3_code, exceptionTable := #[], attributes := #[] }
def k7m1 : Method := { name := "<init>", desc := "([C)V", sig := { parameters := [(.array .char)], returnType := none }, accessFlags := 1, code := some k7c1 }
def k7c2 : Code := { maxStack := 3, maxLocals := 2, code := jdk_42_method_53_code, exceptionTable := #[], attributes := #[] }
def k7m2 : Method := { name := "<init>", desc := "(Ljava/lang/StringBuilder;)V", sig := { parameters := [(.object "java/lang/StringBuilder")], returnType := none }, accessFlags := 1, code := some k7c2 }
def k7c3 : Code := { maxStack := 2, maxLocals := 1, code := jdk_42_method_54_code, exceptionTable := #[], attributes := #[] }
def k7m3 : Method := { name := "length", desc := "()I", sig := { parameters := [], returnType := some .int }, accessFlags := 1, code := some k7c3 }
def k7c4 : Code := { maxStack := 1, maxLocals := 1, code := jdk_42_method_55_code, exceptionTable := #[], attributes := #[] }
def k7m4 : Method := { name := "isEmpty", desc := "()Z", sig := { parameters := [], returnType := some .boolean }, accessFlags := 1, code := some k7c4 }
def k7c5 : Code := { maxStack := 2, maxLocals := 2, code := jdk_42_method_56_code, exceptionTable := #[], attributes := #[] }
def k7m5 : Method := { name := "charAt", desc := "(I)C", sig := { parameters := [.int], returnType := some .char }, accessFlags := 1, code := some k7c5 }
def k7c6 : Code := { maxStack := 5, maxLocals := 4, code := jdk_42_method_147_code, exceptionTable := #[], attributes := #[] }
def k7m6 : Method := { name := "getBytes", desc := "([BIB)V", sig := { parameters := [(.array .byte), .int, .byte], returnType := none }, accessFlags := 0, code := some k7c6 }
def k7c7 : Code := { maxStack := 4, maxLocals := 6, code := jdk_42_method_149_code, exceptionTable := #[], attributes := #[] }
def k7m7 : Method := { name := "<init>", desc := "([CIILjava/lang/Void;)V", sig := { parameters := [(.array .char), .int, .int, (.object "java/lang/Void")], returnType := none }, accessFlags := 2, code := some k7c7 }
def k7c8 : Code := { maxStack := 5, maxLocals := 5, code := jdk_42_method_150_code, exceptionTable := #[], attributes := #[] }
def k7m8 : Method := { name := "<init>", desc := "(Ljava/lang/AbstractStringBuilder;Ljava/lang/Void;)V", sig := { parameters := [(.object "java/lang/AbstractStringBuilder"), (.object "java/lang/Void")], returnType := none }, accessFlags := 0, code := some k7c8 }
def k7c9 : Code := { maxStack := 1, maxLocals := 1, code := jdk_42_method_152_code, exceptionTable := #[], attributes := #[] }
def k7m9 : Method := { name := "coder", desc := "()B", sig := { parameters := [], returnType := some .byte }, accessFlags := 0, code := some k7c9 }
def k7c10 : Code := { maxStack := 1, maxLocals := 1, code := jdk_42_method_154_code, exceptionTable := #[], attributes := #[] }
def k7m10 : Method := { name := "isLatin1", desc := "()Z", sig := { parameters := [], returnType := some .boolean }, accessFlags := 0, code := some k7c10 }
def k7c11 : Code := { maxStack := 3, maxLocals := 2, code := jdk_42_method_155_code, exceptionTable := #[], attributes := #[] }
def k7m11 : Method := { name := "checkIndex", desc := "(II)V", sig := { parameters := [.int, .int], returnType := none }, accessFlags := 8, code := some k7c11 }
/-- java/lang/String -/
def k7 : Class := { plain "java/lang/String" (some 0) with
  accessFlags := 49
  interfaces := #[2, 3, 4, 5, 6]
  cf := some (fileOf pool7 10 #[.nestMembers #[1103]] #[{ accessFlags := 1, nameIndex := 5, descriptorIndex := 6, attributes := #[] }, { accessFlags := 1, nameIndex := 5, descriptorIndex := 1010, attributes := #[] }, { accessFlags := 1, nameIndex := 5, descriptorIndex := 1233, attributes := #[] }, { accessFlags := 1, nameIndex := 507, descriptorIndex := 334, attributes := #[] }, { accessFlags := 1, nameIndex := 692, descriptorIndex := 142, attributes := #[] }, { accessFlags := 1, nameIndex := 497, descriptorIndex := 427, attributes := #[] }, { accessFlags := 0, nameIndex := 532, descriptorIndex := 821, attributes := #[] }, { accessFlags := 2, nameIndex := 5, descriptorIndex := 29, attributes := #[] }, { accessFlags := 0, nameIndex := 5, descriptorIndex := 491, attributes := #[] }, { accessFlags := 0, nameIndex := 17, descriptorIndex := 337, attributes := #[] }, { accessFlags := 0, nameIndex := 494, descriptorIndex := 142, attributes := #[] }, { accessFlags := 8, nameIndex := 501, descriptorIndex := 391, attributes := #[] }] 49 2 #[1106, 1108, 575, 1110, 1112] #[{ accessFlags := 18, nameIndex := 13, descriptorIndex := 14, attributes := #[] }, { accessFlags := 18, nameIndex := 17, descriptorIndex := 18, attributes := #[] }, { accessFlags := 2, nameIndex := 21, descriptorIndex := 22, attributes := #[] }, { accessFlags := 2, nameIndex := 25, descriptorIndex := 26, attributes := #[] }, { accessFlags := 26, nameIndex := 1116, descriptorIndex := 1117, attributes := #[] }, { accessFlags := 24, nameIndex := 40, descriptorIndex := 26, attributes := #[] }, { accessFlags := 26, nameIndex := 1101, descriptorIndex := 1102, attributes := #[] }, { accessFlags := 26, nameIndex := 1121, descriptorIndex := 1122, attributes := #[] }, { accessFlags := 25, nameIndex := 599, descriptorIndex := 600, attributes := #[] }, { accessFlags := 24, nameIndex := 1125, descriptorIndex := 18, attributes := #[] }, { accessFlags := 24, nameIndex := 1127, descriptorIndex := 18, attributes := #[] }])
  fields := #[{ name := "value", type := (.array .byte), accessFlags := 18, slot := 0, constantValue := 0 }, { name := "coder", type := .byte, accessFlags := 18, slot := 1, constantValue := 0 }, { name := "hash", type := .int, accessFlags := 2, slot := 2, constantValue := 0 }, { name := "hashIsZero", type := .boolean, accessFlags := 2, slot := 3, constantValue := 0 }, { name := "serialVersionUID", type := .long, accessFlags := 26, slot := 0, constantValue := 0 }, { name := "COMPACT_STRINGS", type := .boolean, accessFlags := 24, slot := 1, constantValue := 0 }, { name := "serialPersistentFields", type := (.array (.object "java/io/ObjectStreamField")), accessFlags := 26, slot := 2, constantValue := 0 }, { name := "REPL", type := .char, accessFlags := 26, slot := 3, constantValue := 0 }, { name := "CASE_INSENSITIVE_ORDER", type := (.object "java/util/Comparator"), accessFlags := 25, slot := 4, constantValue := 0 }, { name := "LATIN1", type := .byte, accessFlags := 24, slot := 5, constantValue := 0 }, { name := "UTF16", type := .byte, accessFlags := 24, slot := 6, constantValue := 0 }]
  methods := #[k7m0, k7m1, k7m2, k7m3, k7m4, k7m5, k7m6, k7m7, k7m8, k7m9, k7m10, k7m11]
  instanceTypes := #[(.array .byte), .byte, .int, .boolean]
  staticTypes := #[.long, .boolean, (.array (.object "java/io/ObjectStreamField")), .char, (.object "java/util/Comparator"), .byte, .byte]
  resolved := Array.replicate 1451 none
  statics := some 0 }

def pool8 : Array CpInfo := pool [(6, .class_ 8), (1, u "java/lang/Object"), (0, u "<init>"), (0, u "()V"), (1, .class_ 14), (1, u "java/lang/StringUTF16"), (31, u "$assertionsDisabled"), (0, u "Z"), (13, u "HI_BYTE_SHIFT"), (0, u "I"), (2, u "LO_BYTE_SHIFT"), (49, .methodref 12 116), (0, .nameAndType 117 118), (0, u "compress"), (0, u "([CI[BII)I"), (3, u "([CII)[B"), (138, u "coderFromArrayLen"), (0, u "([BI)B"), (106, .class_ 371), (1, u "java/lang/StringUTF16$LinesSpliterator"), (58, u "MAX_LENGTH"), (196, .class_ 628), (0, u "java/lang/StringUTF16$CodePointsSpliterator"), (0, .class_ 630), (0, u "java/lang/StringUTF16$CharsSpliterator")] 4

def k8m0 : Method := { name := "<init>", desc := "()V", sig := { parameters := [], returnType := none }, accessFlags := 0, code := none }
def k8c1 : Code := { maxStack := 2, maxLocals := 2, code := jdk_52_method_15_code, exceptionTable := #[], attributes := #[] }
def k8m1 : Method := { name := "coderFromArrayLen", desc := "([BI)B", sig := { parameters := [(.array .byte), .int], returnType := some .byte }, accessFlags := 8, code := some k8c1 }
def k8c2 : Code := { maxStack := 5, maxLocals := 6, code := jdk_52_method_16_code, exceptionTable := #[], attributes := #[] }
def k8m2 : Method := { name := "compress", desc := "([CII)[B", sig := { parameters := [(.array .char), .int, .int], returnType := some (.array .byte) }, accessFlags := 9, code := some k8c2 }
def k8c3 : Code := { maxStack := 3, maxLocals := 7, code := jdk_52_method_21_code, exceptionTable := #[], attributes := #[] }
def k8m3 : Method := { name := "compress", desc := "([CI[BII)I", sig := { parameters := [(.array .char), .int, (.array .byte), .int, .int], returnType := some .int }, accessFlags := 9, code := some k8c3 }
/-- java/lang/StringUTF16 -/
def k8 : Class := { plain "java/lang/StringUTF16" (some 0) with
  accessFlags := 48
  interfaces := #[]
  cf := some (fileOf pool8 12 #[.nestMembers #[627, 629, 369]] #[{ accessFlags := 0, nameIndex := 9, descriptorIndex := 10, attributes := #[] }, { accessFlags := 8, nameIndex := 261, descriptorIndex := 262, attributes := #[] }, { accessFlags := 9, nameIndex := 117, descriptorIndex := 122, attributes := #[] }, { accessFlags := 9, nameIndex := 117, descriptorIndex := 118, attributes := #[] }] 48 6 #[] #[{ accessFlags := 26, nameIndex := 61, descriptorIndex := 62, attributes := #[] }, { accessFlags := 26, nameIndex := 65, descriptorIndex := 62, attributes := #[] }, { accessFlags := 24, nameIndex := 430, descriptorIndex := 62, attributes := #[] }, { accessFlags := 4120, nameIndex := 46, descriptorIndex := 47, attributes := #[] }])
  fields := #[{ name := "HI_BYTE_SHIFT", type := .int, accessFlags := 26, slot := 0, constantValue := 0 }, { name := "LO_BYTE_SHIFT", type := .int, accessFlags := 26, slot := 1, constantValue := 0 }, { name := "MAX_LENGTH", type := .int, accessFlags := 24, slot := 2, constantValue := 0 }, { name := "$assertionsDisabled", type := .boolean, accessFlags := 4120, slot := 3, constantValue := 0 }]
  methods := #[k8m0, k8m1, k8m2, k8m3]
  instanceTypes := #[]
  staticTypes := #[.int, .int, .int, .boolean]
  resolved := Array.replicate 635 none
  statics := none }

def pool9 : Array CpInfo := pool [(1, .methodref 2 3), (0, .class_ 4), (0, .nameAndType 5 6), (0, u "java/lang/Object"), (0, u "<init>"), (0, u "()V"), (0, .string 8), (0, u "path"), (0, .methodref 10 11), (0, .class_ 12), (0, .nameAndType 13 14), (0, u "java/util/Objects"), (0, u "requireNonNull"), (0, u "(Ljava/lang/Object;Ljava/lang/String;)Ljava/lang/Object;"), (0, .class_ 16), (0, u "java/lang/String"), (0, .fieldref 18 19), (0, .class_ 20), (0, .nameAndType 8 21), (0, u "com/example/incomewright/incomewright/casefile/Problem"), (0, u "Ljava/lang/String;"), (0, .string 23), (0, u "message"), (0, .fieldref 18 25), (0, .nameAndType 23 21), (0, .methodref 15 27), (0, .nameAndType 28 29), (0, u "isEmpty"), (0, u "()Z"), (0, .class_ 31), (0, u "java/lang/StringBuilder"), (0, .methodref 30 3), (0, .methodref 30 34), (0, .nameAndType 35 36), (0, u "append"), (0, u "(Ljava/lang/String;)Ljava/lang/StringBuilder;"), (0, .string 38), (0, u ": "), (0, .methodref 30 40), (0, .nameAndType 41 42), (0, u "toString"), (0, u "()Ljava/lang/String;"), (0, u "(Ljava/lang/String;Ljava/lang/String;)V")] 5

def k9c0 : Code := { maxStack := 3, maxLocals := 3, code := prog_9_method_1_code, exceptionTable := #[], attributes := #[] }
def k9m0 : Method := { name := "<init>", desc := "(Ljava/lang/String;Ljava/lang/String;)V", sig := { parameters := [(.object "java/lang/String"), (.object "java/lang/String")], returnType := none }, accessFlags := 1, code := some k9c0 }
def k9c1 : Code := { maxStack := 2, maxLocals := 1, code := prog_9_method_4_code, exceptionTable := #[], attributes := #[] }
def k9m1 : Method := { name := "toString", desc := "()Ljava/lang/String;", sig := { parameters := [], returnType := some (.object "java/lang/String") }, accessFlags := 1, code := some k9c1 }
/-- com/example/incomewright/incomewright/casefile/Problem -/
def k9 : Class := { plain "com/example/incomewright/incomewright/casefile/Problem" (some 0) with
  accessFlags := 49
  interfaces := #[]
  cf := some (fileOf pool9 18 #[] #[{ accessFlags := 1, nameIndex := 5, descriptorIndex := 43, attributes := #[] }, { accessFlags := 1, nameIndex := 41, descriptorIndex := 42, attributes := #[] }] 49 2 #[] #[{ accessFlags := 18, nameIndex := 8, descriptorIndex := 21, attributes := #[] }, { accessFlags := 18, nameIndex := 23, descriptorIndex := 21, attributes := #[] }])
  fields := #[{ name := "path", type := (.object "java/lang/String"), accessFlags := 18, slot := 0, constantValue := 0 }, { name := "message", type := (.object "java/lang/String"), accessFlags := 18, slot := 1, constantValue := 0 }]
  methods := #[k9m0, k9m1]
  instanceTypes := #[(.object "java/lang/String"), (.object "java/lang/String")]
  staticTypes := #[]
  resolved := Array.replicate 49 none
  statics := none }

def pool10 : Array CpInfo := pool [(2, .class_ 4), (1, u "java/lang/Object"), (0, u "<init>"), (0, u "()V"), (35, .class_ 44), (1, u "java/util/Objects"), (0, u "requireNonNull"), (48, u "(Ljava/lang/Object;Ljava/lang/String;)Ljava/lang/Object;")] 89

def k10m0 : Method := { name := "<init>", desc := "()V", sig := { parameters := [], returnType := none }, accessFlags := 2, code := none }
def k10c1 : Code := { maxStack := 3, maxLocals := 2, code := jdk_31_method_11_code, exceptionTable := #[], attributes := #[] }
def k10m1 : Method := { name := "requireNonNull", desc := "(Ljava/lang/Object;Ljava/lang/String;)Ljava/lang/Object;", sig := { parameters := [(.object "java/lang/Object"), (.object "java/lang/String")], returnType := some (.object "java/lang/Object") }, accessFlags := 9, code := some k10c1 }
/-- java/util/Objects -/
def k10 : Class := { plain "java/util/Objects" (some 0) with
  accessFlags := 49
  interfaces := #[]
  cf := some (fileOf pool10 42 #[] #[{ accessFlags := 2, nameIndex := 5, descriptorIndex := 6, attributes := #[] }, { accessFlags := 9, nameIndex := 45, descriptorIndex := 94, attributes := #[] }] 49 2 #[] #[])
  fields := #[]
  methods := #[k10m0, k10m1]
  instanceTypes := #[]
  staticTypes := #[]
  resolved := Array.replicate 184 none
  statics := none }

def pool11 : Array CpInfo := pool [(1, .class_ 2), (0, u "java/lang/Appendable"), (0, .class_ 4), (0, u "java/lang/Object")] 9

/-- java/lang/Appendable -/
def k11 : Class := { plain "java/lang/Appendable" (some 0) with
  accessFlags := 1537
  interfaces := #[]
  cf := some (fileOf pool11 1 #[] #[] 1537 3 #[] #[])
  fields := #[]
  methods := #[]
  instanceTypes := #[]
  staticTypes := #[]
  resolved := Array.replicate 14 none
  statics := none }

def pool12 : Array CpInfo := pool [(1, .class_ 2), (0, u "java/lang/String"), (0, .methodref 4 5), (0, .class_ 6), (0, .nameAndType 7 8), (0, u "java/lang/Object"), (0, u "<init>"), (0, u "()V"), (1, .class_ 12), (1, u "java/lang/AbstractStringBuilder"), (0, u "EMPTYVALUE"), (0, u "[B"), (0, .fieldref 10 16), (0, .nameAndType 17 14), (0, u "value"), (0, .fieldref 1 19), (0, .nameAndType 20 21), (0, u "COMPACT_STRINGS"), (0, u "Z"), (0, .fieldref 10 23), (0, .nameAndType 24 25), (0, u "coder"), (0, u "B"), (6, .methodref 1 33), (0, .nameAndType 34 35), (0, u "length"), (0, u "()I"), (4, .methodref 1 41), (0, .nameAndType 24 42), (0, u "()B"), (2, u "append"), (0, u "(Ljava/lang/String;)Ljava/lang/AbstractStringBuilder;"), (1, .class_ 49), (0, u "java/lang/CharSequence"), (19, u "(Ljava/lang/String;)V"), (5, u "maybeLatin1"), (3, .fieldref 10 80), (0, .nameAndType 81 82), (0, u "count"), (0, u "I"), (2, u "isLatin1"), (0, u "()Z"), (13, .methodref 10 101), (0, .nameAndType 102 103), (0, u "ensureCapacityInternal"), (0, u "(I)V"), (104, .methodref 10 209), (0, .nameAndType 210 211), (0, u "putStringAt"), (0, u "(ILjava/lang/String;)V"), (5, u "inflateIfNeededFor"), (2, .nameAndType 221 222), (0, u "getBytes"), (0, u "([BIB)V"), (174, .methodref 10 398), (0, .nameAndType 217 69), (0, .methodref 1 220), (3, u "()[B"), (40, .class_ 445), (0, u "java/lang/Appendable"), (106, u "getValue")] 56

def k12m0 : Method := { name := "<init>", desc := "()V", sig := { parameters := [], returnType := none }, accessFlags := 0, code := none }
def k12c1 : Code := { maxStack := 2, maxLocals := 2, code := jdk_68_method_2_code, exceptionTable := #[], attributes := #[] }
def k12m1 : Method := { name := "<init>", desc := "(I)V", sig := { parameters := [.int], returnType := none }, accessFlags := 0, code := some k12c1 }
def k12c2 : Code := { maxStack := 1, maxLocals := 1, code := jdk_68_method_6_code, exceptionTable := #[], attributes := #[] }
def k12m2 : Method := { name := "length", desc := "()I", sig := { parameters := [], returnType := some .int }, accessFlags := 1, code := some k12c2 }
def k12c3 : Code := { maxStack := 4, maxLocals := 3, code := jdk_68_method_9_code, exceptionTable := #[], attributes := #[] }
def k12m3 : Method := { name := "ensureCapacityInternal", desc := "(I)V", sig := { parameters := [.int], returnType := none }, accessFlags := 2, code := some k12c3 }
def k12c4 : Code := { maxStack := 3, maxLocals := 3, code := jdk_68_method_22_code, exceptionTable := #[], attributes := #[] }
def k12m4 : Method := { name := "append", desc := "(Ljava/lang/String;)Ljava/lang/AbstractStringBuilder;", sig := { parameters := [(.object "java/lang/String")], returnType := some (.object "java/lang/AbstractStringBuilder") }, accessFlags := 1, code := some k12c4 }
def k12c5 : Code := { maxStack := 1, maxLocals := 1, code := jdk_68_method_64_code, exceptionTable := #[], attributes := #[] }
def k12m5 : Method := { name := "getValue", desc := "()[B", sig := { parameters := [], returnType := some (.array .byte) }, accessFlags := 16, code := some k12c5 }
def k12c6 : Code := { maxStack := 1, maxLocals := 1, code := jdk_68_method_68_code, exceptionTable := #[], attributes := #[] }
def k12m6 : Method := { name := "isLatin1", desc := "()Z", sig := { parameters := [], returnType := some .boolean }, accessFlags := 16, code := some k12c6 }
def k12c7 : Code := { maxStack := 2, maxLocals := 2, code := jdk_68_method_71_code, exceptionTable := #[], attributes := #[] }
def k12m7 : Method := { name := "inflateIfNeededFor", desc := "(Ljava/lang/String;)V", sig := { parameters := [(.object "java/lang/String")], returnType := none }, accessFlags := 2, code := some k12c7 }
def k12c8 : Code := { maxStack := 4, maxLocals := 3, code := jdk_68_method_73_code, exceptionTable := #[], attributes := #[] }
def k12m8 : Method := { name := "putStringAt", desc := "(ILjava/lang/String;)V", sig := { parameters := [.int, (.object "java/lang/String")], returnType := none }, accessFlags := 2, code := some k12c8 }
/-- java/lang/AbstractStringBuilder -/
def k12 : Class := { plain "java/lang/AbstractStringBuilder" (some 0) with
  accessFlags := 1056
  interfaces := #[11, 4]
  cf := some (fileOf pool12 10 #[] #[{ accessFlags := 0, nameIndex := 7, descriptorIndex := 8, attributes := #[] }, { accessFlags := 0, nameIndex := 7, descriptorIndex := 103, attributes := #[] }, { accessFlags := 1, nameIndex := 34, descriptorIndex := 35, attributes := #[] }, { accessFlags := 2, nameIndex := 102, descriptorIndex := 103, attributes := #[] }, { accessFlags := 1, nameIndex := 45, descriptorIndex := 46, attributes := #[] }, { accessFlags := 16, nameIndex := 552, descriptorIndex := 403, attributes := #[] }, { accessFlags := 16, nameIndex := 85, descriptorIndex := 86, attributes := #[] }, { accessFlags := 2, nameIndex := 217, descriptorIndex := 69, attributes := #[] }, { accessFlags := 2, nameIndex := 210, descriptorIndex := 211, attributes := #[] }] 1056 4 #[444, 48] #[{ accessFlags := 0, nameIndex := 17, descriptorIndex := 14, attributes := #[] }, { accessFlags := 0, nameIndex := 24, descriptorIndex := 25, attributes := #[] }, { accessFlags := 0, nameIndex := 75, descriptorIndex := 21, attributes := #[] }, { accessFlags := 0, nameIndex := 81, descriptorIndex := 82, attributes := #[] }, { accessFlags := 26, nameIndex := 13, descriptorIndex := 14, attributes := #[] }])
  fields := #[{ name := "value", type := (.array .byte), accessFlags := 0, slot := 0, constantValue := 0 }, { name := "coder", type := .byte, accessFlags := 0, slot := 1, constantValue := 0 }, { name := "maybeLatin1", type := .boolean, accessFlags := 0, slot := 2, constantValue := 0 }, { name := "count", type := .int, accessFlags := 0, slot := 3, constantValue := 0 }, { name := "EMPTYVALUE", type := (.array .byte), accessFlags := 26, slot := 0, constantValue := 0 }]
  methods := #[k12m0, k12m1, k12m2, k12m3, k12m4, k12m5, k12m6, k12m7, k12m8]
  instanceTypes := #[(.array .byte), .byte, .boolean, .int]
  staticTypes := #[(.array .byte)]
  resolved := Array.replicate 609 none
  statics := none }

def pool13 : Array CpInfo := pool [(1, .methodref 2 3), (0, .class_ 4), (0, .nameAndType 5 6), (0, u "java/lang/AbstractStringBuilder"), (0, u "<init>"), (0, u "(I)V"), (11, .class_ 20), (1, u "java/lang/String"), (3, .class_ 26), (1, u "java/lang/StringBuilder"), (0, u "append"), (0, u "(Ljava/lang/String;)Ljava/lang/StringBuilder;"), (0, .methodref 2 30), (0, .nameAndType 27 31), (0, u "(Ljava/lang/String;)Ljava/lang/AbstractStringBuilder;"), (105, .methodref 18 138), (0, .nameAndType 5 139), (0, u "(Ljava/lang/StringBuilder;)V"), (5, u "()V"), (10, u "()I"), (186, .methodref 2 344), (0, .nameAndType 345 156), (0, u "length"), (3, .class_ 350), (0, u "java/lang/Appendable"), (0, .class_ 352), (0, u "java/io/Serializable"), (0, .class_ 354), (0, u "java/lang/Comparable"), (0, .class_ 356), (0, u "java/lang/CharSequence"), (0, u "serialVersionUID"), (0, u "J"), (40, u "toString"), (0, u "()Ljava/lang/String;")] 21

def k13c0 : Code := { maxStack := 2, maxLocals := 1, code := jdk_67_method_1_code, exceptionTable := #[], attributes := #[] }
def k13m0 : Method := { name := "<init>", desc := "()V", sig := { parameters := [], returnType := none }, accessFlags := 1, code := some k13c0 }
def k13c1 : Code := { maxStack := 2, maxLocals := 2, code := jdk_67_method_7_code, exceptionTable := #[], attributes := #[] }
def k13m1 : Method := { name := "append", desc := "(Ljava/lang/String;)Ljava/lang/StringBuilder;", sig := { parameters := [(.object "java/lang/String")], returnType := some (.object "java/lang/StringBuilder") }, accessFlags := 1, code := some k13c1 }
def k13c2 : Code := { maxStack := 3, maxLocals := 1, code := jdk_67_method_42_code, exceptionTable := #[], attributes := #[] }
def k13m2 : Method := { name := "toString", desc := "()Ljava/lang/String;", sig := { parameters := [], returnType := some (.object "java/lang/String") }, accessFlags := 1, code := some k13c2 }
def k13c3 : Code := { maxStack := 1, maxLocals := 1, code := jdk_67_method_93_code, exceptionTable := #[], attributes := #[] }
def k13m3 : Method := { name := "length", desc := "()I", sig := { parameters := [], returnType := some .int }, accessFlags := 4161, code := some k13c3 }
/-- java/lang/StringBuilder -/
def k13 : Class := { plain "java/lang/StringBuilder" (some 12) with
  accessFlags := 49
  interfaces := #[11, 2, 3, 4]
  cf := some (fileOf pool13 24 #[] #[{ accessFlags := 1, nameIndex := 5, descriptorIndex := 145, attributes := #[] }, { accessFlags := 1, nameIndex := 27, descriptorIndex := 28, attributes := #[] }, { accessFlags := 1, nameIndex := 399, descriptorIndex := 400, attributes := #[] }, { accessFlags := 4161, nameIndex := 345, descriptorIndex := 156, attributes := #[] }] 49 2 #[349, 351, 353, 355] #[{ accessFlags := 24, nameIndex := 357, descriptorIndex := 358, attributes := #[] }])
  fields := #[{ name := "serialVersionUID", type := .long, accessFlags := 24, slot := 0, constantValue := 0 }]
  methods := #[k13m0, k13m1, k13m2, k13m3]
  instanceTypes := #[(.array .byte), .byte, .boolean, .int]
  staticTypes := #[.long]
  resolved := Array.replicate 422 none
  statics := none }

def pool14 : Array CpInfo := pool [(2, .class_ 4), (1, u "java/lang/Object"), (0, u "<init>"), (0, u "()V"), (1, .class_ 10), (1, u "java/lang/System"), (0, u "allowSecurityManager"), (0, u "I"), (16, u "cons"), (0, u "Ljava/io/Console;"), (77, .class_ 110), (1, u "java/lang/System$CallersHolder"), (43, u "initialErrStream"), (0, u "Ljava/io/PrintStream;"), (19, u "security"), (0, u "Ljava/lang/SecurityManager;"), (31, .class_ 209), (0, u "java/lang/System$1"), (7, u "props"), (0, u "Ljava/util/Properties;"), (2, u "lineSeparator"), (0, u "Ljava/lang/String;"), (96, .class_ 321), (1, u "java/lang/System$LoggerFinder"), (5, .class_ 328), (0, u "java/lang/System$Logger"), (67, u "err"), (2, u "out"), (91, u "notSupportedJnuEncoding"), (15, u "in"), (17, u "initialIn"), (0, u "Ljava/io/InputStream;"), (35, u "bootLayer"), (0, u "Ljava/lang/ModuleLayer;"), (99, .class_ 664), (0, u "java/lang/System$2"), (9, u "NEVER"), (2, u "MAYBE"), (49, u "arraycopy"), (0, u "(Ljava/lang/Object;ILjava/lang/Object;II)V"), (72, .class_ 802), (0, u "java/lang/System$Logger$Level")] 31

def k14m0 : Method := { name := "<init>", desc := "()V", sig := { parameters := [], returnType := none }, accessFlags := 2, code := none }
def k14m1 : Method := { name := "arraycopy", desc := "(Ljava/lang/Object;ILjava/lang/Object;II)V", sig := { parameters := [(.object "java/lang/Object"), .int, (.object "java/lang/Object"), .int, .int], returnType := none }, accessFlags := 265, code := none }
/-- java/lang/System -/
def k14 : Class := { plain "java/lang/System" (some 0) with
  accessFlags := 49
  interfaces := #[]
  cf := some (fileOf pool14 8 #[.nestMembers #[319, 327, 801, 108, 663, 208]] #[{ accessFlags := 2, nameIndex := 5, descriptorIndex := 6, attributes := #[] }, { accessFlags := 265, nameIndex := 727, descriptorIndex := 728, attributes := #[] }] 49 2 #[] #[{ accessFlags := 25, nameIndex := 507, descriptorIndex := 526, attributes := #[] }, { accessFlags := 25, nameIndex := 399, descriptorIndex := 155, attributes := #[] }, { accessFlags := 25, nameIndex := 396, descriptorIndex := 155, attributes := #[] }, { accessFlags := 10, nameIndex := 525, descriptorIndex := 526, attributes := #[] }, { accessFlags := 26, nameIndex := 674, descriptorIndex := 12, attributes := #[] }, { accessFlags := 26, nameIndex := 677, descriptorIndex := 12, attributes := #[] }, { accessFlags := 10, nameIndex := 11, descriptorIndex := 12, attributes := #[] }, { accessFlags := 74, nameIndex := 175, descriptorIndex := 176, attributes := #[] }, { accessFlags := 10, nameIndex := 491, descriptorIndex := 222, attributes := #[] }, { accessFlags := 74, nameIndex := 29, descriptorIndex := 30, attributes := #[] }, { accessFlags := 74, nameIndex := 154, descriptorIndex := 155, attributes := #[] }, { accessFlags := 10, nameIndex := 217, descriptorIndex := 218, attributes := #[] }, { accessFlags := 10, nameIndex := 221, descriptorIndex := 222, attributes := #[] }, { accessFlags := 8, nameIndex := 562, descriptorIndex := 563, attributes := #[] }])
  fields := #[{ name := "in", type := (.object "java/io/InputStream"), accessFlags := 25, slot := 0, constantValue := 0 }, { name := "out", type := (.object "java/io/PrintStream"), accessFlags := 25, slot := 1, constantValue := 0 }, { name := "err", type := (.object "java/io/PrintStream"), accessFlags := 25, slot := 2, constantValue := 0 }, { name := "initialIn", type := (.object "java/io/InputStream"), accessFlags := 10, slot := 3, constantValue := 0 }, { name := "NEVER", type := .int, accessFlags := 26, slot := 4, constantValue := 0 }, { name := "MAYBE", type := .int, accessFlags := 26, slot := 5, constantValue := 0 }, { name := "allowSecurityManager", type := .int, accessFlags := 10, slot := 6, constantValue := 0 }, { name := "security", type := (.object "java/lang/SecurityManager"), accessFlags := 74, slot := 7, constantValue := 0 }, { name := "notSupportedJnuEncoding", type := (.object "java/lang/String"), accessFlags := 10, slot := 8, constantValue := 0 }, { name := "cons", type := (.object "java/io/Console"), accessFlags := 74, slot := 9, constantValue := 0 }, { name := "initialErrStream", type := (.object "java/io/PrintStream"), accessFlags := 74, slot := 10, constantValue := 0 }, { name := "props", type := (.object "java/util/Properties"), accessFlags := 10, slot := 11, constantValue := 0 }, { name := "lineSeparator", type := (.object "java/lang/String"), accessFlags := 10, slot := 12, constantValue := 0 }, { name := "bootLayer", type := (.object "java/lang/ModuleLayer"), accessFlags := 8, slot := 13, constantValue := 0 }]
  methods := #[k14m0, k14m1]
  instanceTypes := #[]
  staticTypes := #[(.object "java/io/InputStream"), (.object "java/io/PrintStream"), (.object "java/io/PrintStream"), (.object "java/io/InputStream"), .int, .int, .int, (.object "java/lang/SecurityManager"), (.object "java/lang/String"), (.object "java/io/Console"), (.object "java/io/PrintStream"), (.object "java/util/Properties"), (.object "java/lang/String"), (.object "java/lang/ModuleLayer")]
  resolved := Array.replicate 834 none
  statics := none }

def pool15 : Array CpInfo := pool [(2, .class_ 4), (1, u "java/lang/Object"), (0, u "<init>"), (0, u "()V"), (7, .class_ 16), (1, u "java/util/Arrays"), (57, .class_ 76), (1, u "java/util/Arrays$NaturalOrder"), (36, .class_ 115), (1, u "java/util/Arrays$LegacyMergeSort"), (1, u "Z"), (21, u "copyOfRange"), (10, .methodref 151 152), (0, .class_ 153), (0, .nameAndType 154 155), (0, u "java/lang/System"), (0, u "arraycopy"), (0, u "(Ljava/lang/Object;ILjava/lang/Object;II)V"), (148, .methodref 305 306), (0, .class_ 307), (0, .nameAndType 308 309), (0, u "java/lang/Math"), (0, u "min"), (0, u "(II)I"), (29, .methodref 14 340), (0, .nameAndType 341 342), (0, u "copyOfRangeByte"), (0, u "([BII)[B"), (0, .methodref 14 344), (0, .nameAndType 345 346), (0, u "checkLength"), (0, u "(II)V"), (28, .class_ 376), (0, u "java/util/Arrays$ArrayList"), (68, u "$assertionsDisabled"), (269, u "MIN_ARRAY_SORT_GRAN"), (0, u "I"), (2, u "INSERTIONSORT_THRESHOLD"), (255, .class_ 976), (0, u "java/util/Arrays$ArrayItr")] 52

def k15m0 : Method := { name := "<init>", desc := "()V", sig := { parameters := [], returnType := none }, accessFlags := 2, code := none }
def k15c1 : Code := { maxStack := 4, maxLocals := 2, code := jdk_65_method_131_code, exceptionTable := #[], attributes := #[] }
def k15m1 : Method := { name := "checkLength", desc := "(II)V", sig := { parameters := [.int, .int], returnType := none }, accessFlags := 10, code := some k15c1 }
def k15c2 : Code := { maxStack := 3, maxLocals := 3, code := jdk_65_method_132_code, exceptionTable := #[], attributes := #[] }
def k15m2 : Method := { name := "copyOfRange", desc := "([BII)[B", sig := { parameters := [(.array .byte), .int, .int], returnType := some (.array .byte) }, accessFlags := 9, code := some k15c2 }
def k15c3 : Code := { maxStack := 6, maxLocals := 5, code := jdk_65_method_133_code, exceptionTable := #[], attributes := #[] }
def k15m3 : Method := { name := "copyOfRangeByte", desc := "([BII)[B", sig := { parameters := [(.array .byte), .int, .int], returnType := some (.array .byte) }, accessFlags := 10, code := some k15c3 }
/-- java/util/Arrays -/
def k15 : Class := { plain "java/util/Arrays" (some 0) with
  accessFlags := 49
  interfaces := #[]
  cf := some (fileOf pool15 14 #[.nestMembers #[975, 375, 113, 74]] #[{ accessFlags := 2, nameIndex := 5, descriptorIndex := 6, attributes := #[] }, { accessFlags := 10, nameIndex := 345, descriptorIndex := 346, attributes := #[] }, { accessFlags := 9, nameIndex := 139, descriptorIndex := 342, attributes := #[] }, { accessFlags := 10, nameIndex := 341, descriptorIndex := 342, attributes := #[] }] 49 2 #[] #[{ accessFlags := 26, nameIndex := 715, descriptorIndex := 716, attributes := #[] }, { accessFlags := 26, nameIndex := 719, descriptorIndex := 716, attributes := #[] }, { accessFlags := 4120, nameIndex := 445, descriptorIndex := 117, attributes := #[] }])
  fields := #[{ name := "MIN_ARRAY_SORT_GRAN", type := .int, accessFlags := 26, slot := 0, constantValue := 0 }, { name := "INSERTIONSORT_THRESHOLD", type := .int, accessFlags := 26, slot := 1, constantValue := 0 }, { name := "$assertionsDisabled", type := .boolean, accessFlags := 4120, slot := 2, constantValue := 0 }]
  methods := #[k15m0, k15m1, k15m2, k15m3]
  instanceTypes := #[]
  staticTypes := #[.int, .int, .boolean]
  resolved := Array.replicate 1029 none
  statics := none }

def pool16 : Array CpInfo := pool [(1, .class_ 2), (0, u "java/lang/Math"), (1, .class_ 6), (1, u "java/lang/Object"), (0, u "<init>"), (0, u "()V"), (89, .class_ 100), (1, u "java/lang/Math$RandomNumberGeneratorHolder"), (71, u "negativeZeroFloatBits"), (0, u "J"), (2, u "negativeZeroDoubleBits"), (24, u "min"), (43, u "$assertionsDisabled"), (0, u "Z"), (88, u "(II)I"), (2, u "twoToTheDoubleScaleDown"), (0, u "D"), (4, u "twoToTheDoubleScaleUp"), (9, u "E"), (3, u "PI"), (2, u "TAU"), (2, u "DEGREES_TO_RADIANS"), (0, u "RADIANS_TO_DEGREES")] 94

def k16m0 : Method := { name := "<init>", desc := "()V", sig := { parameters := [], returnType := none }, accessFlags := 2, code := none }
def k16c1 : Code := { maxStack := 2, maxLocals := 2, code := jdk_29_method_69_code, exceptionTable := #[], attributes := #[] }
def k16m1 : Method := { name := "min", desc := "(II)I", sig := { parameters := [.int, .int], returnType := some .int }, accessFlags := 9, code := some k16c1 }
/-- java/lang/Math -/
def k16 : Class := { plain "java/lang/Math" (some 0) with
  accessFlags := 49
  interfaces := #[]
  cf := some (fileOf pool16 1 #[.nestMembers #[98]] #[{ accessFlags := 2, nameIndex := 7, descriptorIndex := 8, attributes := #[] }, { accessFlags := 9, nameIndex := 201, descriptorIndex := 335, attributes := #[] }] 49 4 #[] #[{ accessFlags := 25, nameIndex := 354, descriptorIndex := 339, attributes := #[] }, { accessFlags := 25, nameIndex := 358, descriptorIndex := 339, attributes := #[] }, { accessFlags := 25, nameIndex := 361, descriptorIndex := 339, attributes := #[] }, { accessFlags := 26, nameIndex := 364, descriptorIndex := 339, attributes := #[] }, { accessFlags := 26, nameIndex := 365, descriptorIndex := 339, attributes := #[] }, { accessFlags := 26, nameIndex := 172, descriptorIndex := 173, attributes := #[] }, { accessFlags := 26, nameIndex := 176, descriptorIndex := 173, attributes := #[] }, { accessFlags := 8, nameIndex := 344, descriptorIndex := 339, attributes := #[] }, { accessFlags := 8, nameIndex := 338, descriptorIndex := 339, attributes := #[] }, { accessFlags := 4120, nameIndex := 245, descriptorIndex := 246, attributes := #[] }])
  fields := #[{ name := "E", type := .double, accessFlags := 25, slot := 0, constantValue := 0 }, { name := "PI", type := .double, accessFlags := 25, slot := 1, constantValue := 0 }, { name := "TAU", type := .double, accessFlags := 25, slot := 2, constantValue := 0 }, { name := "DEGREES_TO_RADIANS", type := .double, accessFlags := 26, slot := 3, constantValue := 0 }, { name := "RADIANS_TO_DEGREES", type := .double, accessFlags := 26, slot := 4, constantValue := 0 }, { name := "negativeZeroFloatBits", type := .long, accessFlags := 26, slot := 5, constantValue := 0 }, { name := "negativeZeroDoubleBits", type := .long, accessFlags := 26, slot := 6, constantValue := 0 }, { name := "twoToTheDoubleScaleUp", type := .double, accessFlags := 8, slot := 7, constantValue := 0 }, { name := "twoToTheDoubleScaleDown", type := .double, accessFlags := 8, slot := 8, constantValue := 0 }, { name := "$assertionsDisabled", type := .boolean, accessFlags := 4120, slot := 9, constantValue := 0 }]
  methods := #[k16m0, k16m1]
  instanceTypes := #[]
  staticTypes := #[.double, .double, .double, .double, .double, .long, .long, .double, .double, .boolean]
  resolved := Array.replicate 460 none
  statics := none }

def pool17 : Array CpInfo := pool [(1, .class_ 2), (0, u "java/lang/String"), (1, .class_ 6), (1, u "java/lang/Object"), (0, u "<init>"), (0, u "()V"), (0, .methodref 1 10), (0, .nameAndType 11 12), (0, u "checkIndex"), (0, u "(II)V"), (1, .class_ 16), (1, u "java/lang/StringLatin1"), (36, u "([BI)C"), (67, u "$assertionsDisabled"), (0, u "Z"), (98, .class_ 223), (1, u "java/lang/StringLatin1$LinesSpliterator"), (28, u "charAt"), (137, .class_ 391), (0, u "java/lang/StringLatin1$CharsSpliterator")] 3

def k17m0 : Method := { name := "<init>", desc := "()V", sig := { parameters := [], returnType := none }, accessFlags := 0, code := none }
def k17c1 : Code := { maxStack := 2, maxLocals := 2, code := jdk_43_method_2_code, exceptionTable := #[], attributes := #[] }
def k17m1 : Method := { name := "charAt", desc := "([BI)C", sig := { parameters := [(.array .byte), .int], returnType := some .char }, accessFlags := 9, code := some k17c1 }
/-- java/lang/StringLatin1 -/
def k17 : Class := { plain "java/lang/StringLatin1" (some 0) with
  accessFlags := 48
  interfaces := #[]
  cf := some (fileOf pool17 14 #[.nestMembers #[390, 221]] #[{ accessFlags := 0, nameIndex := 7, descriptorIndex := 8, attributes := #[] }, { accessFlags := 9, nameIndex := 252, descriptorIndex := 53, attributes := #[] }] 48 4 #[] #[{ accessFlags := 4120, nameIndex := 121, descriptorIndex := 122, attributes := #[] }])
  fields := #[{ name := "$assertionsDisabled", type := .boolean, accessFlags := 4120, slot := 0, constantValue := 0 }]
  methods := #[k17m0, k17m1]
  instanceTypes := #[]
  staticTypes := #[.boolean]
  resolved := Array.replicate 395 none
  statics := none }

def pool18 : Array CpInfo := pool [(2, .class_ 4), (1, u "java/lang/Object"), (0, u "<init>"), (0, u "()V"), (17, .class_ 26), (1, u "jdk/internal/util/Preconditions"), (6, u "checkIndex"), (21, .class_ 56), (0, u "jdk/internal/util/Preconditions$4"), (57, .class_ 115), (0, u "jdk/internal/util/Preconditions$1"), (7, u "SIOOBE_FORMATTER"), (0, u "Ljava/util/function/BiFunction;"), (0, .class_ 126), (0, u "jdk/internal/util/Preconditions$2"), (3, u "AIOOBE_FORMATTER"), (0, .class_ 132), (0, u "jdk/internal/util/Preconditions$3"), (3, u "IOOBE_FORMATTER"), (41, u "(IILjava/util/function/BiFunction;)I")] 15

def k18m0 : Method := { name := "<init>", desc := "()V", sig := { parameters := [], returnType := none }, accessFlags := 1, code := none }
def k18c1 : Code := { maxStack := 3, maxLocals := 3, code := jdk_41_method_11_code, exceptionTable := #[], attributes := #[] }
def k18m1 : Method := { name := "checkIndex", desc := "(IILjava/util/function/BiFunction;)I", sig := { parameters := [.int, .int, (.object "java/util/function/BiFunction")], returnType := some .int }, accessFlags := 9, code := some k18c1 }
/-- jdk/internal/util/Preconditions -/
def k18 : Class := { plain "jdk/internal/util/Preconditions" (some 0) with
  accessFlags := 33
  interfaces := #[]
  cf := some (fileOf pool18 24 #[.nestMembers #[55, 131, 125, 114]] #[{ accessFlags := 1, nameIndex := 5, descriptorIndex := 6, attributes := #[] }, { accessFlags := 9, nameIndex := 33, descriptorIndex := 178, attributes := #[] }] 33 2 #[] #[{ accessFlags := 25, nameIndex := 123, descriptorIndex := 124, attributes := #[] }, { accessFlags := 25, nameIndex := 130, descriptorIndex := 124, attributes := #[] }, { accessFlags := 25, nameIndex := 136, descriptorIndex := 124, attributes := #[] }])
  fields := #[{ name := "SIOOBE_FORMATTER", type := (.object "java/util/function/BiFunction"), accessFlags := 25, slot := 0, constantValue := 0 }, { name := "AIOOBE_FORMATTER", type := (.object "java/util/function/BiFunction"), accessFlags := 25, slot := 1, constantValue := 0 }, { name := "IOOBE_FORMATTER", type := (.object "java/util/function/BiFunction"), accessFlags := 25, slot := 2, constantValue := 0 }]
  methods := #[k18m0, k18m1]
  instanceTypes := #[]
  staticTypes := #[(.object "java/util/function/BiFunction"), (.object "java/util/function/BiFunction"), (.object "java/util/function/BiFunction")]
  resolved := Array.replicate 194 none
  statics := some 1 }

def pool19 : Array CpInfo := pool [(9, u "<init>"), (6, .class_ 18), (1, u "java/lang/Object"), (0, u "()V"), (1, .class_ 23), (1, u "jdk/internal/util/ArraysSupport"), (0, u "LOG2_ARRAY_LONG_INDEX_SCALE"), (0, u "I"), (2, u "U"), (0, u "Ljdk/internal/misc/Unsafe;"), (8, u "BIG_ENDIAN"), (0, u "Z"), (8, u "LOG2_BYTE_BIT_SIZE"), (4, u "LOG2_ARRAY_INT_INDEX_SCALE"), (54, u "JLA"), (0, u "Ljdk/internal/access/JavaLangAccess;"), (11, u "LOG2_ARRAY_BOOLEAN_INDEX_SCALE"), (9, u "LOG2_ARRAY_BYTE_INDEX_SCALE"), (5, u "LOG2_ARRAY_CHAR_INDEX_SCALE"), (5, u "LOG2_ARRAY_SHORT_INDEX_SCALE"), (18, u "LOG2_ARRAY_FLOAT_INDEX_SCALE"), (24, u "LOG2_ARRAY_DOUBLE_INDEX_SCALE"), (89, u "T_BOOLEAN"), (2, u "T_CHAR"), (1, u "T_FLOAT"), (1, u "T_DOUBLE"), (1, u "T_BYTE"), (1, u "T_SHORT"), (1, u "T_INT"), (1, u "T_LONG"), (1, u "SOFT_MAX_ARRAY_LENGTH")] 83

def k19m0 : Method := { name := "<init>", desc := "()V", sig := { parameters := [], returnType := none }, accessFlags := 2, code := none }
/-- jdk/internal/util/ArraysSupport -/
def k19 : Class := { plain "jdk/internal/util/ArraysSupport" (some 0) with
  accessFlags := 33
  interfaces := #[]
  cf := some (fileOf pool19 21 #[] #[{ accessFlags := 2, nameIndex := 9, descriptorIndex := 19, attributes := #[] }] 33 16 #[] #[{ accessFlags := 24, nameIndex := 28, descriptorIndex := 29, attributes := #[] }, { accessFlags := 26, nameIndex := 38, descriptorIndex := 39, attributes := #[] }, { accessFlags := 25, nameIndex := 121, descriptorIndex := 25, attributes := #[] }, { accessFlags := 25, nameIndex := 131, descriptorIndex := 25, attributes := #[] }, { accessFlags := 25, nameIndex := 137, descriptorIndex := 25, attributes := #[] }, { accessFlags := 25, nameIndex := 143, descriptorIndex := 25, attributes := #[] }, { accessFlags := 25, nameIndex := 53, descriptorIndex := 25, attributes := #[] }, { accessFlags := 25, nameIndex := 24, descriptorIndex := 25, attributes := #[] }, { accessFlags := 25, nameIndex := 162, descriptorIndex := 25, attributes := #[] }, { accessFlags := 25, nameIndex := 187, descriptorIndex := 25, attributes := #[] }, { accessFlags := 26, nameIndex := 48, descriptorIndex := 25, attributes := #[] }, { accessFlags := 25, nameIndex := 277, descriptorIndex := 25, attributes := #[] }, { accessFlags := 25, nameIndex := 280, descriptorIndex := 25, attributes := #[] }, { accessFlags := 25, nameIndex := 282, descriptorIndex := 25, attributes := #[] }, { accessFlags := 25, nameIndex := 284, descriptorIndex := 25, attributes := #[] }, { accessFlags := 25, nameIndex := 286, descriptorIndex := 25, attributes := #[] }, { accessFlags := 25, nameIndex := 288, descriptorIndex := 25, attributes := #[] }, { accessFlags := 25, nameIndex := 290, descriptorIndex := 25, attributes := #[] }, { accessFlags := 25, nameIndex := 292, descriptorIndex := 25, attributes := #[] }, { accessFlags := 26, nameIndex := 108, descriptorIndex := 109, attributes := #[] }, { accessFlags := 25, nameIndex := 294, descriptorIndex := 25, attributes := #[] }])
  fields := #[{ name := "U", type := (.object "jdk/internal/misc/Unsafe"), accessFlags := 24, slot := 0, constantValue := 0 }, { name := "BIG_ENDIAN", type := .boolean, accessFlags := 26, slot := 1, constantValue := 0 }, { name := "LOG2_ARRAY_BOOLEAN_INDEX_SCALE", type := .int, accessFlags := 25, slot := 2, constantValue := 0 }, { name := "LOG2_ARRAY_BYTE_INDEX_SCALE", type := .int, accessFlags := 25, slot := 3, constantValue := 0 }, { name := "LOG2_ARRAY_CHAR_INDEX_SCALE", type := .int, accessFlags := 25, slot := 4, constantValue := 0 }, { name := "LOG2_ARRAY_SHORT_INDEX_SCALE", type := .int, accessFlags := 25, slot := 5, constantValue := 0 }, { name := "LOG2_ARRAY_INT_INDEX_SCALE", type := .int, accessFlags := 25, slot := 6, constantValue := 0 }, { name := "LOG2_ARRAY_LONG_INDEX_SCALE", type := .int, accessFlags := 25, slot := 7, constantValue := 0 }, { name := "LOG2_ARRAY_FLOAT_INDEX_SCALE", type := .int, accessFlags := 25, slot := 8, constantValue := 0 }, { name := "LOG2_ARRAY_DOUBLE_INDEX_SCALE", type := .int, accessFlags := 25, slot := 9, constantValue := 0 }, { name := "LOG2_BYTE_BIT_SIZE", type := .int, accessFlags := 26, slot := 10, constantValue := 0 }, { name := "T_BOOLEAN", type := .int, accessFlags := 25, slot := 11, constantValue := 0 }, { name := "T_CHAR", type := .int, accessFlags := 25, slot := 12, constantValue := 0 }, { name := "T_FLOAT", type := .int, accessFlags := 25, slot := 13, constantValue := 0 }, { name := "T_DOUBLE", type := .int, accessFlags := 25, slot := 14, constantValue := 0 }, { name := "T_BYTE", type := .int, accessFlags := 25, slot := 15, constantValue := 0 }, { name := "T_SHORT", type := .int, accessFlags := 25, slot := 16, constantValue := 0 }, { name := "T_INT", type := .int, accessFlags := 25, slot := 17, constantValue := 0 }, { name := "T_LONG", type := .int, accessFlags := 25, slot := 18, constantValue := 0 }, { name := "JLA", type := (.object "jdk/internal/access/JavaLangAccess"), accessFlags := 26, slot := 19, constantValue := 0 }, { name := "SOFT_MAX_ARRAY_LENGTH", type := .int, accessFlags := 25, slot := 20, constantValue := 0 }]
  methods := #[k19m0]
  instanceTypes := #[]
  staticTypes := #[(.object "jdk/internal/misc/Unsafe"), .boolean, .int, .int, .int, .int, .int, .int, .int, .int, .int, .int, .int, .int, .int, .int, .int, .int, .int, (.object "jdk/internal/access/JavaLangAccess"), .int]
  resolved := Array.replicate 378 none
  statics := none }

def pool20 : Array CpInfo := pool [(1, u "java/lang/Cloneable"), (0, .class_ 1), (0, u "java/lang/Object"), (0, .class_ 3)] 3

/-- java/lang/Cloneable -/
def k20 : Class := { plain "java/lang/Cloneable" (some 0) with
  accessFlags := 1537
  interfaces := #[]
  cf := some (fileOf pool20 2 #[] #[] 1537 4 #[] #[])
  fields := #[]
  methods := #[]
  instanceTypes := #[]
  staticTypes := #[]
  resolved := Array.replicate 8 none
  statics := none }

/-- the primitive byte -/
def k21 : Class := { plain "byte" none with kind := .primitive 'B', accessFlags := 0x411 }
/-- [B -/
def k22 : Class := { plain "[B" (some 0) with kind := .array 21 .byte, interfaces := #[20, 2], accessFlags := 1041 }

/-- the primitive char -/
def k23 : Class := { plain "char" none with kind := .primitive 'C', accessFlags := 0x411 }
/-- [C -/
def k24 : Class := { plain "[C" (some 0) with kind := .array 23 .char, interfaces := #[20, 2], accessFlags := 1041 }

/-- the primitive int -/
def k25 : Class := { plain "int" none with kind := .primitive 'I', accessFlags := 0x411 }
/-- [I -/
def k26 : Class := { plain "[I" (some 0) with kind := .array 25 .int, interfaces := #[20, 2], accessFlags := 1041 }

def heap : Heap := #[{ cls := 7, slots := #[.long 0, .int 1, .null, .int 0, .null, .int 0, .int 0], vm := .statics 7 },
  { cls := 18, slots := #[.null, .null, .null], vm := .statics 18 }]
def classes : Array Class := #[k0, k1, k2, k3, k4, k5, k6, k7, k8, k9, k10, k11, k12, k13, k14, k15, k16, k17, k18, k19, k20, k21, k22, k23, k24, k25, k26]
def interned : List (Array UInt16 × Addr) := []
def slotsUsed : Nat := 10
def theMethod : MethodId := ⟨1, 5⟩
def args0 : Array Value := #[.int 97, .int 98, .int 5]
def aboutOver (below : List Frame) : State where
  vm := { classes := classes, interned := interned.toArray }
  heap := heap
  slotsUsed := slotsUsed
  threads := #[{ frames := .invoking theMethod args0 :: below }]
def below0 : List Frame := [.native { method := ⟨0, 0⟩, args := #[] }]
def about1 : State := aboutOver below0
def p0 : Program := .bare "" "" ""
def e0 : Env := launch0.env 0 0 0
theorem w_frames : about1.frames = Frame.invoking theMethod args0 :: below0 := rfl
set_option maxRecDepth 65536 in
theorem w_args : argsFit about1.vm theMethod args0 = true := by decide +kernel
set_option maxRecDepth 65536 in
theorem w_heap : heapFits about1 = true := by decide +kernel
set_option maxRecDepth 65536 in
theorem w_runnable : about1.curStatus? = some .runnable := by decide +kernel
set_option maxRecDepth 65536 in
theorem w_alone : about1.alone = true := by decide +kernel
set_option maxRecDepth 65536 in
theorem w_named : about1.methodNamed? x = some theMethod := by decide +kernel
set_option maxRecDepth 65536 in
theorem w_hears : about1.hears theMethod below0 = true := by decide +kernel
set_option maxRecDepth 65536 in
theorem w_ripe : about1.ripe theMethod args0 below0 = true := by decide +kernel
theorem w_running : about1.status = .running := rfl
set_option maxRecDepth 65536 in
theorem w_room : about1.hasRoom e0.platform room_1 = true :=
  launch0.hasRoom_least _ room_1 (by decide +kernel) (by decide +kernel) (by decide +kernel) (by decide +kernel) (by decide +kernel) (by decide +kernel)
theorem allAtoms_all (ts : List Jvm.Cond) (a : Array Jvm.Value) (st : Jvm.State) : (allAtoms ts).before a st = ts.all (fun c => c.before a st) := by
  induction ts with
  | nil => rfl
  | cons c t ih =>
    show (Jvm.Cond.and c (allAtoms t)).before a st = _
    rw [Jvm.Cond.before_and, ih, List.all_cons]
def words1 : List Jvm.Cond := Jvm.Cond.code x code maxLocals ret :: tables_1
/-- a 'code' word, met by the world's own term for the bytes: nothing is compared byte by byte -/
theorem code_word {y : MethodName} {bytes : ByteArray} {mx : Nat} {rt : Option FieldType} {a : Array Value} {s : State} {m : MethodId} {meth : Method} {c : Code} (h1 : s.methodNamed? y = some m) (h2 : s.vm.method? m = some meth) (h3 : meth.code = some c) (h4 : c.code = bytes)
    (h5 : (c.maxLocals == mx && c.exceptionTable.isEmpty && decide (c.maxStack ≤ mostOperands) && decide (meth.sig.returnType = rt) && !meth.locks && decide (parseMethodDescriptor y.desc = some meth.sig)) = true) : (Jvm.Cond.code y bytes mx rt).before a s = true := by
  simp only [Bool.and_eq_true, beq_iff_eq, Bool.not_eq_true', decide_eq_true_eq] at h5
  obtain ⟨⟨⟨⟨⟨g1, g2⟩, g3⟩, g4⟩, g5⟩, g6⟩ := h5
  simp [Cond.before, Cond.holds, Cond.value, h1, h2, h3, h4, g1, g2, g3, g4, g5, g6]
def isCode : Jvm.Cond → Bool
  | .code _ _ _ _ => true
  | _ => false
theorem all_split {L : List Jvm.Cond} {P : Jvm.Cond → Bool} (h1 : L.all (fun c => isCode c || P c) = true) (h2 : ∀ c ∈ L.filter isCode, P c = true) : L.all P = true := by
  refine List.all_eq_true.mpr fun c hc => ?_
  have h := List.all_eq_true.mp h1 c hc
  rcases Bool.eq_false_or_eq_true (isCode c) with hi | hi
  · exact h2 c (List.mem_filter.mpr ⟨hc, hi⟩)
  · simpa [hi] using h
set_option maxRecDepth 65536 in
theorem w_c0 : (Jvm.Cond.code x code maxLocals ret).before args0 about1 = true := code_word (m := ⟨1, 5⟩) (meth := k1m5) (c := k1c5) (by decide +kernel) rfl rfl rfl (by decide +kernel)
set_option maxRecDepth 65536 in
theorem w_c1 : (Jvm.Cond.code ({ cls := "com/example/incomewright/incomewright/casefile/ProblemToStringPinLaw", name := "str", desc := "(ICC)Ljava/lang/String;" } : Jvm.MethodName) method_2_code (3 : Nat) (Option.some (Jvm.ClassFile.FieldType.object "java/lang/String"))).before args0 about1 = true := code_word (m := ⟨1, 1⟩) (meth := k1m1) (c := k1c1) (by decide +kernel) rfl rfl rfl (by decide +kernel)
set_option maxRecDepth 65536 in
theorem w_c2 : (Jvm.Cond.code ({ cls := "java/lang/String", name := "<init>", desc := "([C)V" } : Jvm.MethodName) jdk_42_method_3_code (2 : Nat) (Option.none : Option Jvm.ClassFile.FieldType)).before args0 about1 = true := code_word (m := ⟨7, 1⟩) (meth := k7m1) (c := k7c1) (by decide +kernel) rfl rfl rfl (by decide +kernel)
set_option maxRecDepth 65536 in
theorem w_c3 : (Jvm.Cond.code ({ cls := "java/lang/String", name := "<init>", desc := "([CIILjava/lang/Void;)V" } : Jvm.MethodName) jdk_42_method_149_code (6 : Nat) (Option.none : Option Jvm.ClassFile.FieldType)).before args0 about1 = true := code_word (m := ⟨7, 7⟩) (meth := k7m7) (c := k7c7) (by decide +kernel) rfl rfl rfl (by decide +kernel)
set_option maxRecDepth 65536 in
theorem w_c4 : (Jvm.Cond.code ({ cls := "java/lang/Object", name := "<init>", desc := "()V" } : Jvm.MethodName) object_method_1_code (1 : Nat) (Option.none : Option Jvm.ClassFile.FieldType)).before args0 about1 = true := code_word (m := ⟨0, 0⟩) (meth := k0m0) (c := k0c0) (by decide +kernel) rfl rfl rfl (by decide +kernel)
set_option maxRecDepth 65536 in
theorem w_c5 : (Jvm.Cond.code ({ cls := "java/lang/StringUTF16", name := "compress", desc := "([CII)[B" } : Jvm.MethodName) jdk_52_method_16_code (6 : Nat) (Option.some (Jvm.ClassFile.FieldType.array Jvm.ClassFile.FieldType.byte))).before args0 about1 = true := code_word (m := ⟨8, 2⟩) (meth := k8m2) (c := k8c2) (by decide +kernel) rfl rfl rfl (by decide +kernel)
set_option maxRecDepth 65536 in
theorem w_c6 : (Jvm.Cond.code ({ cls := "java/lang/StringUTF16", name := "compress", desc := "([CI[BII)I" } : Jvm.MethodName) jdk_52_method_21_code (7 : Nat) (Option.some Jvm.ClassFile.FieldType.int)).before args0 about1 = true := code_word (m := ⟨8, 3⟩) (meth := k8m3) (c := k8c3) (by decide +kernel) rfl rfl rfl (by decide +kernel)
set_option maxRecDepth 65536 in
theorem w_c7 : (Jvm.Cond.code ({ cls := "java/lang/StringUTF16", name := "coderFromArrayLen", desc := "([BI)B" } : Jvm.MethodName) jdk_52_method_15_code (2 : Nat) (Option.some Jvm.ClassFile.FieldType.byte)).before args0 about1 = true := code_word (m := ⟨8, 1⟩) (meth := k8m1) (c := k8c1) (by decide +kernel) rfl rfl rfl (by decide +kernel)
set_option maxRecDepth 65536 in
theorem w_c8 : (Jvm.Cond.code ({ cls := "com/example/incomewright/incomewright/casefile/Problem", name := "<init>", desc := "(Ljava/lang/String;Ljava/lang/String;)V" } : Jvm.MethodName) prog_9_method_1_code (3 : Nat) (Option.none : Option Jvm.ClassFile.FieldType)).before args0 about1 = true := code_word (m := ⟨9, 0⟩) (meth := k9m0) (c := k9c0) (by decide +kernel) rfl rfl rfl (by decide +kernel)
set_option maxRecDepth 65536 in
theorem w_c9 : (Jvm.Cond.code ({ cls := "java/util/Objects", name := "requireNonNull", desc := "(Ljava/lang/Object;Ljava/lang/String;)Ljava/lang/Object;" } : Jvm.MethodName) jdk_31_method_11_code (2 : Nat) (Option.some (Jvm.ClassFile.FieldType.object "java/lang/Object"))).before args0 about1 = true := code_word (m := ⟨10, 1⟩) (meth := k10m1) (c := k10c1) (by decide +kernel) rfl rfl rfl (by decide +kernel)
set_option maxRecDepth 65536 in
theorem w_c10 : (Jvm.Cond.code ({ cls := "com/example/incomewright/incomewright/casefile/Problem", name := "toString", desc := "()Ljava/lang/String;" } : Jvm.MethodName) prog_9_method_4_code (1 : Nat) (Option.some (Jvm.ClassFile.FieldType.object "java/lang/String"))).before args0 about1 = true := code_word (m := ⟨9, 1⟩) (meth := k9m1) (c := k9c1) (by decide +kernel) rfl rfl rfl (by decide +kernel)
set_option maxRecDepth 65536 in
theorem w_c11 : (Jvm.Cond.code ({ cls := "java/lang/String", name := "isEmpty", desc := "()Z" } : Jvm.MethodName) jdk_42_method_55_code (1 : Nat) (Option.some Jvm.ClassFile.FieldType.boolean)).before args0 about1 = true := code_word (m := ⟨7, 4⟩) (meth := k7m4) (c := k7c4) (by decide +kernel) rfl rfl rfl (by decide +kernel)
set_option maxRecDepth 65536 in
theorem w_c12 : (Jvm.Cond.code ({ cls := "java/lang/StringBuilder", name := "<init>", desc := "()V" } : Jvm.MethodName) jdk_67_method_1_code (1 : Nat) (Option.none : Option Jvm.ClassFile.FieldType)).before args0 about1 = true := code_word (m := ⟨13, 0⟩) (meth := k13m0) (c := k13c0) (by decide +kernel) rfl rfl rfl (by decide +kernel)
set_option maxRecDepth 65536 in
theorem w_c13 : (Jvm.Cond.code ({ cls := "java/lang/AbstractStringBuilder", name := "<init>", desc := "(I)V" } : Jvm.MethodName) jdk_68_method_2_code (2 : Nat) (Option.none : Option Jvm.ClassFile.FieldType)).before args0 about1 = true := code_word (m := ⟨12, 1⟩) (meth := k12m1) (c := k12c1) (by decide +kernel) rfl rfl rfl (by decide +kernel)
set_option maxRecDepth 65536 in
theorem w_c14 : (Jvm.Cond.code ({ cls := "java/lang/StringBuilder", name := "append", desc := "(Ljava/lang/String;)Ljava/lang/StringBuilder;" } : Jvm.MethodName) jdk_67_method_7_code (2 : Nat) (Option.some (Jvm.ClassFile.FieldType.object "java/lang/StringBuilder"))).before args0 about1 = true := code_word (m := ⟨13, 1⟩) (meth := k13m1) (c := k13c1) (by decide +kernel) rfl rfl rfl (by decide +kernel)
set_option maxRecDepth 65536 in
theorem w_c15 : (Jvm.Cond.code ({ cls := "java/lang/AbstractStringBuilder", name := "append", desc := "(Ljava/lang/String;)Ljava/lang/AbstractStringBuilder;" } : Jvm.MethodName) jdk_68_method_22_code (3 : Nat) (Option.some (Jvm.ClassFile.FieldType.object "java/lang/AbstractStringBuilder"))).before args0 about1 = true := code_word (m := ⟨12, 4⟩) (meth := k12m4) (c := k12c4) (by decide +kernel) rfl rfl rfl (by decide +kernel)
set_option maxRecDepth 65536 in
theorem w_c16 : (Jvm.Cond.code ({ cls := "java/lang/String", name := "length", desc := "()I" } : Jvm.MethodName) jdk_42_method_54_code (1 : Nat) (Option.some Jvm.ClassFile.FieldType.int)).before args0 about1 = true := code_word (m := ⟨7, 3⟩) (meth := k7m3) (c := k7c3) (by decide +kernel) rfl rfl rfl (by decide +kernel)
set_option maxRecDepth 65536 in
theorem w_c17 : (Jvm.Cond.code ({ cls := "java/lang/String", name := "coder", desc := "()B" } : Jvm.MethodName) jdk_42_method_152_code (1 : Nat) (Option.some Jvm.ClassFile.FieldType.byte)).before args0 about1 = true := code_word (m := ⟨7, 9⟩) (meth := k7m9) (c := k7c9) (by decide +kernel) rfl rfl rfl (by decide +kernel)
set_option maxRecDepth 65536 in
theorem w_c18 : (Jvm.Cond.code ({ cls := "java/lang/AbstractStringBuilder", name := "ensureCapacityInternal", desc := "(I)V" } : Jvm.MethodName) jdk_68_method_9_code (3 : Nat) (Option.none : Option Jvm.ClassFile.FieldType)).before args0 about1 = true := code_word (m := ⟨12, 3⟩) (meth := k12m3) (c := k12c3) (by decide +kernel) rfl rfl rfl (by decide +kernel)
set_option maxRecDepth 65536 in
theorem w_c19 : (Jvm.Cond.code ({ cls := "java/lang/AbstractStringBuilder", name := "putStringAt", desc := "(ILjava/lang/String;)V" } : Jvm.MethodName) jdk_68_method_73_code (3 : Nat) (Option.none : Option Jvm.ClassFile.FieldType)).before args0 about1 = true := code_word (m := ⟨12, 8⟩) (meth := k12m8) (c := k12c8) (by decide +kernel) rfl rfl rfl (by decide +kernel)
set_option maxRecDepth 65536 in
theorem w_c20 : (Jvm.Cond.code ({ cls := "java/lang/AbstractStringBuilder", name := "inflateIfNeededFor", desc := "(Ljava/lang/String;)V" } : Jvm.MethodName) jdk_68_method_71_code (2 : Nat) (Option.none : Option Jvm.ClassFile.FieldType)).before args0 about1 = true := code_word (m := ⟨12, 7⟩) (meth := k12m7) (c := k12c7) (by decide +kernel) rfl rfl rfl (by decide +kernel)
set_option maxRecDepth 65536 in
theorem w_c21 : (Jvm.Cond.code ({ cls := "java/lang/String", name := "getBytes", desc := "([BIB)V" } : Jvm.MethodName) jdk_42_method_147_code (4 : Nat) (Option.none : Option Jvm.ClassFile.FieldType)).before args0 about1 = true := code_word (m := ⟨7, 6⟩) (meth := k7m6) (c := k7c6) (by decide +kernel) rfl rfl rfl (by decide +kernel)
set_option maxRecDepth 65536 in
theorem w_c22 : (Jvm.Cond.code ({ cls := "java/lang/StringBuilder", name := "toString", desc := "()Ljava/lang/String;" } : Jvm.MethodName) jdk_67_method_42_code (1 : Nat) (Option.some (Jvm.ClassFile.FieldType.object "java/lang/String"))).before args0 about1 = true := code_word (m := ⟨13, 2⟩) (meth := k13m2) (c := k13c2) (by decide +kernel) rfl rfl rfl (by decide +kernel)
set_option maxRecDepth 65536 in
theorem w_c23 : (Jvm.Cond.code ({ cls := "java/lang/String", name := "<init>", desc := "(Ljava/lang/StringBuilder;)V" } : Jvm.MethodName) jdk_42_method_53_code (2 : Nat) (Option.none : Option Jvm.ClassFile.FieldType)).before args0 about1 = true := code_word (m := ⟨7, 2⟩) (meth := k7m2) (c := k7c2) (by decide +kernel) rfl rfl rfl (by decide +kernel)
set_option maxRecDepth 65536 in
theorem w_c24 : (Jvm.Cond.code ({ cls := "java/lang/String", name := "<init>", desc := "(Ljava/lang/AbstractStringBuilder;Ljava/lang/Void;)V" } : Jvm.MethodName) jdk_42_method_150_code (5 : Nat) (Option.none : Option Jvm.ClassFile.FieldType)).before args0 about1 = true := code_word (m := ⟨7, 8⟩) (meth := k7m8) (c := k7c8) (by decide +kernel) rfl rfl rfl (by decide +kernel)
set_option maxRecDepth 65536 in
theorem w_c25 : (Jvm.Cond.code ({ cls := "java/lang/AbstractStringBuilder", name := "getValue", desc := "()[B" } : Jvm.MethodName) jdk_68_method_64_code (1 : Nat) (Option.some (Jvm.ClassFile.FieldType.array Jvm.ClassFile.FieldType.byte))).before args0 about1 = true := code_word (m := ⟨12, 5⟩) (meth := k12m5) (c := k12c5) (by decide +kernel) rfl rfl rfl (by decide +kernel)
set_option maxRecDepth 65536 in
theorem w_c26 : (Jvm.Cond.code ({ cls := "java/lang/StringBuilder", name := "length", desc := "()I" } : Jvm.MethodName) jdk_67_method_93_code (1 : Nat) (Option.some Jvm.ClassFile.FieldType.int)).before args0 about1 = true := code_word (m := ⟨13, 3⟩) (meth := k13m3) (c := k13c3) (by decide +kernel) rfl rfl rfl (by decide +kernel)
set_option maxRecDepth 65536 in
theorem w_c27 : (Jvm.Cond.code ({ cls := "java/lang/AbstractStringBuilder", name := "length", desc := "()I" } : Jvm.MethodName) jdk_68_method_6_code (1 : Nat) (Option.some Jvm.ClassFile.FieldType.int)).before args0 about1 = true := code_word (m := ⟨12, 2⟩) (meth := k12m2) (c := k12c2) (by decide +kernel) rfl rfl rfl (by decide +kernel)
set_option maxRecDepth 65536 in
theorem w_c28 : (Jvm.Cond.code ({ cls := "java/lang/AbstractStringBuilder", name := "isLatin1", desc := "()Z" } : Jvm.MethodName) jdk_68_method_68_code (1 : Nat) (Option.some Jvm.ClassFile.FieldType.boolean)).before args0 about1 = true := code_word (m := ⟨12, 6⟩) (meth := k12m6) (c := k12c6) (by decide +kernel) rfl rfl rfl (by decide +kernel)
set_option maxRecDepth 65536 in
theorem w_c29 : (Jvm.Cond.code ({ cls := "java/util/Arrays", name := "copyOfRange", desc := "([BII)[B" } : Jvm.MethodName) jdk_65_method_132_code (3 : Nat) (Option.some (Jvm.ClassFile.FieldType.array Jvm.ClassFile.FieldType.byte))).before args0 about1 = true := code_word (m := ⟨15, 2⟩) (meth := k15m2) (c := k15c2) (by decide +kernel) rfl rfl rfl (by decide +kernel)
set_option maxRecDepth 65536 in
theorem w_c30 : (Jvm.Cond.code ({ cls := "java/util/Arrays", name := "copyOfRangeByte", desc := "([BII)[B" } : Jvm.MethodName) jdk_65_method_133_code (5 : Nat) (Option.some (Jvm.ClassFile.FieldType.array Jvm.ClassFile.FieldType.byte))).before args0 about1 = true := code_word (m := ⟨15, 3⟩) (meth := k15m3) (c := k15c3) (by decide +kernel) rfl rfl rfl (by decide +kernel)
set_option maxRecDepth 65536 in
theorem w_c31 : (Jvm.Cond.code ({ cls := "java/util/Arrays", name := "checkLength", desc := "(II)V" } : Jvm.MethodName) jdk_65_method_131_code (2 : Nat) (Option.none : Option Jvm.ClassFile.FieldType)).before args0 about1 = true := code_word (m := ⟨15, 1⟩) (meth := k15m1) (c := k15c1) (by decide +kernel) rfl rfl rfl (by decide +kernel)
set_option maxRecDepth 65536 in
theorem w_c32 : (Jvm.Cond.code ({ cls := "java/lang/Math", name := "min", desc := "(II)I" } : Jvm.MethodName) jdk_29_method_69_code (2 : Nat) (Option.some Jvm.ClassFile.FieldType.int)).before args0 about1 = true := code_word (m := ⟨16, 1⟩) (meth := k16m1) (c := k16c1) (by decide +kernel) rfl rfl rfl (by decide +kernel)
set_option maxRecDepth 65536 in
theorem w_c33 : (Jvm.Cond.code ({ cls := "com/example/incomewright/incomewright/casefile/ProblemToStringPinLaw", name := "at", desc := "(Ljava/lang/String;IIICCCC)Z" } : Jvm.MethodName) method_5_code (8 : Nat) (Option.some Jvm.ClassFile.FieldType.boolean)).before args0 about1 = true := code_word (m := ⟨1, 4⟩) (meth := k1m4) (c := k1c4) (by decide +kernel) rfl rfl rfl (by decide +kernel)
set_option maxRecDepth 65536 in
theorem w_c34 : (Jvm.Cond.code ({ cls := "java/lang/String", name := "charAt", desc := "(I)C" } : Jvm.MethodName) jdk_42_method_56_code (2 : Nat) (Option.some Jvm.ClassFile.FieldType.char)).before args0 about1 = true := code_word (m := ⟨7, 5⟩) (meth := k7m5) (c := k7c5) (by decide +kernel) rfl rfl rfl (by decide +kernel)
set_option maxRecDepth 65536 in
theorem w_c35 : (Jvm.Cond.code ({ cls := "java/lang/String", name := "isLatin1", desc := "()Z" } : Jvm.MethodName) jdk_42_method_154_code (1 : Nat) (Option.some Jvm.ClassFile.FieldType.boolean)).before args0 about1 = true := code_word (m := ⟨7, 10⟩) (meth := k7m10) (c := k7c10) (by decide +kernel) rfl rfl rfl (by decide +kernel)
set_option maxRecDepth 65536 in
theorem w_c36 : (Jvm.Cond.code ({ cls := "java/lang/StringLatin1", name := "charAt", desc := "([BI)C" } : Jvm.MethodName) jdk_43_method_2_code (2 : Nat) (Option.some Jvm.ClassFile.FieldType.char)).before args0 about1 = true := code_word (m := ⟨17, 1⟩) (meth := k17m1) (c := k17c1) (by decide +kernel) rfl rfl rfl (by decide +kernel)
set_option maxRecDepth 65536 in
theorem w_c37 : (Jvm.Cond.code ({ cls := "java/lang/String", name := "checkIndex", desc := "(II)V" } : Jvm.MethodName) jdk_42_method_155_code (2 : Nat) (Option.none : Option Jvm.ClassFile.FieldType)).before args0 about1 = true := code_word (m := ⟨7, 11⟩) (meth := k7m11) (c := k7c11) (by decide +kernel) rfl rfl rfl (by decide +kernel)
set_option maxRecDepth 65536 in
theorem w_c38 : (Jvm.Cond.code ({ cls := "jdk/internal/util/Preconditions", name := "checkIndex", desc := "(IILjava/util/function/BiFunction;)I" } : Jvm.MethodName) jdk_41_method_11_code (3 : Nat) (Option.some Jvm.ClassFile.FieldType.int)).before args0 about1 = true := code_word (m := ⟨18, 1⟩) (meth := k18m1) (c := k18c1) (by decide +kernel) rfl rfl rfl (by decide +kernel)
set_option maxRecDepth 65536 in
theorem w_c39 : (Jvm.Cond.code ({ cls := "com/example/incomewright/incomewright/casefile/ProblemToStringPinLaw", name := "expChar", desc := "(IICCCC)C" } : Jvm.MethodName) method_4_code (6 : Nat) (Option.some Jvm.ClassFile.FieldType.char)).before args0 about1 = true := code_word (m := ⟨1, 3⟩) (meth := k1m3) (c := k1c3) (by decide +kernel) rfl rfl rfl (by decide +kernel)
set_option maxRecDepth 65536 in
theorem w_c40 : (Jvm.Cond.code ({ cls := "com/example/incomewright/incomewright/casefile/ProblemToStringPinLaw", name := "pick", desc := "(ICC)C" } : Jvm.MethodName) method_3_code (3 : Nat) (Option.some Jvm.ClassFile.FieldType.char)).before args0 about1 = true := code_word (m := ⟨1, 2⟩) (meth := k1m2) (c := k1c2) (by decide +kernel) rfl rfl rfl (by decide +kernel)
def codes1 : List Jvm.Cond := [Jvm.Cond.code x code maxLocals ret, Jvm.Cond.code ({ cls := "com/example/incomewright/incomewright/casefile/ProblemToStringPinLaw", name := "str", desc := "(ICC)Ljava/lang/String;" } : Jvm.MethodName) method_2_code (3 : Nat) (Option.some (Jvm.ClassFile.FieldType.object "java/lang/String")), Jvm.Cond.code ({ cls := "java/lang/String", name := "<init>", desc := "([C)V" } : Jvm.MethodName) jdk_42_method_3_code (2 : Nat) (Option.none : Option Jvm.ClassFile.FieldType), Jvm.Cond.code ({ cls := "java/lang/String", name := "<init>", desc := "([CIILjava/lang/Void;)V" } : Jvm.MethodName) jdk_42_method_149_code (6 : Nat) (Option.none : Option Jvm.ClassFile.FieldType), Jvm.Cond.code ({ cls := "java/lang/Object", name := "<init>", desc := "()V" } : Jvm.MethodName) object_method_1_code (1 : Nat) (Option.none : Option Jvm.ClassFile.FieldType), Jvm.Cond.code ({ cls := "java/lang/StringUTF16", name := "compress", desc := "([CII)[B" } : Jvm.MethodName) jdk_52_method_16_code (6 : Nat) (Option.some (Jvm.ClassFile.FieldType.array Jvm.ClassFile.FieldType.byte)), Jvm.Cond.code ({ cls := "java/lang/StringUTF16", name := "compress", desc := "([CI[BII)I" } : Jvm.MethodName) jdk_52_method_21_code (7 : Nat) (Option.some Jvm.ClassFile.FieldType.int), Jvm.Cond.code ({ cls := "java/lang/StringUTF16", name := "coderFromArrayLen", desc := "([BI)B" } : Jvm.MethodName) jdk_52_method_15_code (2 : Nat) (Option.some Jvm.ClassFile.FieldType.byte), Jvm.Cond.code ({ cls := "com/example/incomewright/incomewright/casefile/Problem", name := "<init>", desc := "(Ljava/lang/String;Ljava/lang/String;)V" } : Jvm.MethodName) prog_9_method_1_code (3 : Nat) (Option.none : Option Jvm.ClassFile.FieldType), Jvm.Cond.code ({ cls := "java/util/Objects", name := "requireNonNull", desc := "(Ljava/lang/Object;Ljava/lang/String;)Ljava/lang/Object;" } : Jvm.MethodName) jdk_31_method_11_code (2 : Nat) (Option.some (Jvm.ClassFile.FieldType.object "java/lang/Object")), Jvm.Cond.code ({ cls := "com/example/incomewright/incomewright/casefile/Problem", name := "toString", desc := "()Ljava/lang/String;" } : Jvm.MethodName) prog_9_method_4_code (1 : Nat) (Option.some (Jvm.ClassFile.FieldType.object "java/lang/String")), Jvm.Cond.code ({ cls := "java/lang/String", name := "isEmpty", desc := "()Z" } : Jvm.MethodName) jdk_42_method_55_code (1 : Nat) (Option.some Jvm.ClassFile.FieldType.boolean), Jvm.Cond.code ({ cls := "java/lang/StringBuilder", name := "<init>", desc := "()V" } : Jvm.MethodName) jdk_67_method_1_code (1 : Nat) (Option.none : Option Jvm.ClassFile.FieldType), Jvm.Cond.code ({ cls := "java/lang/AbstractStringBuilder", name := "<init>", desc := "(I)V" } : Jvm.MethodName) jdk_68_method_2_code (2 : Nat) (Option.none : Option Jvm.ClassFile.FieldType), Jvm.Cond.code ({ cls := "java/lang/StringBuilder", name := "append", desc := "(Ljava/lang/String;)Ljava/lang/StringBuilder;" } : Jvm.MethodName) jdk_67_method_7_code (2 : Nat) (Option.some (Jvm.ClassFile.FieldType.object "java/lang/StringBuilder")), Jvm.Cond.code ({ cls := "java/lang/AbstractStringBuilder", name := "append", desc := "(Ljava/lang/String;)Ljava/lang/AbstractStringBuilder;" } : Jvm.MethodName) jdk_68_method_22_code (3 : Nat) (Option.some (Jvm.ClassFile.FieldType.object "java/lang/AbstractStringBuilder")), Jvm.Cond.code ({ cls := "java/lang/String", name := "length", desc := "()I" } : Jvm.MethodName) jdk_42_method_54_code (1 : Nat) (Option.some Jvm.ClassFile.FieldType.int), Jvm.Cond.code ({ cls := "java/lang/String", name := "coder", desc := "()B" } : Jvm.MethodName) jdk_42_method_152_code (1 : Nat) (Option.some Jvm.ClassFile.FieldType.byte), Jvm.Cond.code ({ cls := "java/lang/AbstractStringBuilder", name := "ensureCapacityInternal", desc := "(I)V" } : Jvm.MethodName) jdk_68_method_9_code (3 : Nat) (Option.none : Option Jvm.ClassFile.FieldType), Jvm.Cond.code ({ cls := "java/lang/AbstractStringBuilder", name := "putStringAt", desc := "(ILjava/lang/String;)V" } : Jvm.MethodName) jdk_68_method_73_code (3 : Nat) (Option.none : Option Jvm.ClassFile.FieldType), Jvm.Cond.code ({ cls := "java/lang/AbstractStringBuilder", name := "inflateIfNeededFor", desc := "(Ljava/lang/String;)V" } : Jvm.MethodName) jdk_68_method_71_code (2 : Nat) (Option.none : Option Jvm.ClassFile.FieldType), Jvm.Cond.code ({ cls := "java/lang/String", name := "getBytes", desc := "([BIB)V" } : Jvm.MethodName) jdk_42_method_147_code (4 : Nat) (Option.none : Option Jvm.ClassFile.FieldType), Jvm.Cond.code ({ cls := "java/lang/StringBuilder", name := "toString", desc := "()Ljava/lang/String;" } : Jvm.MethodName) jdk_67_method_42_code (1 : Nat) (Option.some (Jvm.ClassFile.FieldType.object "java/lang/String")), Jvm.Cond.code ({ cls := "java/lang/String", name := "<init>", desc := "(Ljava/lang/StringBuilder;)V" } : Jvm.MethodName) jdk_42_method_53_code (2 : Nat) (Option.none : Option Jvm.ClassFile.FieldType), Jvm.Cond.code ({ cls := "java/lang/String", name := "<init>", desc := "(Ljava/lang/AbstractStringBuilder;Ljava/lang/Void;)V" } : Jvm.MethodName) jdk_42_method_150_code (5 : Nat) (Option.none : Option Jvm.ClassFile.FieldType), Jvm.Cond.code ({ cls := "java/lang/AbstractStringBuilder", name := "getValue", desc := "()[B" } : Jvm.MethodName) jdk_68_method_64_code (1 : Nat) (Option.some (Jvm.ClassFile.FieldType.array Jvm.ClassFile.FieldType.byte)), Jvm.Cond.code ({ cls := "java/lang/StringBuilder", name := "length", desc := "()I" } : Jvm.MethodName) jdk_67_method_93_code (1 : Nat) (Option.some Jvm.ClassFile.FieldType.int), Jvm.Cond.code ({ cls := "java/lang/AbstractStringBuilder", name := "length", desc := "()I" } : Jvm.MethodName) jdk_68_method_6_code (1 : Nat) (Option.some Jvm.ClassFile.FieldType.int), Jvm.Cond.code ({ cls := "java/lang/AbstractStringBuilder", name := "isLatin1", desc := "()Z" } : Jvm.MethodName) jdk_68_method_68_code (1 : Nat) (Option.some Jvm.ClassFile.FieldType.boolean), Jvm.Cond.code ({ cls := "java/util/Arrays", name := "copyOfRange", desc := "([BII)[B" } : Jvm.MethodName) jdk_65_method_132_code (3 : Nat) (Option.some (Jvm.ClassFile.FieldType.array Jvm.ClassFile.FieldType.byte)), Jvm.Cond.code ({ cls := "java/util/Arrays", name := "copyOfRangeByte", desc := "([BII)[B" } : Jvm.MethodName) jdk_65_method_133_code (5 : Nat) (Option.some (Jvm.ClassFile.FieldType.array Jvm.ClassFile.FieldType.byte)), Jvm.Cond.code ({ cls := "java/util/Arrays", name := "checkLength", desc := "(II)V" } : Jvm.MethodName) jdk_65_method_131_code (2 : Nat) (Option.none : Option Jvm.ClassFile.FieldType), Jvm.Cond.code ({ cls := "java/lang/Math", name := "min", desc := "(II)I" } : Jvm.MethodName) jdk_29_method_69_code (2 : Nat) (Option.some Jvm.ClassFile.FieldType.int), Jvm.Cond.code ({ cls := "com/example/incomewright/incomewright/casefile/ProblemToStringPinLaw", name := "at", desc := "(Ljava/lang/String;IIICCCC)Z" } : Jvm.MethodName) method_5_code (8 : Nat) (Option.some Jvm.ClassFile.FieldType.boolean), Jvm.Cond.code ({ cls := "java/lang/String", name := "charAt", desc := "(I)C" } : Jvm.MethodName) jdk_42_method_56_code (2 : Nat) (Option.some Jvm.ClassFile.FieldType.char), Jvm.Cond.code ({ cls := "java/lang/String", name := "isLatin1", desc := "()Z" } : Jvm.MethodName) jdk_42_method_154_code (1 : Nat) (Option.some Jvm.ClassFile.FieldType.boolean), Jvm.Cond.code ({ cls := "java/lang/StringLatin1", name := "charAt", desc := "([BI)C" } : Jvm.MethodName) jdk_43_method_2_code (2 : Nat) (Option.some Jvm.ClassFile.FieldType.char), Jvm.Cond.code ({ cls := "java/lang/String", name := "checkIndex", desc := "(II)V" } : Jvm.MethodName) jdk_42_method_155_code (2 : Nat) (Option.none : Option Jvm.ClassFile.FieldType), Jvm.Cond.code ({ cls := "jdk/internal/util/Preconditions", name := "checkIndex", desc := "(IILjava/util/function/BiFunction;)I" } : Jvm.MethodName) jdk_41_method_11_code (3 : Nat) (Option.some Jvm.ClassFile.FieldType.int), Jvm.Cond.code ({ cls := "com/example/incomewright/incomewright/casefile/ProblemToStringPinLaw", name := "expChar", desc := "(IICCCC)C" } : Jvm.MethodName) method_4_code (6 : Nat) (Option.some Jvm.ClassFile.FieldType.char), Jvm.Cond.code ({ cls := "com/example/incomewright/incomewright/casefile/ProblemToStringPinLaw", name := "pick", desc := "(ICC)C" } : Jvm.MethodName) method_3_code (3 : Nat) (Option.some Jvm.ClassFile.FieldType.char)]
set_option maxRecDepth 65536 in
theorem codes_eq : words1.filter isCode = codes1 := rfl
theorem w_codes : ∀ c ∈ words1.filter isCode, c.before args0 about1 = true := by
  rw [codes_eq]
  intro c hc
  simp only [codes1, List.mem_cons, List.not_mem_nil, or_false] at hc
  rcases hc with rfl | rfl | rfl | rfl | rfl | rfl | rfl | rfl | rfl | rfl | rfl | rfl | rfl | rfl | rfl | rfl | rfl | rfl | rfl | rfl | rfl | rfl | rfl | rfl | rfl | rfl | rfl | rfl | rfl | rfl | rfl | rfl | rfl | rfl | rfl | rfl | rfl | rfl | rfl | rfl | rfl
  · exact w_c0
  · exact w_c1
  · exact w_c2
  · exact w_c3
  · exact w_c4
  · exact w_c5
  · exact w_c6
  · exact w_c7
  · exact w_c8
  · exact w_c9
  · exact w_c10
  · exact w_c11
  · exact w_c12
  · exact w_c13
  · exact w_c14
  · exact w_c15
  · exact w_c16
  · exact w_c17
  · exact w_c18
  · exact w_c19
  · exact w_c20
  · exact w_c21
  · exact w_c22
  · exact w_c23
  · exact w_c24
  · exact w_c25
  · exact w_c26
  · exact w_c27
  · exact w_c28
  · exact w_c29
  · exact w_c30
  · exact w_c31
  · exact w_c32
  · exact w_c33
  · exact w_c34
  · exact w_c35
  · exact w_c36
  · exact w_c37
  · exact w_c38
  · exact w_c39
  · exact w_c40
set_option maxRecDepth 65536 in
theorem w_t1 : (words1.take 24).all (fun c => isCode c || c.before args0 about1) = true := by decide +kernel
set_option maxRecDepth 65536 in
theorem w_t2 : ((words1.drop 24).take 24).all (fun c => isCode c || c.before args0 about1) = true := by decide +kernel
set_option maxRecDepth 65536 in
theorem w_t3 : (((words1.drop 24).drop 24).take 24).all (fun c => isCode c || c.before args0 about1) = true := by decide +kernel
set_option maxRecDepth 65536 in
theorem w_t4 : ((((words1.drop 24).drop 24).drop 24).take 24).all (fun c => isCode c || c.before args0 about1) = true := by decide +kernel
set_option maxRecDepth 65536 in
theorem w_t5 : (((((words1.drop 24).drop 24).drop 24).drop 24).take 24).all (fun c => isCode c || c.before args0 about1) = true := by decide +kernel
set_option maxRecDepth 65536 in
theorem w_t6 : ((((((words1.drop 24).drop 24).drop 24).drop 24).drop 24).take 24).all (fun c => isCode c || c.before args0 about1) = true := by decide +kernel
set_option maxRecDepth 65536 in
theorem w_t7 : (((((((words1.drop 24).drop 24).drop 24).drop 24).drop 24).drop 24).take 24).all (fun c => isCode c || c.before args0 about1) = true := by decide +kernel
set_option maxRecDepth 65536 in
theorem w_t8 : ((((((((words1.drop 24).drop 24).drop 24).drop 24).drop 24).drop 24).drop 24).take 24).all (fun c => isCode c || c.before args0 about1) = true := by decide +kernel
set_option maxRecDepth 65536 in
theorem w_t9 : ((((((((words1.drop 24).drop 24).drop 24).drop 24).drop 24).drop 24).drop 24).drop 24).all (fun c => isCode c || c.before args0 about1) = true := by decide +kernel
theorem w_tables : (allAtoms (Jvm.Cond.code x code maxLocals ret :: tables_1)).before args0 about1 = true := by
  rw [allAtoms_all]
  show words1.all (fun c => c.before args0 about1) = true
  refine all_split ?_ w_codes
  rw [← List.take_append_drop 24 words1, List.all_append, w_t1, ← List.take_append_drop 24 (words1.drop 24), List.all_append, w_t2, ← List.take_append_drop 24 ((words1.drop 24).drop 24), List.all_append, w_t3, ← List.take_append_drop 24 (((words1.drop 24).drop 24).drop 24), List.all_append, w_t4, ← List.take_append_drop 24 ((((words1.drop 24).drop 24).drop 24).drop 24), List.all_append, w_t5, ← List.take_append_drop 24 (((((words1.drop 24).drop 24).drop 24).drop 24).drop 24), List.all_append, w_t6, ← List.take_append_drop 24 ((((((words1.drop 24).drop 24).drop 24).drop 24).drop 24).drop 24), List.all_append, w_t7, ← List.take_append_drop 24 (((((((words1.drop 24).drop 24).drop 24).drop 24).drop 24).drop 24).drop 24), List.all_append, w_t8, w_t9]
  rfl
set_option maxRecDepth 65536 in
theorem w_rest : rest_1_c.before args0 about1 = true := by decide +kernel
set_option maxRecDepth 65536 in
theorem w_case : (Jvm.Cond.and given_1 narrow_1).before args0 about1 = true := by decide +kernel
set_option maxRecDepth 65536 in
theorem w_consts : constsHeld consts_1 about1 := Jvm.Lit.constsHeldB_iff.mp (by decide +kernel)
theorem w_applies : (headSpec (Jvm.Cond.code x code maxLocals ret :: tables_1) room_1).applies x e0.platform about1 = true :=
  (Spec.applies_iff w_frames).mpr ⟨w_running, w_runnable, w_alone, w_named, w_hears, w_ripe, w_room, w_tables⟩
theorem atStart : AtStart classFile x code maxLocals ret World_1 tables_1 room_1 Calls_1 rest_1 Pre_1 launch0 p0 e0 about1 theMethod args0 below0 :=
  ⟨lists_1, trivial, launch0.admits_env _ _ _, launch0.least_env, fairChoices_fair.cas, fairChoices_fair.clock, w_frames, w_args, w_heap, w_applies, ⟨w_consts, trivial⟩, w_rest, w_case⟩
end start1
theorem witness_1 : WitnessClaimed_1 := ⟨start1.p0, start1.e0, start1.about1, start1.theMethod, start1.args0, start1.below0, start1.atStart⟩
end Jvm.Pilot.@@N@@
