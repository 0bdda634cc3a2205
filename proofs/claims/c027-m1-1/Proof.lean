import JvmDerived
import JvmDerived.Pilot.@@N@@Statement
import JvmDerived.Pilot.@@N@@Code
set_option linter.unusedVariables false
set_option linter.unusedSimpArgs false
namespace Jvm.RoadKit
open Sem ClassFile Op Lib Jvm.Stand Jvm.Free Jvm.LawKit
section New
variable {p : Program} {l : Launch} {e : Env} {R : Room} {s : State} {m : MethodId} {args : Array Value} {below : List Frame} {meth : Method} {c : Code} {T : State} {locs : List Loc} {cells slots : Nat}
theorem retI (X : Stand p l e R s m args below meth c T locs cells slots) (hx : p.tables.exec = Jvm.exec) {pc : Nat} {Ls : Array Slot} {z : Int32} {rest : List Value} (hret : meth.sig.returnType = some .int) (hd : decode c.code pc = .ok (.ireturn, 1)) {fs : List Frame}
    (hl : ∀ (f : JFrame) (acts : List Action), f.method = m → f.locked = none → f.entered = [] → (doReturn e (T.setTop f) acts (some (.int z))).1 = T.setFrames fs) : Steps p.tables e below (T.setTop (mkF m pc Ls (.int z :: rest))) (T.setFrames fs) :=
  retOut X hx hret rfl (Or.inl ⟨rfl, Or.inl rfl, z, rfl⟩) hd hl
end New
end Jvm.RoadKit
namespace Jvm.Pilot.@@N@@
open Jvm Jvm.ClassFile Sem Op Lib Jvm.Free Jvm.Stand Jvm.LawKit Jvm.RoadKit Bundle Jvm.Pilot.@@N@@.Jvm.D
theorem own_dloadN {tb : Tables} [Ours tb] {e : Env} {below : List Frame} {T target : State} {m : MethodId} {c : Code} {g : JFrame} (h : At T m c below) (hx : tb.exec = Jvm.exec) (hg : g.method = m) {k : Fin 4} {v : UInt64} (hd : decode c.code g.pc = .ok (.dload_n k, 1)) (hl : g.locals[k.val]? = some (.val (.double v)))
    (hr : Steps tb e below (T.setTop { g with pc := g.pc + 1, stack := .double v :: g.stack }) target) : Steps tb e below (T.setTop g) target := by
  subst hg
  jvm_step h [h.top, hx, hd, hl]
  exact hr
theorem own_dload {tb : Tables} [Ours tb] {e : Env} {below : List Frame} {T target : State} {m : MethodId} {c : Code} {g : JFrame} (h : At T m c below) (hx : tb.exec = Jvm.exec) (hg : g.method = m) {k : Nat} {v : UInt64} (hd : decode c.code g.pc = .ok (.dload k, 2)) (hl : g.locals[k]? = some (.val (.double v)))
    (hr : Steps tb e below (T.setTop { g with pc := g.pc + 2, stack := .double v :: g.stack }) target) : Steps tb e below (T.setTop g) target := by
  subst hg
  jvm_step h [h.top, hx, hd, hl]
  exact hr
theorem own_dstoreN {tb : Tables} [Ours tb] {e : Env} {below : List Frame} {T target : State} {m : MethodId} {c : Code} {g : JFrame} (h : At T m c below) (hx : tb.exec = Jvm.exec) (hg : g.method = m) {k : Fin 4} {x : UInt64} {rest : List Value} {l' : Array Slot} (hd : decode c.code g.pc = .ok (.dstore_n k, 1)) (hs : g.stack = .double x :: rest) (hl : storeLocals g.locals k.val (.double x) = some l')
    (hr : Steps tb e below (T.setTop { g with pc := g.pc + 1, stack := rest, locals := l' }) target) : Steps tb e below (T.setTop g) target := by
  subst hg
  jvm_step h [h.top, hx, hd, hs, hl]
  exact hr
theorem own_dstore {tb : Tables} [Ours tb] {e : Env} {below : List Frame} {T target : State} {m : MethodId} {c : Code} {g : JFrame} (h : At T m c below) (hx : tb.exec = Jvm.exec) (hg : g.method = m) {k : Nat} {x : UInt64} {rest : List Value} {l' : Array Slot} (hd : decode c.code g.pc = .ok (.dstore k, 2)) (hs : g.stack = .double x :: rest) (hl : storeLocals g.locals k (.double x) = some l')
    (hr : Steps tb e below (T.setTop { g with pc := g.pc + 2, stack := rest, locals := l' }) target) : Steps tb e below (T.setTop g) target := by
  subst hg
  jvm_step h [h.top, hx, hd, hs, hl]
  exact hr
theorem own_dconst0 {tb : Tables} [Ours tb] {e : Env} {below : List Frame} {T target : State} {m : MethodId} {c : Code} {g : JFrame} (h : At T m c below) (hx : tb.exec = Jvm.exec) (hg : g.method = m) (hd : decode c.code g.pc = .ok (.dconst 0, 1))
    (hr : Steps tb e below (T.setTop { g with pc := g.pc + 1, stack := .double FP.dconst0 :: g.stack }) target) : Steps tb e below (T.setTop g) target := by
  subst hg
  jvm_step h [h.top, hx, hd]
  exact hr
theorem own_dconst1 {tb : Tables} [Ours tb] {e : Env} {below : List Frame} {T target : State} {m : MethodId} {c : Code} {g : JFrame} (h : At T m c below) (hx : tb.exec = Jvm.exec) (hg : g.method = m) (hd : decode c.code g.pc = .ok (.dconst 1, 1))
    (hr : Steps tb e below (T.setTop { g with pc := g.pc + 1, stack := .double FP.dconst1 :: g.stack }) target) : Steps tb e below (T.setTop g) target := by
  subst hg
  jvm_step h [h.top, hx, hd]
  exact hr
theorem own_i2d {tb : Tables} [Ours tb] {e : Env} {below : List Frame} {T target : State} {m : MethodId} {c : Code} {g : JFrame} (h : At T m c below) (hx : tb.exec = Jvm.exec) (hg : g.method = m) {x : Int32} {rest : List Value} (hd : decode c.code g.pc = .ok (.i2d, 1)) (hs : g.stack = .int x :: rest)
    (hr : Steps tb e below (T.setTop { g with pc := g.pc + 1, stack := .double (FP.i2d x) :: rest }) target) : Steps tb e below (T.setTop g) target := by
  subst hg
  jvm_step h [h.top, hx, hd, hs]
  exact hr
theorem own_l2d {tb : Tables} [Ours tb] {e : Env} {below : List Frame} {T target : State} {m : MethodId} {c : Code} {g : JFrame} (h : At T m c below) (hx : tb.exec = Jvm.exec) (hg : g.method = m) {x : Int64} {rest : List Value} (hd : decode c.code g.pc = .ok (.l2d, 1)) (hs : g.stack = .long x :: rest)
    (hr : Steps tb e below (T.setTop { g with pc := g.pc + 1, stack := .double (FP.l2d x) :: rest }) target) : Steps tb e below (T.setTop g) target := by
  subst hg
  jvm_step h [h.top, hx, hd, hs]
  exact hr
theorem own_d2l {tb : Tables} [Ours tb] {e : Env} {below : List Frame} {T target : State} {m : MethodId} {c : Code} {g : JFrame} (h : At T m c below) (hx : tb.exec = Jvm.exec) (hg : g.method = m) {x : UInt64} {rest : List Value} (hd : decode c.code g.pc = .ok (.d2l, 1)) (hs : g.stack = .double x :: rest)
    (hr : Steps tb e below (T.setTop { g with pc := g.pc + 1, stack := .long (FP.d2l x) :: rest }) target) : Steps tb e below (T.setTop g) target := by
  subst hg
  jvm_step h [h.top, hx, hd, hs]
  exact hr
theorem own_d2i {tb : Tables} [Ours tb] {e : Env} {below : List Frame} {T target : State} {m : MethodId} {c : Code} {g : JFrame} (h : At T m c below) (hx : tb.exec = Jvm.exec) (hg : g.method = m) {x : UInt64} {rest : List Value} (hd : decode c.code g.pc = .ok (.d2i, 1)) (hs : g.stack = .double x :: rest)
    (hr : Steps tb e below (T.setTop { g with pc := g.pc + 1, stack := .int (FP.d2i x) :: rest }) target) : Steps tb e below (T.setTop g) target := by
  subst hg
  jvm_step h [h.top, hx, hd, hs]
  exact hr
theorem own_dneg {tb : Tables} [Ours tb] {e : Env} {below : List Frame} {T target : State} {m : MethodId} {c : Code} {g : JFrame} (h : At T m c below) (hx : tb.exec = Jvm.exec) (hg : g.method = m) {x : UInt64} {rest : List Value} (hd : decode c.code g.pc = .ok (.dneg, 1)) (hs : g.stack = .double x :: rest)
    (hr : Steps tb e below (T.setTop { g with pc := g.pc + 1, stack := .double (FP.dneg x) :: rest }) target) : Steps tb e below (T.setTop g) target := by
  subst hg
  jvm_step h [h.top, hx, hd, hs]
  exact hr
theorem own_dcmp {tb : Tables} [Ours tb] {e : Env} {below : List Frame} {T target : State} {m : MethodId} {c : Code} {g : JFrame} (h : At T m c below) (hx : tb.exec = Jvm.exec) (hg : g.method = m) {op : CmpOp} {x y : UInt64} {rest : List Value} (hd : decode c.code g.pc = .ok (.dcmp op, 1)) (hs : g.stack = .double y :: .double x :: rest)
    (hr : Steps tb e below (T.setTop { g with pc := g.pc + 1, stack := .int (cmpValue (FP.dcmp x y) op) :: rest }) target) : Steps tb e below (T.setTop g) target := by
  subst hg
  jvm_step h [h.top, hx, hd, hs]
  exact hr
theorem own_dadd {tb : Tables} [Ours tb] {e : Env} {below : List Frame} {T target : State} {m : MethodId} {c : Code} {g : JFrame} (h : At T m c below) (hx : tb.exec = Jvm.exec) (hg : g.method = m) {x y : UInt64} {rest : List Value} (hd : decode c.code g.pc = .ok (.dadd, 1)) (hs : g.stack = .double y :: .double x :: rest) (hn : Jvm.Free.Fl.NoNaN64 (FP.dadd x y))
    (hr : Steps tb e below (T.setTop { g with pc := g.pc + 1, stack := .double (FP.dadd x y) :: rest }) target) : Steps tb e below (T.setTop g) target := by
  obtain ⟨gm, gpc, gl, gs, glk, gen, gmr⟩ := g
  subst hg
  dsimp only at hs
  subst hs
  jvm_step h [hx, hd, Op.dadd.at_number h.top hn]
  exact hr
theorem own_dsub {tb : Tables} [Ours tb] {e : Env} {below : List Frame} {T target : State} {m : MethodId} {c : Code} {g : JFrame} (h : At T m c below) (hx : tb.exec = Jvm.exec) (hg : g.method = m) {x y : UInt64} {rest : List Value} (hd : decode c.code g.pc = .ok (.dsub, 1)) (hs : g.stack = .double y :: .double x :: rest) (hn : Jvm.Free.Fl.NoNaN64 (FP.dsub x y))
    (hr : Steps tb e below (T.setTop { g with pc := g.pc + 1, stack := .double (FP.dsub x y) :: rest }) target) : Steps tb e below (T.setTop g) target := by
  obtain ⟨gm, gpc, gl, gs, glk, gen, gmr⟩ := g
  subst hg
  dsimp only at hs
  subst hs
  jvm_step h [hx, hd, Op.dsub.at_number h.top hn]
  exact hr
theorem own_dmul {tb : Tables} [Ours tb] {e : Env} {below : List Frame} {T target : State} {m : MethodId} {c : Code} {g : JFrame} (h : At T m c below) (hx : tb.exec = Jvm.exec) (hg : g.method = m) {x y : UInt64} {rest : List Value} (hd : decode c.code g.pc = .ok (.dmul, 1)) (hs : g.stack = .double y :: .double x :: rest) (hn : Jvm.Free.Fl.NoNaN64 (FP.dmul x y))
    (hr : Steps tb e below (T.setTop { g with pc := g.pc + 1, stack := .double (FP.dmul x y) :: rest }) target) : Steps tb e below (T.setTop g) target := by
  obtain ⟨gm, gpc, gl, gs, glk, gen, gmr⟩ := g
  subst hg
  dsimp only at hs
  subst hs
  jvm_step h [hx, hd, Op.dmul.at_number h.top hn]
  exact hr
theorem own_ddiv {tb : Tables} [Ours tb] {e : Env} {below : List Frame} {T target : State} {m : MethodId} {c : Code} {g : JFrame} (h : At T m c below) (hx : tb.exec = Jvm.exec) (hg : g.method = m) {x y : UInt64} {rest : List Value} (hd : decode c.code g.pc = .ok (.ddiv, 1)) (hs : g.stack = .double y :: .double x :: rest) (hn : Jvm.Free.Fl.NoNaN64 (FP.ddiv x y))
    (hr : Steps tb e below (T.setTop { g with pc := g.pc + 1, stack := .double (FP.ddiv x y) :: rest }) target) : Steps tb e below (T.setTop g) target := by
  obtain ⟨gm, gpc, gl, gs, glk, gen, gmr⟩ := g
  subst hg
  dsimp only at hs
  subst hs
  jvm_step h [hx, hd, Op.ddiv.at_number h.top hn]
  exact hr
theorem own_dup2D {tb : Tables} [Ours tb] {e : Env} {below : List Frame} {T target : State} {m : MethodId} {c : Code} {g : JFrame} (h : At T m c below) (hx : tb.exec = Jvm.exec) (hg : g.method = m) {x : UInt64} {rest : List Value} (hd : decode c.code g.pc = .ok (.dup2, 1)) (hs : g.stack = .double x :: rest)
    (hr : Steps tb e below (T.setTop { g with pc := g.pc + 1, stack := .double x :: .double x :: rest }) target) : Steps tb e below (T.setTop g) target := by
  subst hg
  jvm_step h [h.top, hx, hd, hs, Value.category]
  exact hr
theorem own_retD {p : Program} {l : Launch} {e : Env} {R : Room} {s : State} {m : MethodId} {args : Array Value} {below : List Frame} {meth : Method} {c : Code} {T : State} {locs : List Loc} {cells slots : Nat} (Y : Stand p l e R s m args below meth c T locs cells slots) (hexec : p.tables.exec = Jvm.exec) {pc : Nat} {Ls : Array Slot} {w : UInt64} {rest : List Value} (hret : meth.sig.returnType = some .double)
    (hdg : decode c.code pc = .ok (.dreturn, 1)) {fs : List Frame} (hleave : ∀ (f : JFrame) (acts : List Action), f.method = m → f.locked = none → f.entered = [] → (doReturn e (T.setTop f) acts (some (.double w))).1 = T.setFrames fs) :
    Steps p.tables e below (T.setTop (mkF m pc Ls (.double w :: rest))) (T.setFrames fs) :=
  retOut Y hexec hret rfl (Or.inr (Or.inr (Or.inl ⟨rfl, rfl, w, rfl⟩))) hdg hleave
theorem own_stD {p : Program} {l : Launch} {e : Env} {R : Room} {s : State} {m : MethodId} {args : Array Value} {below : List Frame} {meth : Method} {c : Code} {T : State} {locs : List Loc} {cells slots : Nat} {Z : State} {h : Heap}
    (X : Stand p l e R s m args below meth c T locs cells slots) (hx : p.tables.exec = Jvm.exec) (hZ : Z.Warmed39 s.vm) (eT : T.heap = h) {a : Addr} {cl : Cell} (A : Arr Z h a cl .double) {j : Int32} {x : UInt64} (hj : ¬ (j < 0 ∨ cl.slots.size ≤ j.toNatClampNeg)) {g : JFrame} (hg : g.method = m) {rest : List Value} (hs : g.stack = .double x :: .int j :: .ref a :: rest) (hd : decode c.code g.pc = .ok (.dastore, 1)) :
    ∃ T' h', Stand p l e R s m args below meth c T' (locs ++ [⟨a, j.toNatClampNeg⟩]) cells slots ∧ T'.heap = h' ∧ Wr h h' a j.toNatClampNeg (.double x) ∧ ∀ target, Steps p.tables e below (T'.setTop { g with pc := g.pc + 1, stack := rest }) target → Steps p.tables e below (T.setTop g) target := by
  obtain ⟨X', st⟩ := X.dastore hx (by rw [eT]; exact A.1) (State.isArrayOf_alike hZ.alike A.2.1) A.2.2 hj hg hs hd
  exact ⟨_, _, X', rfl, ⟨cl, A.1, A.plain, Nat.lt_of_not_le fun q => hj (Or.inr q), by rw [← eT]; rfl⟩, st⟩
section OwnDy
open Jvm.FP Jvm.FP.Core
/-- the datum's exponent moved by j -/
def own_sh (j : Int) : Datum → Datum
  | .fin s c q => .fin s c (q + j)
  | d => d
/-- the datum is n * 2^k -/
def own_Dy (n k : Int) (d : Datum) : Prop := Whole n (own_sh (-k) d)
theorem own_dy0 {n : Int} {d : Datum} : own_Dy n 0 d ↔ Whole n d := by
  cases d with
  | nan => exact Iff.rfl
  | inf => exact Iff.rfl
  | fin s c q =>
    show Whole n (.fin s c (q + -0)) ↔ _
    rw [show q + -0 = q by omega]
theorem own_sh_sum (j : Int) (x y : Datum) : exactSum (own_sh j x) (own_sh j y) = own_sh j (exactSum x y) := by
  cases x <;> cases y <;> try rfl
  · simp only [own_sh, exactSum]; split <;> rfl
  · rename_i s c q t d r
    have hm : min (q + j) (r + j) = min q r + j := by omega
    have hu : sumUnits s c (q + j) t d (r + j) (min q r + j) = sumUnits s c q t d r (min q r) := by
      unfold sumUnits inUnits
      rw [show q + j - (min q r + j) = q - min q r by omega, show r + j - (min q r + j) = r - min q r by omega]
    simp only [own_sh, exactSum, hm, hu]
theorem own_sh_prod (i j : Int) (x y : Datum) : exactProduct (own_sh i x) (own_sh j y) = own_sh (i + j) (exactProduct x y) := by
  cases x <;> cases y <;> try rfl
  · simp only [own_sh, exactProduct]; split <;> rfl
  · simp only [own_sh, exactProduct]; split <;> rfl
  · simp only [own_sh, exactProduct, Datum.fin.injEq, true_and]; omega
theorem own_sh_order (j : Int) (x y : Datum) : order (own_sh j x) (own_sh j y) = order x y := by
  cases x <;> cases y <;> try rfl
  rename_i s c q t d r
  simp only [own_sh, order]
  unfold inUnits
  rw [show q + j - min (q + j) (r + j) = q - min q r by omega, show r + j - min (q + j) (r + j) = r - min q r by omega]
theorem own_sh_neg (j : Int) (x : Datum) : negate (own_sh j x) = own_sh j (negate x) := by cases x <;> rfl
theorem own_dy_sum {n m k : Int} {x y : Datum} (hx : own_Dy n k x) (hy : own_Dy m k y) : own_Dy (n + m) k (exactSum x y) := by
  unfold own_Dy; rw [← own_sh_sum]; exact whole_sum hx hy
theorem own_dy_neg {n k : Int} {x : Datum} (hx : own_Dy n k x) : own_Dy (-n) k (negate x) := by
  unfold own_Dy; rw [← own_sh_neg]; exact whole_negate hx
theorem own_dy_prod {n m k l : Int} {x y : Datum} (hx : own_Dy n k x) (hy : own_Dy m l y) : own_Dy (n * m) (k + l) (exactProduct x y) := by
  unfold own_Dy; rw [show -(k + l) = -k + -l by omega, ← own_sh_prod]; exact whole_product hx hy
theorem own_dy_order {n m k : Int} {x y : Datum} (hx : own_Dy n k x) (hy : own_Dy m k y) : order x y = some (compare n m) := by
  rw [← own_sh_order (-k)]; exact order_whole hx hy
theorem own_dy_fin {n k : Int} {x : Datum} (h : own_Dy n k x) : ∃ s c q, x = .fin s c q := by
  cases x with
  | nan => exact h.elim
  | inf => exact h.elim
  | fin s c q => exact ⟨s, c, q, rfl⟩
theorem own_dy_abs {n k q : Int} {s : Bool} {c : Nat} (h : own_Dy n k (.fin s c q)) : c * 2 ^ (q - k).toNat = n.natAbs * 2 ^ (k - q).toNat := by
  have := whole_natAbs (q := q + -k) h
  rw [show q + -k = q - k by omega, show -(q - k) = k - q by omega] at this
  exact this
theorem own_dy_sign {n k q : Int} {s : Bool} {c : Nat} (h : own_Dy n k (.fin s c q)) (hn : n ≠ 0) : s = decide (n < 0) := whole_sign (q := q + -k) h hn
theorem own_dy_mk {n k q : Int} {s : Bool} {c : Nat} (h : c * 2 ^ (q - k).toNat = n.natAbs * 2 ^ (k - q).toNat) (hs : n ≠ 0 → s = decide (n < 0)) : own_Dy n k (.fin s c q) := by
  show signed s (c * 2 ^ (q + -k).toNat) = n * ((2 ^ (-(q + -k)).toNat : Nat) : Int)
  rw [show q + -k = q - k by omega, show -(q - k) = k - q by omega, h]
  by_cases h0 : n = 0
  · subst h0; simp [signed]
  · rw [hs h0, signed_mul]
    congr 1
    unfold signed
    by_cases h : n < 0 <;> simp [h] <;> omega
/-- the same number in smaller units -/
theorem own_dy_scale {n k : Int} {x : Datum} (h : own_Dy n k x) (j : Nat) : own_Dy (n * ((2 ^ j : Nat) : Int)) (k - j) x := by
  obtain ⟨s, c, q, rfl⟩ := own_dy_fin h
  have p : 0 < 2 ^ j := Nat.two_pow_pos j
  refine own_dy_mk ?_ fun hn => ?_
  · have ha := own_dy_abs h
    rw [Int.natAbs_mul, Int.natAbs_natCast]
    have e1 : (q - (k - (j : Int))).toNat + (k - q).toNat = (q - k).toNat + j + (k - (j : Int) - q).toNat := by omega
    refine Nat.eq_of_mul_eq_mul_right (Nat.two_pow_pos (k - q).toNat) ?_
    calc c * 2 ^ (q - (k - (j : Int))).toNat * 2 ^ (k - q).toNat = c * 2 ^ ((q - (k - (j : Int))).toNat + (k - q).toNat) := by rw [Nat.pow_add, Nat.mul_assoc]
      _ = (c * 2 ^ (q - k).toNat) * 2 ^ j * 2 ^ (k - (j : Int) - q).toNat := by rw [e1, Nat.pow_add, Nat.pow_add]; simp only [Nat.mul_assoc]
      _ = n.natAbs * 2 ^ j * 2 ^ (k - (j : Int) - q).toNat * 2 ^ (k - q).toNat := by rw [ha]; ac_rfl
  · have p' : (0 : Int) < ((2 ^ j : Nat) : Int) := by omega
    have h0 : n ≠ 0 := fun h => hn (by rw [h, Int.zero_mul])
    rw [own_dy_sign h h0, decide_eq_decide]
    constructor
    · intro hl; exact Int.mul_neg_of_neg_of_pos hl p'
    · intro hl; exact Int.lt_of_not_ge fun hg => by have := Int.mul_nonneg hg (Int.le_of_lt p'); omega
/-- whole multiples of 2^k of at most 53 digits are doubles -/
theorem own_fit {n : Nat} {k : Int} (s : Bool) (hn : n ≤ 2 ^ 53) (h1 : -1074 ≤ k) (h2 : k ≤ 971) (h3 : n = 2 ^ 53 → k ≤ 970) : ∃ c q, Core.fits b64 (.fin s c q) ∧ n * 2 ^ (k - q).toNat = c * 1 * 2 ^ (q - k).toNat := by
  have ht : b64.tails = 2 ^ 52 := by decide
  have hp : b64.p = 53 := rfl
  have hm : b64.qmin = -1074 := by decide
  have hM : b64.qmax = 971 := by decide
  by_cases h0 : n = 0
  · subst h0
    exact ⟨0, b64.qmin, zero_fits good_b64 s, by simp⟩
  by_cases hp2 : n = 2 ^ 53
  · have h3 := h3 hp2
    refine ⟨2 ^ 52, k + 1, ⟨by rw [hp]; decide, by omega, by omega, .inr (by omega)⟩, ?_⟩
    rw [hp2, show (k - (k + 1)).toNat = 0 by omega, show (k + 1 - k).toNat = 1 by omega]
  · have l1 : 2 ^ n.log2 ≤ n := Nat.log2_self_le h0
    have l2 : n < 2 ^ (n.log2 + 1) := Nat.lt_log2_self
    have l3 : n.log2 < 53 := (Nat.pow_lt_pow_iff_right (by decide : 1 < 2)).mp (Nat.lt_of_le_of_lt l1 (by omega))
    generalize n.log2 = L at l1 l2 l3
    have hq : ∃ q : Int, q = max (-1074) ((L : Int) + k - 52) := ⟨_, rfl⟩
    obtain ⟨q, hq⟩ := hq
    have q1 : q ≤ k := by omega
    refine ⟨n * 2 ^ (k - q).toNat, q, ⟨?_, by omega, by omega, ?_⟩, ?_⟩
    · rw [hp]
      calc n * 2 ^ (k - q).toNat < 2 ^ (L + 1) * 2 ^ (k - q).toNat := Nat.mul_lt_mul_of_pos_right l2 (Nat.two_pow_pos _)
        _ = 2 ^ (L + 1 + (k - q).toNat) := by rw [← Nat.pow_add]
        _ ≤ 2 ^ 53 := Nat.pow_le_pow_right (by decide) (by omega)
    · by_cases hm2 : q = -1074
      · left; rw [hm]; exact hm2
      · right
        rw [ht]
        calc 2 ^ 52 = 2 ^ L * 2 ^ (k - q).toNat := by rw [← Nat.pow_add]; congr 1; omega
          _ ≤ n * 2 ^ (k - q).toNat := Nat.mul_le_mul_right _ l1
    · rw [show (q - k).toNat = 0 by omega]; simp
theorem own_dy_roundRatio {n k e : Int} {A B : Nat} {s : Bool} (hB : 0 < B) (hn : n.natAbs ≤ 2 ^ 53) (h1 : -1074 ≤ k) (h2 : k ≤ 970) (hA : A * 2 ^ (e - k).toNat = n.natAbs * B * 2 ^ (k - e).toNat) (hs : n ≠ 0 → s = decide (n < 0)) : own_Dy n k (roundRatio b64 s A B e) := by
  obtain ⟨c, q, hf, hv⟩ := own_fit (n := n.natAbs) s hn h1 (by omega) (fun _ => h2)
  have : roundRatio b64 s A B e = .fin s c q := by
    rw [roundRatio_congr (A' := n.natAbs) (B' := 1) (e' := k) hB (by decide) (by rw [Nat.mul_one]; exact hA)]
    exact roundRatio_exact good_b64 (by decide) hf hv
  rw [this]
  refine own_dy_mk ?_ hs
  rw [Nat.mul_one] at hv
  exact hv.symm
theorem own_dy_round {n k : Int} {d : Datum} (hn : n.natAbs ≤ 2 ^ 53) (h1 : -1074 ≤ k) (h2 : k ≤ 970) (h : own_Dy n k d) : own_Dy n k (round b64 d) := by
  obtain ⟨s, c, q, rfl⟩ := own_dy_fin h
  refine own_dy_roundRatio (by decide) hn h1 h2 ?_ (own_dy_sign h)
  rw [Nat.mul_one]; exact own_dy_abs h
theorem own_pow_cancel {a b x y : Nat} {u : Int} (h : a * 2 ^ x = b * 2 ^ y) (hu : u = (x : Int) - y) : a * 2 ^ u.toNat = b * 2 ^ (-u).toNat := by
  have hx : x = u.toNat + min x y := by omega
  have hy : y = (-u).toNat + min x y := by omega
  generalize u.toNat = v at *
  generalize (-u).toNat = w at *
  generalize min x y = t at hx hy
  subst hx hy
  rw [Nat.pow_add, Nat.pow_add, ← Nat.mul_assoc, ← Nat.mul_assoc] at h
  exact Nat.eq_of_mul_eq_mul_right (Nat.two_pow_pos t) h
/-- an exact quotient -/
theorem own_dy_quot {r m k l : Int} {x y : Datum} (hm : m ≠ 0) (hn : r.natAbs ≤ 2 ^ 53) (h1 : -1074 ≤ k) (h2 : k ≤ 970) (hx : own_Dy (r * m) (k + l) x) (hy : own_Dy m l y) : own_Dy r k (quotient b64 x y) := by
  obtain ⟨s, c, q, rfl⟩ := own_dy_fin hx
  obtain ⟨t, d, q', rfl⟩ := own_dy_fin hy
  have ha := own_dy_abs hx
  have hb := own_dy_abs hy
  have hd : d ≠ 0 := by
    rintro rfl
    rw [Nat.zero_mul] at hb
    rcases Nat.mul_eq_zero.mp hb.symm with h | h
    · exact hm (Int.natAbs_eq_zero.mp h)
    · have := Nat.two_pow_pos (l - q').toNat; omega
  show own_Dy r k (if d = 0 then _ else _)
  rw [if_neg hd]
  refine own_dy_roundRatio (Nat.pos_of_ne_zero hd) hn h1 h2 ?_ fun h0 => ?_
  · rw [Int.natAbs_mul] at ha
    have e1 : (q - q' - k) = (((q - (k + l)).toNat + (l - q').toNat : Nat) : Int) - (((k + l - q).toNat + (q' - l).toNat : Nat) : Int) := by omega
    have e2 : k - (q - q') = -(q - q' - k) := by omega
    rw [e2]
    refine own_pow_cancel (x := (q - (k + l)).toNat + (l - q').toNat) (y := (k + l - q).toNat + (q' - l).toNat) ?_ e1
    calc c * 2 ^ ((q - (k + l)).toNat + (l - q').toNat) = (c * 2 ^ (q - (k + l)).toNat) * 2 ^ (l - q').toNat := by rw [Nat.pow_add, Nat.mul_assoc]
      _ = r.natAbs * (m.natAbs * 2 ^ (l - q').toNat) * 2 ^ (k + l - q).toNat := by rw [ha]; ac_rfl
      _ = r.natAbs * d * 2 ^ ((k + l - q).toNat + (q' - l).toNat) := by rw [← hb, Nat.pow_add]; ac_rfl
  · have h3 : r * m ≠ 0 := fun h => (Int.mul_eq_zero.mp h).elim h0 hm
    rw [own_dy_sign hx h3, own_dy_sign hy hm]
    rcases Int.lt_or_gt_of_ne h0 with a | a <;> rcases Int.lt_or_gt_of_ne hm with b | b
    · have := Int.mul_pos_of_neg_of_neg a b; simp [a, b]; omega
    · have := Int.mul_neg_of_neg_of_pos a b; simp [a, this]; omega
    · have := Int.mul_neg_of_pos_of_neg a b; simp [b, this]; omega
    · have := Int.mul_pos a b; simp [show ¬ r < 0 by omega, show ¬ m < 0 by omega]; omega
theorem own_dy_unscale {n k : Int} {x : Datum} (j : Nat) (h : own_Dy (n * ((2 ^ j : Nat) : Int)) k x) : own_Dy n (k + j) x := by
  obtain ⟨s, c, q, rfl⟩ := own_dy_fin h
  have p : 0 < 2 ^ j := Nat.two_pow_pos j
  have p' : (0 : Int) < ((2 ^ j : Nat) : Int) := by omega
  refine own_dy_mk ?_ fun h0 => ?_
  · have ha := own_dy_abs h
    rw [Int.natAbs_mul, Int.natAbs_natCast] at ha
    have e1 : (q - (k + (j : Int))) = (((q - k).toNat : Nat) : Int) - (((k - q).toNat + j : Nat) : Int) := by omega
    have e2 : k + (j : Int) - q = -(q - (k + (j : Int))) := by omega
    rw [e2]
    refine own_pow_cancel (x := (q - k).toNat) (y := (k - q).toNat + j) ?_ e1
    rw [ha, Nat.pow_add]; ac_rfl
  · have hn : n * ((2 ^ j : Nat) : Int) ≠ 0 := fun h => (Int.mul_eq_zero.mp h).elim h0 (by omega)
    rw [own_dy_sign h hn, decide_eq_decide]
    constructor
    · intro hl; exact Int.lt_of_not_ge fun hg => by have := Int.mul_nonneg hg (Int.le_of_lt p'); omega
    · intro hl; exact Int.mul_neg_of_neg_of_pos hl p'
/-- the number in units of 2^e -/
theorem own_dy_units {n k q e : Int} {s : Bool} {c : Nat} (h : own_Dy n k (.fin s c q)) (h1 : e ≤ k) (h2 : e ≤ q) : signed s (inUnits c q e) = n * ((2 ^ (k - e).toNat : Nat) : Int) := by
  have ha := own_dy_abs h
  have e1 : inUnits c q e = n.natAbs * 2 ^ (k - e).toNat := by
    unfold inUnits
    refine Nat.eq_of_mul_eq_mul_right (Nat.two_pow_pos (k - q).toNat) ?_
    calc c * 2 ^ (q - e).toNat * 2 ^ (k - q).toNat = (c * 2 ^ (q - k).toNat) * 2 ^ (k - e).toNat := by
          rw [Nat.mul_assoc, ← Nat.pow_add, Nat.mul_assoc, ← Nat.pow_add]; congr 2; omega
      _ = n.natAbs * 2 ^ (k - e).toNat * 2 ^ (k - q).toNat := by rw [ha]; ac_rfl
  rw [e1, signed_mul]
  congr 1
  by_cases h0 : n = 0
  · subst h0; simp [signed]
  · rw [own_dy_sign h h0]
    unfold signed
    by_cases hl : n < 0 <;> simp [hl] <;> omega
theorem own_pow_split (n : Int) {k e : Int} (h1 : -1074 ≤ k) (h2 : e ≤ -1074) : n * ((2 ^ (k - e).toNat : Nat) : Int) = n * ((2 ^ (k + 1074).toNat : Nat) : Int) * ((2 ^ (b64.qmin - e).toNat : Nat) : Int) := by
  have hm : b64.qmin = -1074 := by decide
  rw [hm, Int.mul_assoc, ← Int.natCast_mul, ← Nat.pow_add]
  congr 4
  omega
/-- rounding is monotone -/
theorem own_round_le {n k w : Int} {d V : Datum} (h : own_Dy n k d) (h1 : -1074 ≤ k) (hV : Core.fits b64 V) (hn : V ≠ .nan) (hz : zval b64 V = w) (hw : n * ((2 ^ (k + 1074).toNat : Nat) : Int) ≤ w) : zval b64 (round b64 d) ≤ w := by
  obtain ⟨s, c, q, rfl⟩ := own_dy_fin h
  have hm : b64.qmin = -1074 := by decide
  have p := Nat.two_pow_pos (b64.qmin - min (-1074) q).toNat
  rw [← hz]
  refine zval_round_le good_b64 hV hn (e0 := min (-1074) q) (by omega) (by omega) ?_
  rw [own_dy_units h (by omega) (by omega), own_pow_split n h1 (by omega), hz]
  exact Int.mul_le_mul_of_nonneg_right hw (by omega)
theorem own_round_ge {n k w : Int} {d V : Datum} (h : own_Dy n k d) (h1 : -1074 ≤ k) (hV : Core.fits b64 V) (hn : V ≠ .nan) (hz : zval b64 V = w) (hw : w ≤ n * ((2 ^ (k + 1074).toNat : Nat) : Int)) : w ≤ zval b64 (round b64 d) := by
  obtain ⟨s, c, q, rfl⟩ := own_dy_fin h
  have hm : b64.qmin = -1074 := by decide
  have p := Nat.two_pow_pos (b64.qmin - min (-1074) q).toNat
  rw [← hz]
  refine zval_round_ge good_b64 hV hn (e0 := min (-1074) q) (by omega) (by omega) ?_
  rw [own_dy_units h (by omega) (by omega), own_pow_split n h1 (by omega), hz]
  exact Int.mul_le_mul_of_nonneg_right hw (by omega)
/-! ### on doubles -/
def own_D (n k : Int) (a : UInt64) : Prop := own_Dy n k (val64 a)
theorem own_d_int {n : Int} {a : UInt64} : own_D n 0 a ↔ DInt n a := own_dy0
theorem own_d_ne {n k : Int} {a : UInt64} (h : own_D n k a) : val64 a ≠ .nan := by
  obtain ⟨s, c, q, e⟩ := own_dy_fin h; rw [e]; exact Datum.noConfusion
theorem own_d_no {n k : Int} {a : UInt64} (h : own_D n k a) : Jvm.Free.Fl.NoNaN64 a := Jvm.Free.Fl.val64_no.mpr (own_d_ne h)
theorem own_d_scale {n k : Int} {a : UInt64} (h : own_D n k a) (j : Nat) : own_D (n * ((2 ^ j : Nat) : Int)) (k - j) a := own_dy_scale h j
theorem own_d_add {n m k : Int} {a b : UInt64} (ha : own_D n k a) (hb : own_D m k b) (hn : (n + m).natAbs ≤ 2 ^ 53) (h1 : -1074 ≤ k) (h2 : k ≤ 970) : own_D (n + m) k (FP.dadd a b) := by
  unfold own_D; rw [show FP.dadd a b = Core.dadd a b from rfl, val64_dadd]; exact own_dy_round hn h1 h2 (own_dy_sum ha hb)
theorem own_d_sub {n m k : Int} {a b : UInt64} (ha : own_D n k a) (hb : own_D m k b) (hn : (n - m).natAbs ≤ 2 ^ 53) (h1 : -1074 ≤ k) (h2 : k ≤ 970) : own_D (n - m) k (FP.dsub a b) := by
  unfold own_D; rw [show FP.dsub a b = Core.dsub a b from rfl, val64_dsub]; exact own_dy_round hn h1 h2 (own_dy_sum ha (own_dy_neg hb))
theorem own_d_mul {n m k l : Int} {a b : UInt64} (ha : own_D n k a) (hb : own_D m l b) (hn : (n * m).natAbs ≤ 2 ^ 53) (h1 : -1074 ≤ k + l) (h2 : k + l ≤ 970) : own_D (n * m) (k + l) (FP.dmul a b) := by
  unfold own_D; rw [show FP.dmul a b = Core.dmul a b from rfl, val64_dmul]; exact own_dy_round hn h1 h2 (own_dy_prod ha hb)
theorem own_d_div {r m k l : Int} {a b : UInt64} (hm : m ≠ 0) (ha : own_D (r * m) (k + l) a) (hb : own_D m l b) (hn : r.natAbs ≤ 2 ^ 53) (h1 : -1074 ≤ k) (h2 : k ≤ 970) : own_D r k (FP.ddiv a b) := by
  unfold own_D; rw [show FP.ddiv a b = Core.ddiv a b from rfl, val64_ddiv]; exact own_dy_quot hm hn h1 h2 ha hb
theorem own_d_neg {n k : Int} {a : UInt64} (ha : own_D n k a) : own_D (-n) k (FP.dneg a) := by
  unfold own_D; rw [FP.val64_dneg]; exact own_dy_neg ha
theorem own_d_cmp {n m k : Int} {a b : UInt64} (ha : own_D n k a) (hb : own_D m k b) : FP.dcmp a b = some (compare n m) := own_dy_order ha hb
theorem own_d_i2d (x : Int32) : own_D x.toInt 0 (FP.i2d x) := own_d_int.mpr (i2d_int x)
theorem own_d_l2d {x : Int64} (h : x.toInt.natAbs ≤ 2 ^ 53) : own_D x.toInt 0 (FP.l2d x) := own_d_int.mpr (l2d_int h)
theorem own_d_unscale {n k : Int} {a : UInt64} (j : Nat) (h : own_D (n * ((2 ^ j : Nat) : Int)) k a) : own_D n (k + j) a := own_dy_unscale j h
theorem own_d_zv {n k : Int} {a : UInt64} (h : own_D n k a) (h1 : -1074 ≤ k) : zval b64 (val64 a) = n * ((2 ^ (k + 1074).toNat : Nat) : Int) := by
  obtain ⟨s, c, q, e⟩ := own_dy_fin h
  have hf := val64_fits a
  unfold own_D at h
  rw [e] at h hf ⊢
  have hm : b64.qmin = -1074 := by decide
  have := own_dy_units h (e := b64.qmin) (by omega) (by have := hf.2.1; omega)
  show signed s (inUnits c q b64.qmin) = _
  rw [this, hm]
  congr 4
theorem own_cmp_eq (n : Int) : compare n n = .eq := by simp [compare, compareOfLessAndEq]
theorem own_cmp0 {r : Option Ordering} {op : CmpOp} : cmpValue r op = 0 ↔ r = some .eq := by
  rcases r with _ | o
  · cases op <;> simp [cmpValue] <;> decide
  · cases o <;> simp [cmpValue]
theorem own_d_of {n k q : Int} {s : Bool} {c : Nat} {a : UInt64} (h : val64 a = .fin s c q) (h' : c * 2 ^ (q - k).toNat = n.natAbs * 2 ^ (k - q).toNat) (hs : n = 0 ∨ s = decide (n < 0)) : own_D n k a := by
  unfold own_D; rw [h]; exact own_dy_mk h' fun h0 => hs.resolve_left h0
theorem own_d_0 {k l : Int} {a : UInt64} (h : own_D 0 k a) : own_D 0 l a := by
  obtain ⟨s, c, q, e⟩ := own_dy_fin h
  unfold own_D at h ⊢
  rw [e] at h ⊢
  have := own_dy_abs h
  refine own_dy_mk ?_ fun h0 => absurd rfl h0
  have p := Nat.two_pow_pos (q - k).toNat
  rw [show (0 : Int).natAbs = 0 from rfl, Nat.zero_mul] at this
  rcases Nat.mul_eq_zero.mp this with h | h
  · rw [h]; simp
  · omega
theorem own_d_zero : own_D 0 0 FP.dconst0 := own_d_of (s := false) (c := 0) (q := -1074) (by decide +kernel) (by decide +kernel) (Or.inl rfl)
theorem own_d_one : own_D 1 0 FP.dconst1 := own_d_of (s := false) (c := 4503599627370496) (q := -52) (by decide +kernel) (by decide +kernel) (Or.inr rfl)
end OwnDy
section OwnCalls
variable {p : Program} {l : Launch} {e : Env} {R : Room} {s : State} {m : MethodId} {args : Array Value} {below : List Frame} {meth : Method} {c : Code} {T : State} {locs : List Loc} {cells slots : Nat} {Z : State} {a0 : Array Value} {h : Heap}
theorem own_virt (X : Stand p l e R s m args below meth c T locs cells slots) (hx : p.tables.exec = Jvm.exec) (hZ : Z.Warmed39 s.vm) {own C : String} {index : Nat} {y : MethodName} (hown : s.vm.findClass own = some m.cls)
    (w1 : (Jvm.Cond.methodLink own index y).before a0 Z = true) (w2 : (Jvm.Cond.declares y).before a0 Z = true) (w3 : (Jvm.Cond.selects C y y).before a0 Z = true) (w4 : (Jvm.Cond.instanceMethod y).before a0 Z = true)
    (hy : y.cls ≠ "java/lang/invoke/MethodHandle" ∧ y.cls ≠ "java/lang/invoke/VarHandle") {bytes : ByteArray} {maxL : Nat} {ret : Option FieldType} {rm : Room} {as' : Array Value} {Q : Option Value → Heap → List Loc → Prop}
    (hM : MetFree l y (head1 [Jvm.Cond.code y bytes maxL ret] rm) (fun α U => α = as' ∧ Z.Warmed39 U.vm ∧ U.heap = h) (fun _ _ _ _ _ => True) (fun _ U o U' => ∃ v L, o = .returned v ∧ Q v U'.heap L ∧ FrameEnd U o U' L rm.cells rm.slots))
    (wc : (Jvm.Cond.code y bytes maxL ret).before a0 Z = true) (wz : (Jvm.Cond.initialized y.cls).before a0 Z = true) (W : Nat) (hf : rm.frames + 1 ≤ R.frames) (hl : W + (maxL + 11) + rm.locals ≤ R.locals)
    {b : Addr} (E : Exa Z h b C) (eT : T.heap = h) (g : JFrame) (hg : g.method = m) (hsize : g.locals.size = c.maxLocals) (argsL rest : List Value) (has : (.ref b :: argsL).toArray = as')
    (hlen : ∀ sig, parseMethodDescriptor y.desc = some sig → argsL.length = sig.parameters.length) (hstack : g.stack = argsL.reverse ++ .ref b :: rest) (hW : 2 * g.monitorRoom + (rest.map fun v => v.category).sum ≤ W)
    (hdg : decode c.code g.pc = .ok (.invokevirtual index, 3)) (hc : cells + rm.cells ≤ R.cells) (hs : slots + rm.slots ≤ R.slots) :
    ∃ (v : Option Value) (T' : State) (L : List Loc), Stand p l e R s m args below meth c T' (locs ++ L) (cells + rm.cells) (slots + rm.slots) ∧ Q v T'.heap L ∧
      ∀ τ, Steps p.tables e below (T'.setTop { g with pc := g.pc + 3, stack := v.toList ++ rest }) τ → Steps p.tables e below (T.setTop g) τ := by
  obtain ⟨cq, kq, qa, qb, qc⟩ := isOf hZ eT E
  obtain ⟨v, _, ⟨T1, L1, k1, n1⟩, -, X1, ⟨Lc, hQ, l1, y1, z1⟩, st⟩ := X.virtualBack hx (y := y) (z := y) hown (mvT hZ w1) (mvT hZ w2) (notFace_of_selects (args := #[]) (mvT hZ w3)) (mvT hZ w3) (mvT hZ w4) hy (backOf (W := W) hM hZ wc wz hf hl) qa qc (g := g) hg hsize (Steps.refl _) (argsL := argsL) (rest := rest) hlen hstack hW hdg (fun _ _ => ⟨has, eT, hc, hs⟩)
  dsimp only [Pt.U, Pt.locs, Pt.cells, Pt.slots] at X1 l1 y1 z1 st hQ
  subst l1 y1 z1
  exact ⟨v, T1, Lc, X1, hQ, fun τ kt => st.trans kt⟩
theorem own_spec (X : Stand p l e R s m args below meth c T locs cells slots) (hx : p.tables.exec = Jvm.exec) (hZ : Z.Warmed39 s.vm) {own : String} {index : Nat} {y : MethodName} (hy1 : y.name = "<init>") (hown : s.vm.findClass own = some m.cls)
    (w1 : (Jvm.Cond.methodLink own index y).before a0 Z = true) (w4 : (Jvm.Cond.instanceMethod y).before a0 Z = true)
    (hy : y.cls ≠ "java/lang/invoke/MethodHandle" ∧ y.cls ≠ "java/lang/invoke/VarHandle") {bytes : ByteArray} {maxL : Nat} {rm : Room} {as' : Array Value} {Q : Option Value → Heap → List Loc → Prop}
    (hM : MetFree l y (head1 [Jvm.Cond.code y bytes maxL none] rm) (fun α U => α = as' ∧ Z.Warmed39 U.vm ∧ U.heap = h) (fun _ _ _ _ _ => True) (fun _ U o U' => ∃ v L, o = .returned v ∧ Q v U'.heap L ∧ FrameEnd U o U' L rm.cells rm.slots))
    (wc : (Jvm.Cond.code y bytes maxL none).before a0 Z = true) (wz : (Jvm.Cond.initialized y.cls).before a0 Z = true) (W : Nat) (hf : rm.frames + 1 ≤ R.frames) (hl : W + (maxL + 11) + rm.locals ≤ R.locals)
    {b : Addr} (eT : T.heap = h) (g : JFrame) (hg : g.method = m) (hsize : g.locals.size = c.maxLocals) (argsL rest : List Value) (has : (.ref b :: argsL).toArray = as')
    (hlen : ∀ sig, parseMethodDescriptor y.desc = some sig → argsL.length = sig.parameters.length) (hstack : g.stack = argsL.reverse ++ .ref b :: rest) (hW : 2 * g.monitorRoom + (rest.map fun v => v.category).sum ≤ W)
    (hdg : decode c.code g.pc = .ok (.invokespecial index, 3)) (hc : cells + rm.cells ≤ R.cells) (hs : slots + rm.slots ≤ R.slots) :
    ∃ (v : Option Value) (T' : State) (L : List Loc), Stand p l e R s m args below meth c T' (locs ++ L) (cells + rm.cells) (slots + rm.slots) ∧ Q v T'.heap L ∧
      ∀ τ, Steps p.tables e below (T'.setTop { g with pc := g.pc + 3, stack := v.toList ++ rest }) τ → Steps p.tables e below (T.setTop g) τ := by
  obtain ⟨v, _, ⟨T1, L1, k1, n1⟩, -, X1, ⟨Lc, hQ, l1, y1, z1⟩, st⟩ := X.specialBack hx (y := y) hy1 hown (mvT hZ w1) (mvT hZ w4) (mvT hZ wc) hy (backOf (W := W) hM hZ wc wz hf hl) (g := g) hg hsize (Steps.refl _) (a := b) (argsL := argsL) (rest := rest) hlen hstack hW hdg (fun _ _ => ⟨has, eT, hc, hs⟩)
  dsimp only [Pt.U, Pt.locs, Pt.cells, Pt.slots] at X1 l1 y1 z1 st hQ
  subst l1 y1 z1
  exact ⟨v, T1, Lc, X1, hQ, fun τ kt => st.trans kt⟩
theorem own_stat (X : Stand p l e R s m args below meth c T locs cells slots) (hx : p.tables.exec = Jvm.exec) (hZ : Z.Warmed39 s.vm) {own : String} {index : Nat} {y : MethodName} (hown : s.vm.findClass own = some m.cls)
    (w1 : (Jvm.Cond.methodLink own index y).before a0 Z = true) (w2 : (Jvm.Cond.static y).before a0 Z = true)
    (hy : y.cls ≠ "java/lang/invoke/MethodHandle" ∧ y.cls ≠ "java/lang/invoke/VarHandle") {bytes : ByteArray} {maxL : Nat} {ret : Option FieldType} {rm : Room} {as' : Array Value} {Q : Option Value → Heap → List Loc → Prop}
    (hM : MetFree l y (head1 [Jvm.Cond.code y bytes maxL ret] rm) (fun α U => α = as' ∧ Z.Warmed39 U.vm ∧ U.heap = h) (fun _ _ _ _ _ => True) (fun _ U o U' => ∃ v L, o = .returned v ∧ Q v U'.heap L ∧ FrameEnd U o U' L rm.cells rm.slots))
    (wc : (Jvm.Cond.code y bytes maxL ret).before a0 Z = true) (wz : (Jvm.Cond.initialized y.cls).before a0 Z = true) (W : Nat) (hf : rm.frames + 1 ≤ R.frames) (hl : W + (maxL + 11) + rm.locals ≤ R.locals)
    (eT : T.heap = h) (g : JFrame) (hg : g.method = m) (hsize : g.locals.size = c.maxLocals) (argsL rest : List Value) (has : argsL.toArray = as')
    (hlen : ∀ sig, parseMethodDescriptor y.desc = some sig → argsL.length = sig.parameters.length) (hstack : g.stack = argsL.reverse ++ rest) (hW : 2 * g.monitorRoom + (rest.map fun v => v.category).sum ≤ W)
    (hdg : decode c.code g.pc = .ok (.invokestatic index, 3)) (hc : cells + rm.cells ≤ R.cells) (hs : slots + rm.slots ≤ R.slots) :
    ∃ (v : Option Value) (T' : State) (L : List Loc), Stand p l e R s m args below meth c T' (locs ++ L) (cells + rm.cells) (slots + rm.slots) ∧ Q v T'.heap L ∧
      ∀ τ, Steps p.tables e below (T'.setTop { g with pc := g.pc + 3, stack := v.toList ++ rest }) τ → Steps p.tables e below (T.setTop g) τ := by
  obtain ⟨v, _, ⟨T1, L1, k1, n1⟩, -, X1, ⟨Lc, hQ, l1, y1, z1⟩, st⟩ := Jvm.LawKit.callS X hx (y := y) hown (mvT hZ w1) (mvT hZ w2) (mvT hZ wz) (mvT hZ wc) hy (backOf (W := W) hM hZ wc wz hf hl) (g := g) hg hsize (argsL := argsL) (rest := rest) hlen hstack hW hdg (fun _ _ => ⟨has, eT, hc, hs⟩)
  dsimp only [Pt.U, Pt.locs, Pt.cells, Pt.slots] at X1 l1 y1 z1 st hQ
  subst l1 y1 z1
  exact ⟨v, T1, Lc, X1, hQ, st⟩
end OwnCalls
abbrev own_CM : String := "com/example/counterpath/counterpath/core/CappedMaximum"
def QC (Z : State) (a A B : Addr) (kA kB : ClassId) (hd tl : Int32) (ss vv : List Value) (h0 : Heap) (n0 : Nat) (v : Option Value) (h : Heap) (L : List Loc) : Prop := v = none ∧ Fr n0 L ∧ Keep h0 h [a, A, B] ∧ Fld Z h a own_CM "samples" "[I" (.ref A) ∧ Fld Z h a own_CM "values" "[D" (.ref B) ∧ Fld Z h a own_CM "head" "I" (.int hd) ∧ Fld Z h a own_CM "tail" "I" (.int tl) ∧ Arv Z h A kA .int (3 : Int32) ss (.int (0 : Int32)) ∧ Arv Z h B kB .double (3 : Int32) vv (.double (0 : UInt64))
def QN (Z : State) (a : Addr) (h0 : Heap) (n0 : Nat) (v : Option Value) (h : Heap) (L : List Loc) : Prop := v = none ∧ Fr n0 L ∧ Keep h0 h [a] ∧ ∃ (A B : Addr) (kA kB : ClassId), n0 ≤ A ∧ n0 ≤ B ∧ h0.size ≤ A ∧ h0.size ≤ B ∧ a ≠ A ∧ a ≠ B ∧ A ≠ B ∧ Fld Z h a own_CM "samples" "[I" (.ref A) ∧ Fld Z h a own_CM "values" "[D" (.ref B) ∧ Fld Z h a own_CM "head" "I" (.int (3 : Int32)) ∧ Fld Z h a own_CM "tail" "I" (.int (3 : Int32)) ∧ Arv Z h A kA .int (3 : Int32) [(.int (0 : Int32)), (.int (0 : Int32)), (.int (0 : Int32))] (.int (0 : Int32)) ∧ Arv Z h B kB .double (3 : Int32) [(.double (0 : UInt64)), (.double (0 : UInt64)), (.double (0 : UInt64))] (.double (0 : UInt64))
def QD (z : UInt64) (h0 : Heap) (n0 : Nat) (v : Option Value) (h : Heap) (L : List Loc) : Prop := v = some (.double z) ∧ Fr n0 L ∧ h = h0
def QI (z : Int32) (h0 : Heap) (n0 : Nat) (v : Option Value) (h : Heap) (L : List Loc) : Prop := v = some (.int z) ∧ Fr n0 L ∧ h = h0
theorem own_pd__I_V : parseMethodDescriptor "(I)V" = some ⟨[.int], none⟩ := by decide +kernel
theorem own_pd__ID_V : parseMethodDescriptor "(ID)V" = some ⟨[.int, .double], none⟩ := by decide +kernel
theorem own_pd___D : parseMethodDescriptor "()D" = some ⟨[], some .double⟩ := by decide +kernel
theorem own_pd__II_I : parseMethodDescriptor "(II)I" = some ⟨[.int, .int], some .int⟩ := by decide +kernel
theorem own_pd___V : parseMethodDescriptor "()V" = some ⟨[], none⟩ := by decide +kernel
theorem own_pd__D_V : parseMethodDescriptor "(D)V" = some ⟨[.double], none⟩ := by decide +kernel
theorem own_pd__DII_Z : parseMethodDescriptor "(DII)Z" = some ⟨[.double, .int, .int], some .boolean⟩ := by decide +kernel
def own_max (a b : Int32) : Int32 := if a < b then b else a
def own_min (a b : Int32) : Int32 := if b < a then b else a
theorem own_max_int (a b : Int32) : (own_max a b).toInt = max a.toInt b.toInt := by
  unfold own_max
  by_cases h : a < b
  · rw [if_pos h]; rw [Int32.lt_iff_toInt_lt] at h; omega
  · rw [if_neg h]; rw [Int32.lt_iff_toInt_lt] at h; omega
theorem own_min_int (a b : Int32) : (own_min a b).toInt = min a.toInt b.toInt := by
  unfold own_min
  by_cases h : b < a
  · rw [if_pos h]; rw [Int32.lt_iff_toInt_lt] at h; omega
  · rw [if_neg h]; rw [Int32.lt_iff_toInt_lt] at h; omega
theorem own_gt (a b : Int32) (op : CmpOp) : (0 : Int32) < cmpValue (FP.dcmp (FP.i2d a) (FP.i2d b)) op ↔ b.toInt < a.toInt := by
  rw [own_d_cmp (own_d_i2d a) (own_d_i2d b)]
  rcases Int.lt_trichotomy a.toInt b.toInt with h | h | h
  · rw [Int.compare_eq_lt.mpr h]; exact ⟨fun q => absurd q (by cases op <;> decide), fun q => by omega⟩
  · rw [Int.compare_eq_eq.mpr h]; exact ⟨fun q => absurd q (by cases op <;> decide), fun q => by omega⟩
  · rw [Int.compare_eq_gt.mpr h]; exact ⟨fun _ => h, fun _ => by cases op <;> decide⟩
theorem own_lt (a b : Int32) (op : CmpOp) : cmpValue (FP.dcmp (FP.i2d a) (FP.i2d b)) op < (0 : Int32) ↔ a.toInt < b.toInt := by
  rw [own_d_cmp (own_d_i2d a) (own_d_i2d b)]
  rcases Int.lt_trichotomy a.toInt b.toInt with h | h | h
  · rw [Int.compare_eq_lt.mpr h]; exact ⟨fun _ => h, fun _ => by cases op <;> decide⟩
  · rw [Int.compare_eq_eq.mpr h]; exact ⟨fun q => absurd q (by cases op <;> decide), fun q => by omega⟩
  · rw [Int.compare_eq_gt.mpr h]; exact ⟨fun q => absurd q (by cases op <;> decide), fun q => by omega⟩
theorem own_eq {a b : Int32} (h : a.toInt = b.toInt) (op : CmpOp) : cmpValue (FP.dcmp (FP.i2d a) (FP.i2d b)) op = 0 := own_cmp0.mpr (by rw [own_d_cmp (own_d_i2d a) (own_d_i2d b), h, own_cmp_eq])
theorem own_m100 : (-100 : Int32).toInt = -100 := by decide
theorem own_ne100 {a : Int32} (h : a.toInt ≠ -100) : ¬ a = (-100 : Int32) := fun q => h (by rw [q]; decide)
theorem own_rem9 (x : Int32) : -8 ≤ (x % (9 : Int32)).toInt ∧ (x % (9 : Int32)).toInt ≤ 8 := by
  have h := c_irem x 9 9 (by decide)
  by_cases h0 : 0 ≤ x.toInt
  · have := h.1 h0; omega
  · have := h.2 (by omega); omega
theorem own_lt_up {n a b : Int32} (h : n < a) (hab : a < b) : n < b := Int32.lt_trans h hab
abbrev own_mn0 : MethodName := ⟨"java/lang/Math", "min", "(II)I"⟩
abbrev own_mn1 : MethodName := ⟨"com/example/counterpath/counterpath/core/CappedMaximum", "<init>", "(I)V"⟩
abbrev own_mn2 : MethodName := ⟨"com/example/counterpath/counterpath/core/CappedMaximum", "cap", "(D)V"⟩
abbrev own_mn3 : MethodName := ⟨"com/example/counterpath/counterpath/core/CappedMaximum", "maximum", "()D"⟩
abbrev own_mn4 : MethodName := ⟨"java/lang/Math", "max", "(II)I"⟩
abbrev own_mn5 : MethodName := ⟨"com/example/counterpath/counterpath/core/CappedMaximumCapPinLaw", "expect", "(DII)Z"⟩
abbrev own_mn6 : MethodName := ⟨"com/example/counterpath/counterpath/core/CappedMaximum", "removeAfter", "(I)V"⟩
abbrev own_mn7 : MethodName := ⟨"com/example/counterpath/counterpath/core/CappedMaximum", "addFirst", "(ID)V"⟩
abbrev own_LA0 (p1 : Int32) (p2 : Int32) (p3 : Int32) (p4 : Int32) (p5 : Int32) (nn : Int32) (j0 : Int32) (j1 : Int32) (j2 : Int32) (jb : Int32) (q : Addr) (y0 y1 y2 y3 y4 y5 : Slot) : Array Slot := #[.val (.int p1), .val (.int p2), .val (.int p3), .val (.int p4), .val (.int p5), .val (.int nn), .val (.int (0 : Int32)), .val (.int (0 : Int32)), .val (.int (0 : Int32)), .val (.int j0), .val (.int j1), .val (.int j2), .val (.int jb), .val (.ref q), y0, y1, y2, y3, y4, y5]
abbrev own_LA1 (p1 : Int32) (p2 : Int32) (p3 : Int32) (p4 : Int32) (p5 : Int32) (nn : Int32) (j0 : Int32) (j1 : Int32) (j2 : Int32) (jb : Int32) (q : Addr) (y0 y1 y2 y3 y4 y5 : Slot) : Array Slot := #[.val (.int p1), .val (.int p2), .val (.int p3), .val (.int p4), .val (.int p5), .val (.int nn), .val (.int (1 : Int32)), .val (.int (0 : Int32)), .val (.int (0 : Int32)), .val (.int j0), .val (.int j1), .val (.int j2), .val (.int jb), .val (.ref q), y0, y1, y2, y3, y4, y5]
abbrev own_LA2 (p1 : Int32) (p2 : Int32) (p3 : Int32) (p4 : Int32) (p5 : Int32) (nn : Int32) (j0 : Int32) (j1 : Int32) (j2 : Int32) (jb : Int32) (q : Addr) (y0 y1 y2 y3 y4 y5 : Slot) : Array Slot := #[.val (.int p1), .val (.int p2), .val (.int p3), .val (.int p4), .val (.int p5), .val (.int nn), .val (.int (1 : Int32)), .val (.int (1 : Int32)), .val (.int (0 : Int32)), .val (.int j0), .val (.int j1), .val (.int j2), .val (.int jb), .val (.ref q), y0, y1, y2, y3, y4, y5]
abbrev own_LA3 (p1 : Int32) (p2 : Int32) (p3 : Int32) (p4 : Int32) (p5 : Int32) (nn : Int32) (j0 : Int32) (j1 : Int32) (j2 : Int32) (jb : Int32) (q : Addr) (y0 y1 y2 y3 y4 y5 : Slot) : Array Slot := #[.val (.int p1), .val (.int p2), .val (.int p3), .val (.int p4), .val (.int p5), .val (.int nn), .val (.int (1 : Int32)), .val (.int (1 : Int32)), .val (.int (1 : Int32)), .val (.int j0), .val (.int j1), .val (.int j2), .val (.int jb), .val (.ref q), y0, y1, y2, y3, y4, y5]
theorem own_W0 {a0 : Array Value} {Z : State} (hw : ∀ d ∈ tables_1, d.before a0 Z = true) : Jvm.Cond.before (Jvm.Cond.classLink "com/example/counterpath/counterpath/core/CappedMaximumCapPinLaw" (7 : Nat) "com/example/counterpath/counterpath/core/CappedMaximum") a0 Z = true := hw _ (List.mem_of_getElem? (i := 0) rfl)
theorem own_W1 {a0 : Array Value} {Z : State} (hw : ∀ d ∈ tables_1, d.before a0 Z = true) : Jvm.Cond.before (Jvm.Cond.instantiable "com/example/counterpath/counterpath/core/CappedMaximum" (4 : Nat)) a0 Z = true := hw _ (List.mem_of_getElem? (i := 1) rfl)
theorem own_W2 {a0 : Array Value} {Z : State} (hw : ∀ d ∈ tables_1, d.before a0 Z = true) : Jvm.Cond.before (Jvm.Cond.initialized "com/example/counterpath/counterpath/core/CappedMaximum") a0 Z = true := hw _ (List.mem_of_getElem? (i := 2) rfl)
theorem own_W3 {a0 : Array Value} {Z : State} (hw : ∀ d ∈ tables_1, d.before a0 Z = true) : Jvm.Cond.before (Jvm.Cond.methodLink "com/example/counterpath/counterpath/core/CappedMaximumCapPinLaw" (9 : Nat) ({ cls := "com/example/counterpath/counterpath/core/CappedMaximum", name := "<init>", desc := "(I)V" } : Jvm.MethodName)) a0 Z = true := hw _ (List.mem_of_getElem? (i := 3) rfl)
theorem own_W4 {a0 : Array Value} {Z : State} (hw : ∀ d ∈ tables_1, d.before a0 Z = true) : Jvm.Cond.before (Jvm.Cond.instanceMethod ({ cls := "com/example/counterpath/counterpath/core/CappedMaximum", name := "<init>", desc := "(I)V" } : Jvm.MethodName)) a0 Z = true := hw _ (List.mem_of_getElem? (i := 4) rfl)
theorem own_W5 {a0 : Array Value} {Z : State} (hw : ∀ d ∈ tables_1, d.before a0 Z = true) : Jvm.Cond.before (Jvm.Cond.code ({ cls := "com/example/counterpath/counterpath/core/CappedMaximum", name := "<init>", desc := "(I)V" } : Jvm.MethodName) prog_3_method_1_code (2 : Nat) (Option.none : Option Jvm.ClassFile.FieldType)) a0 Z = true := hw _ (List.mem_of_getElem? (i := 5) rfl)
theorem own_W6 {a0 : Array Value} {Z : State} (hw : ∀ d ∈ tables_1, d.before a0 Z = true) : Jvm.Cond.before (Jvm.Cond.methodLink "com/example/counterpath/counterpath/core/CappedMaximum" (1 : Nat) ({ cls := "java/lang/Object", name := "<init>", desc := "()V" } : Jvm.MethodName)) a0 Z = true := hw _ (List.mem_of_getElem? (i := 6) rfl)
theorem own_W7 {a0 : Array Value} {Z : State} (hw : ∀ d ∈ tables_1, d.before a0 Z = true) : Jvm.Cond.before (Jvm.Cond.instanceMethod ({ cls := "java/lang/Object", name := "<init>", desc := "()V" } : Jvm.MethodName)) a0 Z = true := hw _ (List.mem_of_getElem? (i := 7) rfl)
theorem own_W8 {a0 : Array Value} {Z : State} (hw : ∀ d ∈ tables_1, d.before a0 Z = true) : Jvm.Cond.before (Jvm.Cond.code ({ cls := "java/lang/Object", name := "<init>", desc := "()V" } : Jvm.MethodName) object_method_1_code (1 : Nat) (Option.none : Option Jvm.ClassFile.FieldType)) a0 Z = true := hw _ (List.mem_of_getElem? (i := 8) rfl)
theorem own_W9 {a0 : Array Value} {Z : State} (hw : ∀ d ∈ tables_1, d.before a0 Z = true) : Jvm.Cond.before (Jvm.Cond.arrayClass Jvm.ClassFile.FieldType.int) a0 Z = true := hw _ (List.mem_of_getElem? (i := 9) rfl)
theorem own_W10 {a0 : Array Value} {Z : State} (hw : ∀ d ∈ tables_1, d.before a0 Z = true) : Jvm.Cond.before (Jvm.Cond.fieldLink "com/example/counterpath/counterpath/core/CappedMaximum" (7 : Nat) "com/example/counterpath/counterpath/core/CappedMaximum" "samples" "[I") a0 Z = true := hw _ (List.mem_of_getElem? (i := 10) rfl)
theorem own_W11 {a0 : Array Value} {Z : State} (hw : ∀ d ∈ tables_1, d.before a0 Z = true) : Jvm.Cond.before (Jvm.Cond.laysFinal "com/example/counterpath/counterpath/core/CappedMaximum" "com/example/counterpath/counterpath/core/CappedMaximum" "samples" "[I") a0 Z = true := hw _ (List.mem_of_getElem? (i := 11) rfl)
theorem own_W12 {a0 : Array Value} {Z : State} (hw : ∀ d ∈ tables_1, d.before a0 Z = true) : Jvm.Cond.before (Jvm.Cond.arrayClass Jvm.ClassFile.FieldType.double) a0 Z = true := hw _ (List.mem_of_getElem? (i := 12) rfl)
theorem own_W13 {a0 : Array Value} {Z : State} (hw : ∀ d ∈ tables_1, d.before a0 Z = true) : Jvm.Cond.before (Jvm.Cond.fieldLink "com/example/counterpath/counterpath/core/CappedMaximum" (13 : Nat) "com/example/counterpath/counterpath/core/CappedMaximum" "values" "[D") a0 Z = true := hw _ (List.mem_of_getElem? (i := 13) rfl)
theorem own_W14 {a0 : Array Value} {Z : State} (hw : ∀ d ∈ tables_1, d.before a0 Z = true) : Jvm.Cond.before (Jvm.Cond.laysFinal "com/example/counterpath/counterpath/core/CappedMaximum" "com/example/counterpath/counterpath/core/CappedMaximum" "values" "[D") a0 Z = true := hw _ (List.mem_of_getElem? (i := 14) rfl)
theorem own_W15 {a0 : Array Value} {Z : State} (hw : ∀ d ∈ tables_1, d.before a0 Z = true) : Jvm.Cond.before (Jvm.Cond.fieldLink "com/example/counterpath/counterpath/core/CappedMaximum" (17 : Nat) "com/example/counterpath/counterpath/core/CappedMaximum" "head" "I") a0 Z = true := hw _ (List.mem_of_getElem? (i := 15) rfl)
theorem own_W16 {a0 : Array Value} {Z : State} (hw : ∀ d ∈ tables_1, d.before a0 Z = true) : Jvm.Cond.before (Jvm.Cond.lays "com/example/counterpath/counterpath/core/CappedMaximum" "com/example/counterpath/counterpath/core/CappedMaximum" "head" "I") a0 Z = true := hw _ (List.mem_of_getElem? (i := 16) rfl)
theorem own_W17 {a0 : Array Value} {Z : State} (hw : ∀ d ∈ tables_1, d.before a0 Z = true) : Jvm.Cond.before (Jvm.Cond.fieldLink "com/example/counterpath/counterpath/core/CappedMaximum" (21 : Nat) "com/example/counterpath/counterpath/core/CappedMaximum" "tail" "I") a0 Z = true := hw _ (List.mem_of_getElem? (i := 17) rfl)
theorem own_W18 {a0 : Array Value} {Z : State} (hw : ∀ d ∈ tables_1, d.before a0 Z = true) : Jvm.Cond.before (Jvm.Cond.lays "com/example/counterpath/counterpath/core/CappedMaximum" "com/example/counterpath/counterpath/core/CappedMaximum" "tail" "I") a0 Z = true := hw _ (List.mem_of_getElem? (i := 18) rfl)
theorem own_W19 {a0 : Array Value} {Z : State} (hw : ∀ d ∈ tables_1, d.before a0 Z = true) : Jvm.Cond.before (Jvm.Cond.methodLink "com/example/counterpath/counterpath/core/CappedMaximumCapPinLaw" (16 : Nat) ({ cls := "com/example/counterpath/counterpath/core/CappedMaximum", name := "cap", desc := "(D)V" } : Jvm.MethodName)) a0 Z = true := hw _ (List.mem_of_getElem? (i := 19) rfl)
theorem own_W20 {a0 : Array Value} {Z : State} (hw : ∀ d ∈ tables_1, d.before a0 Z = true) : Jvm.Cond.before (Jvm.Cond.declares ({ cls := "com/example/counterpath/counterpath/core/CappedMaximum", name := "cap", desc := "(D)V" } : Jvm.MethodName)) a0 Z = true := hw _ (List.mem_of_getElem? (i := 20) rfl)
theorem own_W21 {a0 : Array Value} {Z : State} (hw : ∀ d ∈ tables_1, d.before a0 Z = true) : Jvm.Cond.before (Jvm.Cond.instanceMethod ({ cls := "com/example/counterpath/counterpath/core/CappedMaximum", name := "cap", desc := "(D)V" } : Jvm.MethodName)) a0 Z = true := hw _ (List.mem_of_getElem? (i := 21) rfl)
theorem own_W22 {a0 : Array Value} {Z : State} (hw : ∀ d ∈ tables_1, d.before a0 Z = true) : Jvm.Cond.before (Jvm.Cond.selects "com/example/counterpath/counterpath/core/CappedMaximum" ({ cls := "com/example/counterpath/counterpath/core/CappedMaximum", name := "cap", desc := "(D)V" } : Jvm.MethodName) ({ cls := "com/example/counterpath/counterpath/core/CappedMaximum", name := "cap", desc := "(D)V" } : Jvm.MethodName)) a0 Z = true := hw _ (List.mem_of_getElem? (i := 22) rfl)
theorem own_W23 {a0 : Array Value} {Z : State} (hw : ∀ d ∈ tables_1, d.before a0 Z = true) : Jvm.Cond.before (Jvm.Cond.code ({ cls := "com/example/counterpath/counterpath/core/CappedMaximum", name := "cap", desc := "(D)V" } : Jvm.MethodName) prog_3_method_3_code (3 : Nat) (Option.none : Option Jvm.ClassFile.FieldType)) a0 Z = true := hw _ (List.mem_of_getElem? (i := 23) rfl)
theorem own_W24 {a0 : Array Value} {Z : State} (hw : ∀ d ∈ tables_1, d.before a0 Z = true) : Jvm.Cond.before (Jvm.Cond.methodLink "com/example/counterpath/counterpath/core/CappedMaximumCapPinLaw" (20 : Nat) ({ cls := "com/example/counterpath/counterpath/core/CappedMaximum", name := "maximum", desc := "()D" } : Jvm.MethodName)) a0 Z = true := hw _ (List.mem_of_getElem? (i := 24) rfl)
theorem own_W25 {a0 : Array Value} {Z : State} (hw : ∀ d ∈ tables_1, d.before a0 Z = true) : Jvm.Cond.before (Jvm.Cond.declares ({ cls := "com/example/counterpath/counterpath/core/CappedMaximum", name := "maximum", desc := "()D" } : Jvm.MethodName)) a0 Z = true := hw _ (List.mem_of_getElem? (i := 25) rfl)
theorem own_W26 {a0 : Array Value} {Z : State} (hw : ∀ d ∈ tables_1, d.before a0 Z = true) : Jvm.Cond.before (Jvm.Cond.instanceMethod ({ cls := "com/example/counterpath/counterpath/core/CappedMaximum", name := "maximum", desc := "()D" } : Jvm.MethodName)) a0 Z = true := hw _ (List.mem_of_getElem? (i := 26) rfl)
theorem own_W27 {a0 : Array Value} {Z : State} (hw : ∀ d ∈ tables_1, d.before a0 Z = true) : Jvm.Cond.before (Jvm.Cond.selects "com/example/counterpath/counterpath/core/CappedMaximum" ({ cls := "com/example/counterpath/counterpath/core/CappedMaximum", name := "maximum", desc := "()D" } : Jvm.MethodName) ({ cls := "com/example/counterpath/counterpath/core/CappedMaximum", name := "maximum", desc := "()D" } : Jvm.MethodName)) a0 Z = true := hw _ (List.mem_of_getElem? (i := 27) rfl)
theorem own_W28 {a0 : Array Value} {Z : State} (hw : ∀ d ∈ tables_1, d.before a0 Z = true) : Jvm.Cond.before (Jvm.Cond.code ({ cls := "com/example/counterpath/counterpath/core/CappedMaximum", name := "maximum", desc := "()D" } : Jvm.MethodName) prog_3_method_5_code (1 : Nat) (Option.some Jvm.ClassFile.FieldType.double)) a0 Z = true := hw _ (List.mem_of_getElem? (i := 28) rfl)
theorem own_W29 {a0 : Array Value} {Z : State} (hw : ∀ d ∈ tables_1, d.before a0 Z = true) : Jvm.Cond.before (Jvm.Cond.constantDouble "com/example/counterpath/counterpath/core/CappedMaximum" (26 : Nat) (18442240474082181120 : UInt64)) a0 Z = true := hw _ (List.mem_of_getElem? (i := 29) rfl)
theorem own_W30 {a0 : Array Value} {Z : State} (hw : ∀ d ∈ tables_1, d.before a0 Z = true) : Jvm.Cond.before (Jvm.Cond.methodLink "com/example/counterpath/counterpath/core/CappedMaximumCapPinLaw" (24 : Nat) ({ cls := "java/lang/Math", name := "max", desc := "(II)I" } : Jvm.MethodName)) a0 Z = true := hw _ (List.mem_of_getElem? (i := 30) rfl)
theorem own_W31 {a0 : Array Value} {Z : State} (hw : ∀ d ∈ tables_1, d.before a0 Z = true) : Jvm.Cond.before (Jvm.Cond.static ({ cls := "java/lang/Math", name := "max", desc := "(II)I" } : Jvm.MethodName)) a0 Z = true := hw _ (List.mem_of_getElem? (i := 31) rfl)
theorem own_W32 {a0 : Array Value} {Z : State} (hw : ∀ d ∈ tables_1, d.before a0 Z = true) : Jvm.Cond.before (Jvm.Cond.initialized "java/lang/Math") a0 Z = true := hw _ (List.mem_of_getElem? (i := 32) rfl)
theorem own_W33 {a0 : Array Value} {Z : State} (hw : ∀ d ∈ tables_1, d.before a0 Z = true) : Jvm.Cond.before (Jvm.Cond.code ({ cls := "java/lang/Math", name := "max", desc := "(II)I" } : Jvm.MethodName) jdk_29_method_65_code (2 : Nat) (Option.some Jvm.ClassFile.FieldType.int)) a0 Z = true := hw _ (List.mem_of_getElem? (i := 33) rfl)
theorem own_W34 {a0 : Array Value} {Z : State} (hw : ∀ d ∈ tables_1, d.before a0 Z = true) : Jvm.Cond.before (Jvm.Cond.methodLink "com/example/counterpath/counterpath/core/CappedMaximumCapPinLaw" (30 : Nat) ({ cls := "com/example/counterpath/counterpath/core/CappedMaximumCapPinLaw", name := "expect", desc := "(DII)Z" } : Jvm.MethodName)) a0 Z = true := hw _ (List.mem_of_getElem? (i := 34) rfl)
theorem own_W35 {a0 : Array Value} {Z : State} (hw : ∀ d ∈ tables_1, d.before a0 Z = true) : Jvm.Cond.before (Jvm.Cond.static ({ cls := "com/example/counterpath/counterpath/core/CappedMaximumCapPinLaw", name := "expect", desc := "(DII)Z" } : Jvm.MethodName)) a0 Z = true := hw _ (List.mem_of_getElem? (i := 35) rfl)
theorem own_W36 {a0 : Array Value} {Z : State} (hw : ∀ d ∈ tables_1, d.before a0 Z = true) : Jvm.Cond.before (Jvm.Cond.initialized "com/example/counterpath/counterpath/core/CappedMaximumCapPinLaw") a0 Z = true := hw _ (List.mem_of_getElem? (i := 36) rfl)
theorem own_W37 {a0 : Array Value} {Z : State} (hw : ∀ d ∈ tables_1, d.before a0 Z = true) : Jvm.Cond.before (Jvm.Cond.code ({ cls := "com/example/counterpath/counterpath/core/CappedMaximumCapPinLaw", name := "expect", desc := "(DII)Z" } : Jvm.MethodName) method_3_code (4 : Nat) (Option.some Jvm.ClassFile.FieldType.boolean)) a0 Z = true := hw _ (List.mem_of_getElem? (i := 37) rfl)
theorem own_W38 {a0 : Array Value} {Z : State} (hw : ∀ d ∈ tables_1, d.before a0 Z = true) : Jvm.Cond.before (Jvm.Cond.constantDouble "com/example/counterpath/counterpath/core/CappedMaximumCapPinLaw" (41 : Nat) (18442240474082181120 : UInt64)) a0 Z = true := hw _ (List.mem_of_getElem? (i := 38) rfl)
theorem own_W39 {a0 : Array Value} {Z : State} (hw : ∀ d ∈ tables_1, d.before a0 Z = true) : Jvm.Cond.before (Jvm.Cond.methodLink "com/example/counterpath/counterpath/core/CappedMaximumCapPinLaw" (36 : Nat) ({ cls := "com/example/counterpath/counterpath/core/CappedMaximum", name := "removeAfter", desc := "(I)V" } : Jvm.MethodName)) a0 Z = true := hw _ (List.mem_of_getElem? (i := 39) rfl)
theorem own_W40 {a0 : Array Value} {Z : State} (hw : ∀ d ∈ tables_1, d.before a0 Z = true) : Jvm.Cond.before (Jvm.Cond.declares ({ cls := "com/example/counterpath/counterpath/core/CappedMaximum", name := "removeAfter", desc := "(I)V" } : Jvm.MethodName)) a0 Z = true := hw _ (List.mem_of_getElem? (i := 40) rfl)
theorem own_W41 {a0 : Array Value} {Z : State} (hw : ∀ d ∈ tables_1, d.before a0 Z = true) : Jvm.Cond.before (Jvm.Cond.instanceMethod ({ cls := "com/example/counterpath/counterpath/core/CappedMaximum", name := "removeAfter", desc := "(I)V" } : Jvm.MethodName)) a0 Z = true := hw _ (List.mem_of_getElem? (i := 41) rfl)
theorem own_W42 {a0 : Array Value} {Z : State} (hw : ∀ d ∈ tables_1, d.before a0 Z = true) : Jvm.Cond.before (Jvm.Cond.selects "com/example/counterpath/counterpath/core/CappedMaximum" ({ cls := "com/example/counterpath/counterpath/core/CappedMaximum", name := "removeAfter", desc := "(I)V" } : Jvm.MethodName) ({ cls := "com/example/counterpath/counterpath/core/CappedMaximum", name := "removeAfter", desc := "(I)V" } : Jvm.MethodName)) a0 Z = true := hw _ (List.mem_of_getElem? (i := 42) rfl)
theorem own_W43 {a0 : Array Value} {Z : State} (hw : ∀ d ∈ tables_1, d.before a0 Z = true) : Jvm.Cond.before (Jvm.Cond.code ({ cls := "com/example/counterpath/counterpath/core/CappedMaximum", name := "removeAfter", desc := "(I)V" } : Jvm.MethodName) prog_3_method_4_code (2 : Nat) (Option.none : Option Jvm.ClassFile.FieldType)) a0 Z = true := hw _ (List.mem_of_getElem? (i := 43) rfl)
theorem own_W44 {a0 : Array Value} {Z : State} (hw : ∀ d ∈ tables_1, d.before a0 Z = true) : Jvm.Cond.before (Jvm.Cond.methodLink "com/example/counterpath/counterpath/core/CappedMaximumCapPinLaw" (12 : Nat) ({ cls := "com/example/counterpath/counterpath/core/CappedMaximum", name := "addFirst", desc := "(ID)V" } : Jvm.MethodName)) a0 Z = true := hw _ (List.mem_of_getElem? (i := 44) rfl)
theorem own_W45 {a0 : Array Value} {Z : State} (hw : ∀ d ∈ tables_1, d.before a0 Z = true) : Jvm.Cond.before (Jvm.Cond.declares ({ cls := "com/example/counterpath/counterpath/core/CappedMaximum", name := "addFirst", desc := "(ID)V" } : Jvm.MethodName)) a0 Z = true := hw _ (List.mem_of_getElem? (i := 45) rfl)
theorem own_W46 {a0 : Array Value} {Z : State} (hw : ∀ d ∈ tables_1, d.before a0 Z = true) : Jvm.Cond.before (Jvm.Cond.instanceMethod ({ cls := "com/example/counterpath/counterpath/core/CappedMaximum", name := "addFirst", desc := "(ID)V" } : Jvm.MethodName)) a0 Z = true := hw _ (List.mem_of_getElem? (i := 46) rfl)
theorem own_W47 {a0 : Array Value} {Z : State} (hw : ∀ d ∈ tables_1, d.before a0 Z = true) : Jvm.Cond.before (Jvm.Cond.selects "com/example/counterpath/counterpath/core/CappedMaximum" ({ cls := "com/example/counterpath/counterpath/core/CappedMaximum", name := "addFirst", desc := "(ID)V" } : Jvm.MethodName) ({ cls := "com/example/counterpath/counterpath/core/CappedMaximum", name := "addFirst", desc := "(ID)V" } : Jvm.MethodName)) a0 Z = true := hw _ (List.mem_of_getElem? (i := 47) rfl)
theorem own_W48 {a0 : Array Value} {Z : State} (hw : ∀ d ∈ tables_1, d.before a0 Z = true) : Jvm.Cond.before (Jvm.Cond.code ({ cls := "com/example/counterpath/counterpath/core/CappedMaximum", name := "addFirst", desc := "(ID)V" } : Jvm.MethodName) prog_3_method_2_code (4 : Nat) (Option.none : Option Jvm.ClassFile.FieldType)) a0 Z = true := hw _ (List.mem_of_getElem? (i := 48) rfl)
theorem own_W49 {a0 : Array Value} {Z : State} (hw : ∀ d ∈ tables_1, d.before a0 Z = true) : Jvm.Cond.before (Jvm.Cond.methodLink "com/example/counterpath/counterpath/core/CappedMaximumCapPinLaw" (43 : Nat) ({ cls := "java/lang/Math", name := "min", desc := "(II)I" } : Jvm.MethodName)) a0 Z = true := hw _ (List.mem_of_getElem? (i := 49) rfl)
theorem own_W50 {a0 : Array Value} {Z : State} (hw : ∀ d ∈ tables_1, d.before a0 Z = true) : Jvm.Cond.before (Jvm.Cond.static ({ cls := "java/lang/Math", name := "min", desc := "(II)I" } : Jvm.MethodName)) a0 Z = true := hw _ (List.mem_of_getElem? (i := 50) rfl)
theorem own_W51 {a0 : Array Value} {Z : State} (hw : ∀ d ∈ tables_1, d.before a0 Z = true) : Jvm.Cond.before (Jvm.Cond.code ({ cls := "java/lang/Math", name := "min", desc := "(II)I" } : Jvm.MethodName) jdk_29_method_69_code (2 : Nat) (Option.some Jvm.ClassFile.FieldType.int)) a0 Z = true := hw _ (List.mem_of_getElem? (i := 51) rfl)
theorem d1_0 : decode prog_3_method_1_code 0 = .ok (.aload_n 0, 1) := by decide +kernel
theorem d1_1 : decode prog_3_method_1_code 1 = .ok (.invokespecial 1, 3) := by decide +kernel
theorem d1_4 : decode prog_3_method_1_code 4 = .ok (.aload_n 0, 1) := by decide +kernel
theorem d1_5 : decode prog_3_method_1_code 5 = .ok (.iload_n 1, 1) := by decide +kernel
theorem d1_6 : decode prog_3_method_1_code 6 = .ok (.newarray .int, 2) := by decide +kernel
theorem d1_8 : decode prog_3_method_1_code 8 = .ok (.putfield 7, 3) := by decide +kernel
theorem d1_11 : decode prog_3_method_1_code 11 = .ok (.aload_n 0, 1) := by decide +kernel
theorem d1_12 : decode prog_3_method_1_code 12 = .ok (.iload_n 1, 1) := by decide +kernel
theorem d1_13 : decode prog_3_method_1_code 13 = .ok (.newarray .double, 2) := by decide +kernel
theorem d1_15 : decode prog_3_method_1_code 15 = .ok (.putfield 13, 3) := by decide +kernel
theorem d1_18 : decode prog_3_method_1_code 18 = .ok (.aload_n 0, 1) := by decide +kernel
theorem d1_19 : decode prog_3_method_1_code 19 = .ok (.iload_n 1, 1) := by decide +kernel
theorem d1_20 : decode prog_3_method_1_code 20 = .ok (.putfield 17, 3) := by decide +kernel
theorem d1_23 : decode prog_3_method_1_code 23 = .ok (.aload_n 0, 1) := by decide +kernel
theorem d1_24 : decode prog_3_method_1_code 24 = .ok (.iload_n 1, 1) := by decide +kernel
theorem d1_25 : decode prog_3_method_1_code 25 = .ok (.putfield 21, 3) := by decide +kernel
theorem d1_28 : decode prog_3_method_1_code 28 = .ok (.return_, 1) := by decide +kernel
theorem own_pn_com_example_counterpath_counterpath_core_CappedMaximum : plainName "com/example/counterpath/counterpath/core/CappedMaximum" = true := by first | (simp [plainName, overriddenIn]; done) | decide +kernel
theorem own_ef1 (m : MethodId) (x0 : Addr) (x1 : Int32) : entryFrame m #[(.ref x0), (.int x1)] 2 = mkF m 0 #[.val (.ref x0), .val (.int x1)] [] := by first | (simp [entryFrame, mkF, argsToLocals, Value.category]; done) | rfl
set_option maxRecDepth 65536 in
set_option maxHeartbeats 40000000 in
theorem rmI (l : Launch) (Z : State) (a0 : Array Value) (hw : ∀ d ∈ tables_1, d.before a0 Z = true) (ws : List Jvm.Cond) (a : Addr) (cp : Int32)  (h0 : Heap) (n0 : Nat) (Z0 : n0 ≤ h0.size) (hcp : cp = (3 : Int32)) (E7 : Exa Z h0 a own_CM) (FS : Fld Z h0 a own_CM "samples" "[I" .null) (FV : Fld Z h0 a own_CM "values" "[D" .null) (FH : Fld Z h0 a own_CM "head" "I" (.int (0 : Int32))) (FT : Fld Z h0 a own_CM "tail" "I" (.int (0 : Int32))) (ga : n0 ≤ a) :
    MetFree l (⟨"com/example/counterpath/counterpath/core/CappedMaximum", "<init>", "(I)V"⟩ : MethodName) (head1 (Jvm.Cond.code (⟨"com/example/counterpath/counterpath/core/CappedMaximum", "<init>", "(I)V"⟩ : MethodName) prog_3_method_1_code 2 none :: ws) ({ frames := 1, cells := 2, slots := 6, locals := 12 } : Room)) (fun α U => α = #[(.ref a), (.int cp)] ∧ Z.Warmed39 U.vm ∧ U.heap = h0) (fun _ _ _ _ _ => True) (fun _ U ω U' => ∃ ν Λ, ω = .returned ν ∧ QN Z a h0 n0 ν U'.heap Λ ∧ FrameEnd U ω U' Λ ({ frames := 1, cells := 2, slots := 6, locals := 12 } : Room).cells ({ frames := 1, cells := 2, slots := 6, locals := 12 } : Room).slots) := by
  refine MetFree.of_bodySF (plainFor_of_name own_pn_com_example_counterpath_counterpath_core_CappedMaximum) hisR ?_
  intro p e s m args below meth c s₁ Bd hml0 hP hK
  obtain ⟨rfl, hZ, hh⟩ := hP
  have hx := Bd.exec
  have hby := Bd.bytes
  have hml : c.maxLocals = 2 := hml0
  have hown : s.vm.findClass "com/example/counterpath/counterpath/core/CappedMaximum" = some m.cls := findClass_of_methodNamed Bd.named
  have hnm := (name_of_methodNamed Bd.named Bd.method).1
  have X0 : Stand p l e ({ frames := 1, cells := 2, slots := 6, locals := 12 } : Room) s m #[(.ref a), (.int cp)] below meth c s₁ [] 0 0 := Stand.of_body Bd
  have e0 : s₁.heap = h0 := by rw [← hh, Bd.state]; rfl
  have N0 := Fr.nil n0
  have KK0 : Keep h0 h0 [a] := Keep.refl h0 [a]
  obtain ⟨PS, hPS⟩ : ∃ P : State → Prop, P = fun τ => Steps p.tables e below (s₁.setTop (entryFrame m #[(.ref a), (.int cp)] 2)) τ := ⟨_, rfl⟩
  have pre0 : ∀ τ, Steps p.tables e below (s₁.setTop (mkF m 0 #[.val (.ref a), .val (.int cp)] [])) τ → PS τ := by rw [hPS]; exact fun τ κ => castTop (own_ef1 m a cp) κ
  subst hcp
  obtain ⟨T1, X1, e1, st1⟩ := initO X0 hx hZ hown (own_W6 hw) (own_W7 hw) (own_W8 hw) e0 (g := (mkF m 1 #[.val (.ref a), .val (.int (3 : Int32))] [(.ref a)])) rfl (by rw [hml]; rfl) rfl (Jvm.hb hby d1_1) (by decide) (W := 0) (by show 2 * 0 + _ ≤ _; exact Nat.le_of_eq rfl) (by decide)
  have pre2 := fun (τ : State) kt => pre0 τ (by
    refine XS.aloadN X0.here hx rfl (Jvm.hb hby d1_0) rfl rfl ?_
    exact st1 τ kt)
  obtain ⟨T3, h3, k3, X3, e3, E3, A3, st3⟩ := newP (aty := .int) X1 hx hZ (own_W9 hw) e1 (g := (mkF m 6 #[.val (.ref a), .val (.int (3 : Int32))] [(.int (3 : Int32)), (.ref a)])) rfl (Jvm.hb hby d1_6) rfl (by decide) (cap := 3) (by decide) (by decide) (by decide) (by decide)
  obtain ⟨A, g3⟩ : ∃ z, z = h0.size := ⟨_, rfl⟩
  rw [← g3] at A3 st3
  have ne_a_A : a ≠ A := Nat.ne_of_lt (Nat.lt_of_lt_of_le E7.lt (Nat.le_of_eq g3.symm))
  have g_A : n0 ≤ A := Nat.le_trans (Nat.le_trans Z0 KK0.1) (Nat.le_of_eq g3.symm)
  have sz_A : h0.size ≤ A := Nat.le_trans KK0.1 (Nat.le_of_eq g3.symm)
  have K3 : Keep h0 h3 [a] := KK0.ext E3
  have V_A : Arv Z h3 A k3 .int (3 : Int32) [(.int (0 : Int32)), (.int (0 : Int32)), (.int (0 : Int32))] (.int (0 : Int32)) := (Arv.new A3 (by decide)).pad (pad_rep [] (.int (0 : Int32)) 3)
  have pre4 := fun (τ : State) kt => pre2 τ (by
    refine XS.aloadN X1.here hx rfl (Jvm.hb hby d1_4) rfl rfl ?_
    refine XS.iloadN X1.here hx rfl (Jvm.hb hby d1_5) rfl ?_
    exact st3 τ kt)
  have f6 := FS.ext E3
  have f7 := E7.ext E3
  obtain ⟨T5, h5, X5, e5, W5, st5⟩ := putF X3 hx hZ hown (host := "") (Or.inl (own_W10 hw)) Via.refl e3 f6 f7 (Or.inr ⟨(own_W11 hw), rfl, hnm⟩) (own_W1 hw) (ty := (.array .int)) (by decide) rfl rfl (g := (mkF m 8 #[.val (.ref a), .val (.int (3 : Int32))] [(.ref A), (.ref a)])) rfl rfl (Jvm.hb hby d1_8)
  have fw5 := Fld.same W5 f6
  have N5 := Fr.snoc X5 N0 ga
  have K5 : Keep h0 h5 [a] := K3.wr W5 (Or.inl (by simp))
  have pre8 := fun (τ : State) kt => pre4 τ (st5 τ kt)
  obtain ⟨T9, h9, k9, X9, e9, E9, A9, st9⟩ := newP (aty := .double) X5 hx hZ (own_W12 hw) e5 (g := (mkF m 13 #[.val (.ref a), .val (.int (3 : Int32))] [(.int (3 : Int32)), (.ref a)])) rfl (Jvm.hb hby d1_13) rfl (by decide) (cap := 3) (by decide) (by decide) (by decide) (by decide)
  obtain ⟨B, g9⟩ : ∃ z, z = h5.size := ⟨_, rfl⟩
  rw [← g9] at A9 st9
  have f10 := f7.wr W5
  have ne_a_B : a ≠ B := Nat.ne_of_lt (Nat.lt_of_lt_of_le f10.lt (Nat.le_of_eq g9.symm))
  have f11 := V_A.other W5 (Ne.symm ne_a_A)
  have ne_A_B : A ≠ B := Nat.ne_of_lt (Nat.lt_of_lt_of_le f11.lt (Nat.le_of_eq g9.symm))
  have g_B : n0 ≤ B := Nat.le_trans (Nat.le_trans Z0 K5.1) (Nat.le_of_eq g9.symm)
  have sz_B : h0.size ≤ B := Nat.le_trans K5.1 (Nat.le_of_eq g9.symm)
  have K9 : Keep h0 h9 [a] := K5.ext E9
  have V_B : Arv Z h9 B k9 .double (3 : Int32) [(.double (0 : UInt64)), (.double (0 : UInt64)), (.double (0 : UInt64))] (.double (0 : UInt64)) := (Arv.new A9 (by decide)).pad (pad_rep [] (.double (0 : UInt64)) 3)
  have pre12 := fun (τ : State) kt => pre8 τ (by
    refine XS.aloadN X5.here hx rfl (Jvm.hb hby d1_11) rfl rfl ?_
    refine XS.iloadN X5.here hx rfl (Jvm.hb hby d1_12) rfl ?_
    exact st9 τ kt)
  have f14 := FV.ext E3
  have f15 := (f14.other W5 (Or.inr (slot_ne (Or.inr (own_W14 hw)) (Or.inr (own_W11 hw)) (by decide) (t := (.array .double)) (t' := (.array .int)) (by decide) (by decide))))
  have f16 := f15.ext E9
  have f17 := f10.ext E9
  obtain ⟨T13, h13, X13, e13, W13, st13⟩ := putF X9 hx hZ hown (host := "") (Or.inl (own_W13 hw)) Via.refl e9 f16 f17 (Or.inr ⟨(own_W14 hw), rfl, hnm⟩) (own_W1 hw) (ty := (.array .double)) (by decide) rfl rfl (g := (mkF m 15 #[.val (.ref a), .val (.int (3 : Int32))] [(.ref B), (.ref a)])) rfl rfl (Jvm.hb hby d1_15)
  have fw13 := Fld.same W13 f16
  have N13 := Fr.snoc X13 N5 ga
  have K13 : Keep h0 h13 [a] := K9.wr W13 (Or.inl (by simp))
  have pre18 := fun (τ : State) kt => pre12 τ (st13 τ kt)
  have f20 := FH.ext E3
  have f21 := (f20.other W5 (Or.inr (slot_ne (Or.inl (own_W16 hw)) (Or.inr (own_W11 hw)) (by decide) (t := .int) (t' := (.array .int)) (by decide) (by decide))))
  have f22 := f21.ext E9
  have f23 := (f22.other W13 (Or.inr (slot_ne (Or.inl (own_W16 hw)) (Or.inr (own_W14 hw)) (by decide) (t := .int) (t' := (.array .double)) (by decide) (by decide))))
  have f24 := f17.wr W13
  obtain ⟨T19, h19, X19, e19, W19, st19⟩ := putF X13 hx hZ hown (host := "") (Or.inl (own_W15 hw)) Via.refl e13 f23 f24 (Or.inl (own_W16 hw)) (own_W1 hw) (ty := .int) (by decide) rfl rfl (g := (mkF m 20 #[.val (.ref a), .val (.int (3 : Int32))] [(.int (3 : Int32)), (.ref a)])) rfl rfl (Jvm.hb hby d1_20)
  have fw19 := Fld.same W19 f23
  have N19 := Fr.snoc X19 N13 ga
  have K19 : Keep h0 h19 [a] := K13.wr W19 (Or.inl (by simp))
  have pre25 := fun (τ : State) kt => pre18 τ (by
    refine XS.aloadN X13.here hx rfl (Jvm.hb hby d1_18) rfl rfl ?_
    refine XS.iloadN X13.here hx rfl (Jvm.hb hby d1_19) rfl ?_
    exact st19 τ kt)
  have f27 := FT.ext E3
  have f28 := (f27.other W5 (Or.inr (slot_ne (Or.inl (own_W18 hw)) (Or.inr (own_W11 hw)) (by decide) (t := .int) (t' := (.array .int)) (by decide) (by decide))))
  have f29 := f28.ext E9
  have f30 := (f29.other W13 (Or.inr (slot_ne (Or.inl (own_W18 hw)) (Or.inr (own_W14 hw)) (by decide) (t := .int) (t' := (.array .double)) (by decide) (by decide))))
  have f31 := (f30.other W19 (Or.inr (slot_ne (Or.inl (own_W18 hw)) (Or.inl (own_W16 hw)) (by decide) (t := .int) (t' := .int) (by decide) (by decide))))
  have f32 := f24.wr W19
  obtain ⟨T26, h26, X26, e26, W26, st26⟩ := putF X19 hx hZ hown (host := "") (Or.inl (own_W17 hw)) Via.refl e19 f31 f32 (Or.inl (own_W18 hw)) (own_W1 hw) (ty := .int) (by decide) rfl rfl (g := (mkF m 25 #[.val (.ref a), .val (.int (3 : Int32))] [(.int (3 : Int32)), (.ref a)])) rfl rfl (Jvm.hb hby d1_25)
  have fw26 := Fld.same W26 f31
  have N26 := Fr.snoc X26 N19 ga
  have K26 : Keep h0 h26 [a] := K19.wr W26 (Or.inl (by simp))
  have pre33 := fun (τ : State) kt => pre25 τ (by
    refine XS.aloadN X19.here hx rfl (Jvm.hb hby d1_23) rfl rfl ?_
    refine XS.iloadN X19.here hx rfl (Jvm.hb hby d1_24) rfl ?_
    exact st26 τ kt)
  have f34 := fw5.ext E9
  have f35 := (f34.other W13 (Or.inr (slot_ne (Or.inr (own_W11 hw)) (Or.inr (own_W14 hw)) (by decide) (t := (.array .int)) (t' := (.array .double)) (by decide) (by decide))))
  have f36 := (f35.other W19 (Or.inr (slot_ne (Or.inr (own_W11 hw)) (Or.inl (own_W16 hw)) (by decide) (t := (.array .int)) (t' := .int) (by decide) (by decide))))
  have f37 := (f36.other W26 (Or.inr (slot_ne (Or.inr (own_W11 hw)) (Or.inl (own_W18 hw)) (by decide) (t := (.array .int)) (t' := .int) (by decide) (by decide))))
  have f38 := (fw13.other W19 (Or.inr (slot_ne (Or.inr (own_W14 hw)) (Or.inl (own_W16 hw)) (by decide) (t := (.array .double)) (t' := .int) (by decide) (by decide))))
  have f39 := (f38.other W26 (Or.inr (slot_ne (Or.inr (own_W14 hw)) (Or.inl (own_W18 hw)) (by decide) (t := (.array .double)) (t' := .int) (by decide) (by decide))))
  have f40 := (fw19.other W26 (Or.inr (slot_ne (Or.inl (own_W16 hw)) (Or.inl (own_W18 hw)) (by decide) (t := .int) (t' := .int) (by decide) (by decide))))
  have f41 := f11.ext E9
  have f42 := f41.other W13 (Ne.symm ne_a_A)
  have f43 := f42.other W19 (Ne.symm ne_a_A)
  have f44 := f43.other W26 (Ne.symm ne_a_A)
  have f45 := V_B.other W13 (Ne.symm ne_a_B)
  have f46 := f45.other W19 (Ne.symm ne_a_B)
  have f47 := f46.other W26 (Ne.symm ne_a_B)
  obtain ⟨fs, hrL, hrun, hended, hW, hsame⟩ := X26.leave (v := none) (fun _ => rfl)
  refine ⟨_, _, cast (congrFun hPS _) (pre33 _ ?_), hrun, hended, _, _, rfl, ?_, ⟨_, rfl⟩, hW, hsame.mono (by decide) (by decide)⟩
  · show Steps p.tables e below (T26.setTop (mkF m 28 #[.val (.ref a), .val (.int (3 : Int32))] [])) _
    exact X26.returnOut hx Bd.returns (Jvm.hb hby d1_28) hrL
  · show QN Z a h0 n0 _ T26.heap _
    rw [e26]
    exact ⟨rfl, N26, K26, A, B, _, _, g_A, g_B, sz_A, sz_B, ne_a_A, ne_a_B, ne_A_B, f37, f39, f40, fw26, f44, f47⟩
theorem d5_0 : decode jdk_29_method_65_code 0 = .ok (.iload_n 0, 1) := by decide +kernel
theorem d5_1 : decode jdk_29_method_65_code 1 = .ok (.iload_n 1, 1) := by decide +kernel
theorem d5_2 : decode jdk_29_method_65_code 2 = .ok (.if_icmp .lt 7, 3) := by decide +kernel
theorem d5_5 : decode jdk_29_method_65_code 5 = .ok (.iload_n 0, 1) := by decide +kernel
theorem d5_6 : decode jdk_29_method_65_code 6 = .ok (.goto 4, 3) := by decide +kernel
theorem d5_9 : decode jdk_29_method_65_code 9 = .ok (.iload_n 1, 1) := by decide +kernel
theorem d5_10 : decode jdk_29_method_65_code 10 = .ok (.ireturn, 1) := by decide +kernel
theorem own_ef5 (m : MethodId) (x0 : Int32) (x1 : Int32) : entryFrame m #[(.int x0), (.int x1)] 2 = mkF m 0 #[.val (.int x0), .val (.int x1)] [] := by first | (simp [entryFrame, mkF, argsToLocals, Value.category]; done) | rfl
set_option maxRecDepth 65536 in
set_option maxHeartbeats 40000000 in
theorem rm_max (l : Launch) (Z : State) (a0 : Array Value) (hw : ∀ d ∈ tables_1, d.before a0 Z = true) (ws : List Jvm.Cond) (ma : Int32) (mb : Int32)  (h0 : Heap) (n0 : Nat) (Z0 : n0 ≤ h0.size)  :
    MetFree l (⟨"java/lang/Math", "max", "(II)I"⟩ : MethodName) (head1 (Jvm.Cond.code (⟨"java/lang/Math", "max", "(II)I"⟩ : MethodName) jdk_29_method_65_code 2 (some .int) :: ws) ({ frames := 0, cells := 0, slots := 0, locals := 0 } : Room)) (fun α U => α = #[(.int ma), (.int mb)] ∧ Z.Warmed39 U.vm ∧ U.heap = h0) (fun _ _ _ _ _ => True) (fun _ U ω U' => ∃ ν Λ, ω = .returned ν ∧ QI (own_max ma mb) h0 n0 ν U'.heap Λ ∧ FrameEnd U ω U' Λ ({ frames := 0, cells := 0, slots := 0, locals := 0 } : Room).cells ({ frames := 0, cells := 0, slots := 0, locals := 0 } : Room).slots) := by
  refine MetFree.of_bodySF (Jvm.Free.JP.mathPlain rfl (by decide +kernel)) hisR ?_
  intro p e s m args below meth c s₁ Bd hml0 hP hK
  obtain ⟨rfl, hZ, hh⟩ := hP
  have hx := Bd.exec
  have hby := Bd.bytes
  have hml : c.maxLocals = 2 := hml0
  have hown : s.vm.findClass "java/lang/Math" = some m.cls := findClass_of_methodNamed Bd.named
  have hnm := (name_of_methodNamed Bd.named Bd.method).1
  have X0 : Stand p l e ({ frames := 0, cells := 0, slots := 0, locals := 0 } : Room) s m #[(.int ma), (.int mb)] below meth c s₁ [] 0 0 := Stand.of_body Bd
  have e0 : s₁.heap = h0 := by rw [← hh, Bd.state]; rfl
  have N0 := Fr.nil n0
  have KK0 : Keep h0 h0 [] := Keep.refl h0 []
  obtain ⟨PS, hPS⟩ : ∃ P : State → Prop, P = fun τ => Steps p.tables e below (s₁.setTop (entryFrame m #[(.int ma), (.int mb)] 2)) τ := ⟨_, rfl⟩
  have pre0 : ∀ τ, Steps p.tables e below (s₁.setTop (mkF m 0 #[.val (.int ma), .val (.int mb)] [])) τ → PS τ := by rw [hPS]; exact fun τ κ => castTop (own_ef5 m ma mb) κ
  have pre48 := fun (τ : State) kt => pre0 τ (by
    refine XS.iloadN X0.here hx rfl (Jvm.hb hby d5_0) rfl ?_
    refine XS.iloadN X0.here hx rfl (Jvm.hb hby d5_1) rfl ?_
    exact kt)
  by_cases q1 : ma < mb
  · skip
    have hr : own_max ma mb = mb := if_pos q1
    have pre49 := fun (τ : State) kt => pre48 τ (by
      refine XS.icmpYes X0.here hx rfl (pc0 := 2) (pc' := 9) rfl (Jvm.hb hby d5_2) rfl (tlt q1).1 (by decide) (by decide) ?_
      refine XS.iloadN X0.here hx rfl (Jvm.hb hby d5_9) rfl ?_
      exact kt)
    obtain ⟨fs, hrL, hrun, hended, hW, hsame⟩ := X0.leave (v := some (.int mb)) (fun h => by rw [Bd.returns] at h; cases h)
    refine ⟨_, _, cast (congrFun hPS _) (pre49 _ ?_), hrun, hended, _, _, rfl, ?_, ⟨_, rfl⟩, hW, hsame.mono (by decide) (by decide)⟩
    · show Steps p.tables e below (s₁.setTop (mkF m 10 #[.val (.int ma), .val (.int mb)] [(.int mb)])) _
      exact retI X0 hx Bd.returns (Jvm.hb hby d5_10) hrL
    · show QI (own_max ma mb) h0 n0 _ s₁.heap _
      rw [e0]
      exact ⟨congrArg (fun z => some (Value.int z)) hr.symm, N0, rfl⟩
  · skip
    have hr : own_max ma mb = ma := if_neg q1
    have pre50 := fun (τ : State) kt => pre48 τ (by
      refine XS.icmpNo X0.here hx rfl (Jvm.hb hby d5_2) rfl (flt q1).1 ?_
      refine XS.iloadN X0.here hx rfl (Jvm.hb hby d5_5) rfl ?_
      refine XS.goto X0.here hx rfl (pc0 := 6) (pc' := 10) rfl (Jvm.hb hby d5_6) (by decide) (by decide) ?_
      exact kt)
    obtain ⟨fs, hrL, hrun, hended, hW, hsame⟩ := X0.leave (v := some (.int ma)) (fun h => by rw [Bd.returns] at h; cases h)
    refine ⟨_, _, cast (congrFun hPS _) (pre50 _ ?_), hrun, hended, _, _, rfl, ?_, ⟨_, rfl⟩, hW, hsame.mono (by decide) (by decide)⟩
    · show Steps p.tables e below (s₁.setTop (mkF m 10 #[.val (.int ma), .val (.int mb)] [(.int ma)])) _
      exact retI X0 hx Bd.returns (Jvm.hb hby d5_10) hrL
    · show QI (own_max ma mb) h0 n0 _ s₁.heap _
      rw [e0]
      exact ⟨congrArg (fun z => some (Value.int z)) hr.symm, N0, rfl⟩
theorem d9_0 : decode jdk_29_method_69_code 0 = .ok (.iload_n 0, 1) := by decide +kernel
theorem d9_1 : decode jdk_29_method_69_code 1 = .ok (.iload_n 1, 1) := by decide +kernel
theorem d9_2 : decode jdk_29_method_69_code 2 = .ok (.if_icmp .gt 7, 3) := by decide +kernel
theorem d9_5 : decode jdk_29_method_69_code 5 = .ok (.iload_n 0, 1) := by decide +kernel
theorem d9_6 : decode jdk_29_method_69_code 6 = .ok (.goto 4, 3) := by decide +kernel
theorem d9_9 : decode jdk_29_method_69_code 9 = .ok (.iload_n 1, 1) := by decide +kernel
theorem d9_10 : decode jdk_29_method_69_code 10 = .ok (.ireturn, 1) := by decide +kernel
theorem own_ef9 (m : MethodId) (x0 : Int32) (x1 : Int32) : entryFrame m #[(.int x0), (.int x1)] 2 = mkF m 0 #[.val (.int x0), .val (.int x1)] [] := by first | (simp [entryFrame, mkF, argsToLocals, Value.category]; done) | rfl
set_option maxRecDepth 65536 in
set_option maxHeartbeats 40000000 in
theorem rm_min (l : Launch) (Z : State) (a0 : Array Value) (hw : ∀ d ∈ tables_1, d.before a0 Z = true) (ws : List Jvm.Cond) (ma : Int32) (mb : Int32)  (h0 : Heap) (n0 : Nat) (Z0 : n0 ≤ h0.size)  :
    MetFree l (⟨"java/lang/Math", "min", "(II)I"⟩ : MethodName) (head1 (Jvm.Cond.code (⟨"java/lang/Math", "min", "(II)I"⟩ : MethodName) jdk_29_method_69_code 2 (some .int) :: ws) ({ frames := 0, cells := 0, slots := 0, locals := 0 } : Room)) (fun α U => α = #[(.int ma), (.int mb)] ∧ Z.Warmed39 U.vm ∧ U.heap = h0) (fun _ _ _ _ _ => True) (fun _ U ω U' => ∃ ν Λ, ω = .returned ν ∧ QI (own_min ma mb) h0 n0 ν U'.heap Λ ∧ FrameEnd U ω U' Λ ({ frames := 0, cells := 0, slots := 0, locals := 0 } : Room).cells ({ frames := 0, cells := 0, slots := 0, locals := 0 } : Room).slots) := by
  refine MetFree.of_bodySF (Jvm.Free.JP.mathPlain rfl (by decide +kernel)) hisR ?_
  intro p e s m args below meth c s₁ Bd hml0 hP hK
  obtain ⟨rfl, hZ, hh⟩ := hP
  have hx := Bd.exec
  have hby := Bd.bytes
  have hml : c.maxLocals = 2 := hml0
  have hown : s.vm.findClass "java/lang/Math" = some m.cls := findClass_of_methodNamed Bd.named
  have hnm := (name_of_methodNamed Bd.named Bd.method).1
  have X0 : Stand p l e ({ frames := 0, cells := 0, slots := 0, locals := 0 } : Room) s m #[(.int ma), (.int mb)] below meth c s₁ [] 0 0 := Stand.of_body Bd
  have e0 : s₁.heap = h0 := by rw [← hh, Bd.state]; rfl
  have N0 := Fr.nil n0
  have KK0 : Keep h0 h0 [] := Keep.refl h0 []
  obtain ⟨PS, hPS⟩ : ∃ P : State → Prop, P = fun τ => Steps p.tables e below (s₁.setTop (entryFrame m #[(.int ma), (.int mb)] 2)) τ := ⟨_, rfl⟩
  have pre0 : ∀ τ, Steps p.tables e below (s₁.setTop (mkF m 0 #[.val (.int ma), .val (.int mb)] [])) τ → PS τ := by rw [hPS]; exact fun τ κ => castTop (own_ef9 m ma mb) κ
  have pre51 := fun (τ : State) kt => pre0 τ (by
    refine XS.iloadN X0.here hx rfl (Jvm.hb hby d9_0) rfl ?_
    refine XS.iloadN X0.here hx rfl (Jvm.hb hby d9_1) rfl ?_
    exact kt)
  by_cases q1 : mb < ma
  · skip
    have hr : own_min ma mb = mb := if_pos q1
    have pre52 := fun (τ : State) kt => pre51 τ (by
      refine XS.icmpYes X0.here hx rfl (pc0 := 2) (pc' := 9) rfl (Jvm.hb hby d9_2) rfl (tlt q1).2.2.1 (by decide) (by decide) ?_
      refine XS.iloadN X0.here hx rfl (Jvm.hb hby d9_9) rfl ?_
      exact kt)
    obtain ⟨fs, hrL, hrun, hended, hW, hsame⟩ := X0.leave (v := some (.int mb)) (fun h => by rw [Bd.returns] at h; cases h)
    refine ⟨_, _, cast (congrFun hPS _) (pre52 _ ?_), hrun, hended, _, _, rfl, ?_, ⟨_, rfl⟩, hW, hsame.mono (by decide) (by decide)⟩
    · show Steps p.tables e below (s₁.setTop (mkF m 10 #[.val (.int ma), .val (.int mb)] [(.int mb)])) _
      exact retI X0 hx Bd.returns (Jvm.hb hby d9_10) hrL
    · show QI (own_min ma mb) h0 n0 _ s₁.heap _
      rw [e0]
      exact ⟨congrArg (fun z => some (Value.int z)) hr.symm, N0, rfl⟩
  · skip
    have hr : own_min ma mb = ma := if_neg q1
    have pre53 := fun (τ : State) kt => pre51 τ (by
      refine XS.icmpNo X0.here hx rfl (Jvm.hb hby d9_2) rfl (flt q1).2.2.1 ?_
      refine XS.iloadN X0.here hx rfl (Jvm.hb hby d9_5) rfl ?_
      refine XS.goto X0.here hx rfl (pc0 := 6) (pc' := 10) rfl (Jvm.hb hby d9_6) (by decide) (by decide) ?_
      exact kt)
    obtain ⟨fs, hrL, hrun, hended, hW, hsame⟩ := X0.leave (v := some (.int ma)) (fun h => by rw [Bd.returns] at h; cases h)
    refine ⟨_, _, cast (congrFun hPS _) (pre53 _ ?_), hrun, hended, _, _, rfl, ?_, ⟨_, rfl⟩, hW, hsame.mono (by decide) (by decide)⟩
    · show Steps p.tables e below (s₁.setTop (mkF m 10 #[.val (.int ma), .val (.int mb)] [(.int ma)])) _
      exact retI X0 hx Bd.returns (Jvm.hb hby d9_10) hrL
    · show QI (own_min ma mb) h0 n0 _ s₁.heap _
      rw [e0]
      exact ⟨congrArg (fun z => some (Value.int z)) hr.symm, N0, rfl⟩
theorem d6_0 : decode method_3_code 0 = .ok (.iload_n 2, 1) := by decide +kernel
theorem d6_1 : decode method_3_code 1 = .ok (.bipush (-100), 2) := by decide +kernel
theorem d6_3 : decode method_3_code 3 = .ok (.if_icmp .ne 17, 3) := by decide +kernel
theorem d6_6 : decode method_3_code 6 = .ok (.dload_n 0, 1) := by decide +kernel
theorem d6_7 : decode method_3_code 7 = .ok (.ldc2_w 41, 3) := by decide +kernel
theorem d6_10 : decode method_3_code 10 = .ok (.dcmp .l, 1) := by decide +kernel
theorem d6_11 : decode method_3_code 11 = .ok (.ifCond .ne 7, 3) := by decide +kernel
theorem d6_14 : decode method_3_code 14 = .ok (.iconst 1, 1) := by decide +kernel
theorem d6_15 : decode method_3_code 15 = .ok (.goto 4, 3) := by decide +kernel
theorem d6_18 : decode method_3_code 18 = .ok (.iconst 0, 1) := by decide +kernel
theorem d6_19 : decode method_3_code 19 = .ok (.ireturn, 1) := by decide +kernel
theorem d6_20 : decode method_3_code 20 = .ok (.dload_n 0, 1) := by decide +kernel
theorem d6_21 : decode method_3_code 21 = .ok (.iload_n 2, 1) := by decide +kernel
theorem d6_22 : decode method_3_code 22 = .ok (.iload_n 3, 1) := by decide +kernel
theorem d6_23 : decode method_3_code 23 = .ok (.invokestatic 43, 3) := by decide +kernel
theorem d6_26 : decode method_3_code 26 = .ok (.i2d, 1) := by decide +kernel
theorem d6_27 : decode method_3_code 27 = .ok (.dcmp .l, 1) := by decide +kernel
theorem d6_28 : decode method_3_code 28 = .ok (.ifCond .ne 7, 3) := by decide +kernel
theorem d6_31 : decode method_3_code 31 = .ok (.iconst 1, 1) := by decide +kernel
theorem d6_32 : decode method_3_code 32 = .ok (.goto 4, 3) := by decide +kernel
theorem d6_35 : decode method_3_code 35 = .ok (.iconst 0, 1) := by decide +kernel
theorem d6_36 : decode method_3_code 36 = .ok (.ireturn, 1) := by decide +kernel
theorem own_pn_com_example_counterpath_counterpath_core_CappedMaximumCapPinLaw : plainName "com/example/counterpath/counterpath/core/CappedMaximumCapPinLaw" = true := by first | (simp [plainName, overriddenIn]; done) | decide +kernel
theorem own_ef6 (m : MethodId) (x0 : UInt64) (x1 : Int32) (x2 : Int32) : entryFrame m #[(.double x0), (.int x1), (.int x2)] 4 = mkF m 0 #[.val (.double x0), .second, .val (.int x1), .val (.int x2)] [] := by first | (simp [entryFrame, mkF, argsToLocals, Value.category]; done) | rfl
set_option maxRecDepth 65536 in
set_option maxHeartbeats 40000000 in
theorem rmE1 (l : Launch) (Z : State) (a0 : Array Value) (hw : ∀ d ∈ tables_1, d.before a0 Z = true) (ws : List Jvm.Cond) (em : UInt64) (eb : Int32) (ec : Int32)  (h0 : Heap) (n0 : Nat) (Z0 : n0 ≤ h0.size) (h1 : eb = (-100 : Int32)) (h2 : em = (18442240474082181120 : UInt64)) :
    MetFree l (⟨"com/example/counterpath/counterpath/core/CappedMaximumCapPinLaw", "expect", "(DII)Z"⟩ : MethodName) (head1 (Jvm.Cond.code (⟨"com/example/counterpath/counterpath/core/CappedMaximumCapPinLaw", "expect", "(DII)Z"⟩ : MethodName) method_3_code 4 (some .boolean) :: ws) ({ frames := 1, cells := 0, slots := 0, locals := 13 } : Room)) (fun α U => α = #[(.double em), (.int eb), (.int ec)] ∧ Z.Warmed39 U.vm ∧ U.heap = h0) (fun _ _ _ _ _ => True) (fun _ U ω U' => ∃ ν Λ, ω = .returned ν ∧ QI 1 h0 n0 ν U'.heap Λ ∧ FrameEnd U ω U' Λ ({ frames := 1, cells := 0, slots := 0, locals := 13 } : Room).cells ({ frames := 1, cells := 0, slots := 0, locals := 13 } : Room).slots) := by
  refine MetFree.of_bodySF (plainFor_of_name own_pn_com_example_counterpath_counterpath_core_CappedMaximumCapPinLaw) hisR ?_
  intro p e s m args below meth c s₁ Bd hml0 hP hK
  obtain ⟨rfl, hZ, hh⟩ := hP
  have hx := Bd.exec
  have hby := Bd.bytes
  have hml : c.maxLocals = 4 := hml0
  have hown : s.vm.findClass "com/example/counterpath/counterpath/core/CappedMaximumCapPinLaw" = some m.cls := findClass_of_methodNamed Bd.named
  have hnm := (name_of_methodNamed Bd.named Bd.method).1
  have X0 : Stand p l e ({ frames := 1, cells := 0, slots := 0, locals := 13 } : Room) s m #[(.double em), (.int eb), (.int ec)] below meth c s₁ [] 0 0 := Stand.of_body Bd
  have e0 : s₁.heap = h0 := by rw [← hh, Bd.state]; rfl
  have N0 := Fr.nil n0
  have KK0 : Keep h0 h0 [] := Keep.refl h0 []
  obtain ⟨PS, hPS⟩ : ∃ P : State → Prop, P = fun τ => Steps p.tables e below (s₁.setTop (entryFrame m #[(.double em), (.int eb), (.int ec)] 4)) τ := ⟨_, rfl⟩
  have pre0 : ∀ τ, Steps p.tables e below (s₁.setTop (mkF m 0 #[.val (.double em), .second, .val (.int eb), .val (.int ec)] [])) τ → PS τ := by rw [hPS]; exact fun τ κ => castTop (own_ef6 m em eb ec) κ
  have pre54 := fun (τ : State) kt => pre0 τ (by
    refine XS.iloadN X0.here hx rfl (Jvm.hb hby d6_0) rfl ?_
    refine XS.bipush X0.here hx rfl (Jvm.hb hby d6_1) ?_
    refine XS.icmpNo X0.here hx rfl (Jvm.hb hby d6_3) rfl (teq h1).2 ?_
    refine own_dloadN X0.here hx rfl (Jvm.hb hby d6_6) rfl ?_
    refine X0.ldc2DoubleC hx hown (mvT hZ (own_W38 hw)) (g := (mkF m 7 #[.val (.double em), .second, .val (.int eb), .val (.int ec)] [(.double em)])) rfl (Jvm.hb hby d6_7) _ ?_
    refine own_dcmp X0.here hx rfl (Jvm.hb hby d6_10) rfl ?_
    refine XS.ifNo X0.here hx rfl (Jvm.hb hby d6_11) rfl ((if0 _ _).trans (teq (own_cmp0.mpr (by rw [h2]; decide +kernel))).2) ?_
    refine XS.iconst X0.here hx rfl (Jvm.hb hby d6_14) ?_
    refine XS.goto X0.here hx rfl (pc0 := 15) (pc' := 19) rfl (Jvm.hb hby d6_15) (by decide) (by decide) ?_
    exact kt)
  obtain ⟨fs, hrL, hrun, hended, hW, hsame⟩ := X0.leave (v := some (.int (1 : Int32))) (fun h => by rw [Bd.returns] at h; cases h)
  refine ⟨_, _, cast (congrFun hPS _) (pre54 _ ?_), hrun, hended, _, _, rfl, ?_, ⟨_, rfl⟩, hW, hsame.mono (by decide) (by decide)⟩
  · show Steps p.tables e below (s₁.setTop (mkF m 19 #[.val (.double em), .second, .val (.int eb), .val (.int ec)] [(.int (1 : Int32))])) _
    exact retN X0 hx (t := .boolean) Bd.returns (by simp) (Jvm.hb hby d6_19) hrL
  · show QI 1 h0 n0 _ s₁.heap _
    rw [e0]
    exact ⟨rfl, N0, rfl⟩
set_option maxRecDepth 65536 in
set_option maxHeartbeats 40000000 in
theorem rmE2 (l : Launch) (Z : State) (a0 : Array Value) (hw : ∀ d ∈ tables_1, d.before a0 Z = true) (ws : List Jvm.Cond) (em : UInt64) (eb : Int32) (ec : Int32)  (h0 : Heap) (n0 : Nat) (Z0 : n0 ≤ h0.size) (h1 : ¬ eb = (-100 : Int32)) (h2 : cmpValue (FP.dcmp em (FP.i2d (own_min eb ec))) .l = 0) :
    MetFree l (⟨"com/example/counterpath/counterpath/core/CappedMaximumCapPinLaw", "expect", "(DII)Z"⟩ : MethodName) (head1 (Jvm.Cond.code (⟨"com/example/counterpath/counterpath/core/CappedMaximumCapPinLaw", "expect", "(DII)Z"⟩ : MethodName) method_3_code 4 (some .boolean) :: ws) ({ frames := 1, cells := 0, slots := 0, locals := 15 } : Room)) (fun α U => α = #[(.double em), (.int eb), (.int ec)] ∧ Z.Warmed39 U.vm ∧ U.heap = h0) (fun _ _ _ _ _ => True) (fun _ U ω U' => ∃ ν Λ, ω = .returned ν ∧ QI 1 h0 n0 ν U'.heap Λ ∧ FrameEnd U ω U' Λ ({ frames := 1, cells := 0, slots := 0, locals := 15 } : Room).cells ({ frames := 1, cells := 0, slots := 0, locals := 15 } : Room).slots) := by
  refine MetFree.of_bodySF (plainFor_of_name own_pn_com_example_counterpath_counterpath_core_CappedMaximumCapPinLaw) hisR ?_
  intro p e s m args below meth c s₁ Bd hml0 hP hK
  obtain ⟨rfl, hZ, hh⟩ := hP
  have hx := Bd.exec
  have hby := Bd.bytes
  have hml : c.maxLocals = 4 := hml0
  have hown : s.vm.findClass "com/example/counterpath/counterpath/core/CappedMaximumCapPinLaw" = some m.cls := findClass_of_methodNamed Bd.named
  have hnm := (name_of_methodNamed Bd.named Bd.method).1
  have X0 : Stand p l e ({ frames := 1, cells := 0, slots := 0, locals := 15 } : Room) s m #[(.double em), (.int eb), (.int ec)] below meth c s₁ [] 0 0 := Stand.of_body Bd
  have e0 : s₁.heap = h0 := by rw [← hh, Bd.state]; rfl
  have N0 := Fr.nil n0
  have KK0 : Keep h0 h0 [] := Keep.refl h0 []
  obtain ⟨PS, hPS⟩ : ∃ P : State → Prop, P = fun τ => Steps p.tables e below (s₁.setTop (entryFrame m #[(.double em), (.int eb), (.int ec)] 4)) τ := ⟨_, rfl⟩
  have pre0 : ∀ τ, Steps p.tables e below (s₁.setTop (mkF m 0 #[.val (.double em), .second, .val (.int eb), .val (.int ec)] [])) τ → PS τ := by rw [hPS]; exact fun τ κ => castTop (own_ef6 m em eb ec) κ
  obtain ⟨_, T55, L55, X55, ⟨rfl, Nq55, eq55⟩, st55⟩ := own_stat (y := own_mn0) X0 hx hZ hown (own_W49 hw) (own_W50 hw) (by decide) (rm_min l Z a0 hw [] eb ec h0 n0 (Nat.le_trans Z0 KK0.1)) (own_W51 hw) (own_W32 hw) 2 (by decide) (by decide) e0 (mkF m 23 #[.val (.double em), .second, .val (.int eb), .val (.int ec)] [(.int ec), (.int eb), (.double em)]) rfl (by rw [hml]; rfl) [(.int eb), (.int ec)] [(.double em)] rfl (lenOf own_pd__II_I rfl) rfl (Nat.le_refl _) (Jvm.hb hby d6_23) (by decide) (by decide)
  have N55 := Fr.app N0 Nq55
  have pre56 := fun (τ : State) kt => pre0 τ (by
    refine XS.iloadN X0.here hx rfl (Jvm.hb hby d6_0) rfl ?_
    refine XS.bipush X0.here hx rfl (Jvm.hb hby d6_1) ?_
    refine XS.icmpYes X0.here hx rfl (pc0 := 3) (pc' := 20) rfl (Jvm.hb hby d6_3) rfl (feq h1).2 (by decide) (by decide) ?_
    refine own_dloadN X0.here hx rfl (Jvm.hb hby d6_20) rfl ?_
    refine XS.iloadN X0.here hx rfl (Jvm.hb hby d6_21) rfl ?_
    refine XS.iloadN X0.here hx rfl (Jvm.hb hby d6_22) rfl ?_
    exact st55 τ kt)
  have pre57 := fun (τ : State) kt => pre56 τ (by
    refine own_i2d X55.here hx rfl (Jvm.hb hby d6_26) rfl ?_
    refine own_dcmp X55.here hx rfl (Jvm.hb hby d6_27) rfl ?_
    refine XS.ifNo X55.here hx rfl (Jvm.hb hby d6_28) rfl ((if0 _ _).trans (teq h2).2) ?_
    refine XS.iconst X55.here hx rfl (Jvm.hb hby d6_31) ?_
    refine XS.goto X55.here hx rfl (pc0 := 32) (pc' := 36) rfl (Jvm.hb hby d6_32) (by decide) (by decide) ?_
    exact kt)
  obtain ⟨fs, hrL, hrun, hended, hW, hsame⟩ := X55.leave (v := some (.int (1 : Int32))) (fun h => by rw [Bd.returns] at h; cases h)
  refine ⟨_, _, cast (congrFun hPS _) (pre57 _ ?_), hrun, hended, _, _, rfl, ?_, ⟨_, rfl⟩, hW, hsame.mono (by decide) (by decide)⟩
  · show Steps p.tables e below (T55.setTop (mkF m 36 #[.val (.double em), .second, .val (.int eb), .val (.int ec)] [(.int (1 : Int32))])) _
    exact retN X55 hx (t := .boolean) Bd.returns (by simp) (Jvm.hb hby d6_36) hrL
  · show QI 1 h0 n0 _ T55.heap _
    rw [eq55]
    exact ⟨rfl, N55, rfl⟩
theorem d3_0 : decode prog_3_method_3_code 0 = .ok (.aload_n 0, 1) := by decide +kernel
theorem d3_1 : decode prog_3_method_3_code 1 = .ok (.getfield 21, 3) := by decide +kernel
theorem d3_4 : decode prog_3_method_3_code 4 = .ok (.aload_n 0, 1) := by decide +kernel
theorem d3_5 : decode prog_3_method_3_code 5 = .ok (.getfield 17, 3) := by decide +kernel
theorem d3_8 : decode prog_3_method_3_code 8 = .ok (.isub, 1) := by decide +kernel
theorem d3_9 : decode prog_3_method_3_code 9 = .ok (.iconst 2, 1) := by decide +kernel
theorem d3_10 : decode prog_3_method_3_code 10 = .ok (.if_icmp .lt 32, 3) := by decide +kernel
theorem d3_13 : decode prog_3_method_3_code 13 = .ok (.aload_n 0, 1) := by decide +kernel
theorem d3_14 : decode prog_3_method_3_code 14 = .ok (.getfield 13, 3) := by decide +kernel
theorem d3_17 : decode prog_3_method_3_code 17 = .ok (.aload_n 0, 1) := by decide +kernel
theorem d3_18 : decode prog_3_method_3_code 18 = .ok (.getfield 21, 3) := by decide +kernel
theorem d3_21 : decode prog_3_method_3_code 21 = .ok (.iconst 2, 1) := by decide +kernel
theorem d3_22 : decode prog_3_method_3_code 22 = .ok (.isub, 1) := by decide +kernel
theorem d3_23 : decode prog_3_method_3_code 23 = .ok (.daload, 1) := by decide +kernel
theorem d3_24 : decode prog_3_method_3_code 24 = .ok (.dload_n 1, 1) := by decide +kernel
theorem d3_25 : decode prog_3_method_3_code 25 = .ok (.dcmp .l, 1) := by decide +kernel
theorem d3_26 : decode prog_3_method_3_code 26 = .ok (.ifCond .lt 16, 3) := by decide +kernel
theorem d3_29 : decode prog_3_method_3_code 29 = .ok (.aload_n 0, 1) := by decide +kernel
theorem d3_30 : decode prog_3_method_3_code 30 = .ok (.dup, 1) := by decide +kernel
theorem d3_31 : decode prog_3_method_3_code 31 = .ok (.getfield 21, 3) := by decide +kernel
theorem d3_34 : decode prog_3_method_3_code 34 = .ok (.iconst 1, 1) := by decide +kernel
theorem d3_35 : decode prog_3_method_3_code 35 = .ok (.isub, 1) := by decide +kernel
theorem d3_36 : decode prog_3_method_3_code 36 = .ok (.putfield 21, 3) := by decide +kernel
theorem d3_39 : decode prog_3_method_3_code 39 = .ok (.goto (-39), 3) := by decide +kernel
theorem d3_42 : decode prog_3_method_3_code 42 = .ok (.aload_n 0, 1) := by decide +kernel
theorem d3_43 : decode prog_3_method_3_code 43 = .ok (.getfield 21, 3) := by decide +kernel
theorem d3_46 : decode prog_3_method_3_code 46 = .ok (.aload_n 0, 1) := by decide +kernel
theorem d3_47 : decode prog_3_method_3_code 47 = .ok (.getfield 17, 3) := by decide +kernel
theorem d3_50 : decode prog_3_method_3_code 50 = .ok (.if_icmp .le 31, 3) := by decide +kernel
theorem d3_53 : decode prog_3_method_3_code 53 = .ok (.aload_n 0, 1) := by decide +kernel
theorem d3_54 : decode prog_3_method_3_code 54 = .ok (.getfield 13, 3) := by decide +kernel
theorem d3_57 : decode prog_3_method_3_code 57 = .ok (.aload_n 0, 1) := by decide +kernel
theorem d3_58 : decode prog_3_method_3_code 58 = .ok (.getfield 21, 3) := by decide +kernel
theorem d3_61 : decode prog_3_method_3_code 61 = .ok (.iconst 1, 1) := by decide +kernel
theorem d3_62 : decode prog_3_method_3_code 62 = .ok (.isub, 1) := by decide +kernel
theorem d3_63 : decode prog_3_method_3_code 63 = .ok (.daload, 1) := by decide +kernel
theorem d3_64 : decode prog_3_method_3_code 64 = .ok (.dload_n 1, 1) := by decide +kernel
theorem d3_65 : decode prog_3_method_3_code 65 = .ok (.dcmp .l, 1) := by decide +kernel
theorem d3_66 : decode prog_3_method_3_code 66 = .ok (.ifCond .le 15, 3) := by decide +kernel
theorem d3_69 : decode prog_3_method_3_code 69 = .ok (.aload_n 0, 1) := by decide +kernel
theorem d3_70 : decode prog_3_method_3_code 70 = .ok (.getfield 13, 3) := by decide +kernel
theorem d3_73 : decode prog_3_method_3_code 73 = .ok (.aload_n 0, 1) := by decide +kernel
theorem d3_74 : decode prog_3_method_3_code 74 = .ok (.getfield 21, 3) := by decide +kernel
theorem d3_77 : decode prog_3_method_3_code 77 = .ok (.iconst 1, 1) := by decide +kernel
theorem d3_78 : decode prog_3_method_3_code 78 = .ok (.isub, 1) := by decide +kernel
theorem d3_79 : decode prog_3_method_3_code 79 = .ok (.dload_n 1, 1) := by decide +kernel
theorem d3_80 : decode prog_3_method_3_code 80 = .ok (.dastore, 1) := by decide +kernel
theorem d3_81 : decode prog_3_method_3_code 81 = .ok (.return_, 1) := by decide +kernel
theorem own_ef3 (m : MethodId) (x0 : Addr) (x1 : UInt64) : entryFrame m #[(.ref x0), (.double x1)] 3 = mkF m 0 #[.val (.ref x0), .val (.double x1), .second] [] := by first | (simp [entryFrame, mkF, argsToLocals, Value.category]; done) | rfl
set_option maxRecDepth 65536 in
set_option maxHeartbeats 40000000 in
theorem rmCap_33_oe (l : Launch) (Z : State) (a0 : Array Value) (hw : ∀ d ∈ tables_1, d.before a0 Z = true) (ws : List Jvm.Cond) (a : Addr) (xv : UInt64) (A B : Addr) (kA kB : ClassId) (s0 s1 s2 : Int32) (v0 v1 v2 : UInt64) (h0 : Heap) (n0 : Nat) (Z0 : n0 ≤ h0.size) (E7 : Exa Z h0 a own_CM) (FS : Fld Z h0 a own_CM "samples" "[I" (.ref A)) (FV : Fld Z h0 a own_CM "values" "[D" (.ref B)) (FH : Fld Z h0 a own_CM "head" "I" (.int (3 : Int32))) (FT : Fld Z h0 a own_CM "tail" "I" (.int (3 : Int32))) (VS : Arv Z h0 A kA .int (3 : Int32) [(.int s0), (.int s1), (.int s2)] (.int (0 : Int32))) (VV : Arv Z h0 B kB .double (3 : Int32) [(.double v0), (.double v1), (.double v2)] (.double (0 : UInt64))) (naA : a ≠ A) (naB : a ≠ B) (nAB : A ≠ B) (ga : n0 ≤ a) (gA : n0 ≤ A) (gB : n0 ≤ B)  :
    MetFree l (⟨"com/example/counterpath/counterpath/core/CappedMaximum", "cap", "(D)V"⟩ : MethodName) (head1 (Jvm.Cond.code (⟨"com/example/counterpath/counterpath/core/CappedMaximum", "cap", "(D)V"⟩ : MethodName) prog_3_method_3_code 3 none :: ws) ({ frames := 0, cells := 0, slots := 0, locals := 0 } : Room)) (fun α U => α = #[(.ref a), (.double xv)] ∧ Z.Warmed39 U.vm ∧ U.heap = h0) (fun _ _ _ _ _ => True) (fun _ U ω U' => ∃ ν Λ, ω = .returned ν ∧ QC Z a A B kA kB (3 : Int32) (3 : Int32) [(.int s0), (.int s1), (.int s2)] [(.double v0), (.double v1), (.double v2)] h0 n0 ν U'.heap Λ ∧ FrameEnd U ω U' Λ ({ frames := 0, cells := 0, slots := 0, locals := 0 } : Room).cells ({ frames := 0, cells := 0, slots := 0, locals := 0 } : Room).slots) := by
  refine MetFree.of_bodySF (plainFor_of_name own_pn_com_example_counterpath_counterpath_core_CappedMaximum) hisR ?_
  intro p e s m args below meth c s₁ Bd hml0 hP hK
  obtain ⟨rfl, hZ, hh⟩ := hP
  have hx := Bd.exec
  have hby := Bd.bytes
  have hml : c.maxLocals = 3 := hml0
  have hown : s.vm.findClass "com/example/counterpath/counterpath/core/CappedMaximum" = some m.cls := findClass_of_methodNamed Bd.named
  have hnm := (name_of_methodNamed Bd.named Bd.method).1
  have X0 : Stand p l e ({ frames := 0, cells := 0, slots := 0, locals := 0 } : Room) s m #[(.ref a), (.double xv)] below meth c s₁ [] 0 0 := Stand.of_body Bd
  have e0 : s₁.heap = h0 := by rw [← hh, Bd.state]; rfl
  have N0 := Fr.nil n0
  have KK0 : Keep h0 h0 [a, A, B] := Keep.refl h0 [a, A, B]
  obtain ⟨PS, hPS⟩ : ∃ P : State → Prop, P = fun τ => Steps p.tables e below (s₁.setTop (entryFrame m #[(.ref a), (.double xv)] 3)) τ := ⟨_, rfl⟩
  have pre0 : ∀ τ, Steps p.tables e below (s₁.setTop (mkF m 0 #[.val (.ref a), .val (.double xv), .second] [])) τ → PS τ := by rw [hPS]; exact fun τ κ => castTop (own_ef3 m a xv) κ
  obtain ⟨T71, X71, e71, st71⟩ := getF X0 hx hZ hown (host := "") (Or.inl (own_W17 hw)) Via.refl e0 FT (g := (mkF m 1 #[.val (.ref a), .val (.double xv), .second] [(.ref a)])) rfl rfl (Jvm.hb hby d3_1)
  have pre72 := fun (τ : State) kt => pre0 τ (by
    refine XS.aloadN X0.here hx rfl (Jvm.hb hby d3_0) rfl rfl ?_
    exact st71 τ kt)
  obtain ⟨T73, X73, e73, st73⟩ := getF X71 hx hZ hown (host := "") (Or.inl (own_W15 hw)) Via.refl e71 FH (g := (mkF m 5 #[.val (.ref a), .val (.double xv), .second] [(.ref a), (.int (3 : Int32))])) rfl rfl (Jvm.hb hby d3_5)
  have pre74 := fun (τ : State) kt => pre72 τ (by
    refine XS.aloadN X71.here hx rfl (Jvm.hb hby d3_4) rfl rfl ?_
    exact st73 τ kt)
  obtain ⟨T75, X75, e75, st75⟩ := getF X73 hx hZ hown (host := "") (Or.inl (own_W17 hw)) Via.refl e73 FT (g := (mkF m 43 #[.val (.ref a), .val (.double xv), .second] [(.ref a)])) rfl rfl (Jvm.hb hby d3_43)
  have pre76 := fun (τ : State) kt => pre74 τ (by
    refine XS.isub X73.here hx rfl (Jvm.hb hby d3_8) rfl ?_
    refine XS.iconst X73.here hx rfl (Jvm.hb hby d3_9) ?_
    refine XS.icmpYes X73.here hx rfl (pc0 := 10) (pc' := 42) rfl (Jvm.hb hby d3_10) rfl (tlt (by decide)).1 (by decide) (by decide) ?_
    refine XS.aloadN X73.here hx rfl (Jvm.hb hby d3_42) rfl rfl ?_
    exact st75 τ kt)
  obtain ⟨T77, X77, e77, st77⟩ := getF X75 hx hZ hown (host := "") (Or.inl (own_W15 hw)) Via.refl e75 FH (g := (mkF m 47 #[.val (.ref a), .val (.double xv), .second] [(.ref a), (.int (3 : Int32))])) rfl rfl (Jvm.hb hby d3_47)
  have pre78 := fun (τ : State) kt => pre76 τ (by
    refine XS.aloadN X75.here hx rfl (Jvm.hb hby d3_46) rfl rfl ?_
    exact st77 τ kt)
  have pre79 := fun (τ : State) kt => pre78 τ (by
    refine XS.icmpYes X77.here hx rfl (pc0 := 50) (pc' := 81) rfl (Jvm.hb hby d3_50) rfl (flt (by decide)).2.2.2 (by decide) (by decide) ?_
    exact kt)
  obtain ⟨fs, hrL, hrun, hended, hW, hsame⟩ := X77.leave (v := none) (fun _ => rfl)
  refine ⟨_, _, cast (congrFun hPS _) (pre79 _ ?_), hrun, hended, _, _, rfl, ?_, ⟨_, rfl⟩, hW, hsame.mono (by decide) (by decide)⟩
  · show Steps p.tables e below (T77.setTop (mkF m 81 #[.val (.ref a), .val (.double xv), .second] [])) _
    exact X77.returnOut hx Bd.returns (Jvm.hb hby d3_81) hrL
  · show QC Z a A B kA kB (3 : Int32) (3 : Int32) [(.int s0), (.int s1), (.int s2)] [(.double v0), (.double v1), (.double v2)] h0 n0 _ T77.heap _
    rw [e77]
    exact ⟨rfl, N0, KK0, FS, FV, FH, FT, VS, VV⟩
theorem d4_0 : decode prog_3_method_5_code 0 = .ok (.aload_n 0, 1) := by decide +kernel
theorem d4_1 : decode prog_3_method_5_code 1 = .ok (.getfield 21, 3) := by decide +kernel
theorem d4_4 : decode prog_3_method_5_code 4 = .ok (.aload_n 0, 1) := by decide +kernel
theorem d4_5 : decode prog_3_method_5_code 5 = .ok (.getfield 17, 3) := by decide +kernel
theorem d4_8 : decode prog_3_method_5_code 8 = .ok (.if_icmp .le 17, 3) := by decide +kernel
theorem d4_11 : decode prog_3_method_5_code 11 = .ok (.aload_n 0, 1) := by decide +kernel
theorem d4_12 : decode prog_3_method_5_code 12 = .ok (.getfield 13, 3) := by decide +kernel
theorem d4_15 : decode prog_3_method_5_code 15 = .ok (.aload_n 0, 1) := by decide +kernel
theorem d4_16 : decode prog_3_method_5_code 16 = .ok (.getfield 21, 3) := by decide +kernel
theorem d4_19 : decode prog_3_method_5_code 19 = .ok (.iconst 1, 1) := by decide +kernel
theorem d4_20 : decode prog_3_method_5_code 20 = .ok (.isub, 1) := by decide +kernel
theorem d4_21 : decode prog_3_method_5_code 21 = .ok (.daload, 1) := by decide +kernel
theorem d4_22 : decode prog_3_method_5_code 22 = .ok (.goto 6, 3) := by decide +kernel
theorem d4_25 : decode prog_3_method_5_code 25 = .ok (.ldc2_w 26, 3) := by decide +kernel
theorem d4_28 : decode prog_3_method_5_code 28 = .ok (.dreturn, 1) := by decide +kernel
theorem own_ef4 (m : MethodId) (x0 : Addr) : entryFrame m #[(.ref x0)] 1 = mkF m 0 #[.val (.ref x0)] [] := by first | (simp [entryFrame, mkF, argsToLocals, Value.category]; done) | rfl
set_option maxRecDepth 65536 in
set_option maxHeartbeats 40000000 in
theorem rmMax_33 (l : Launch) (Z : State) (a0 : Array Value) (hw : ∀ d ∈ tables_1, d.before a0 Z = true) (ws : List Jvm.Cond) (a : Addr) (A B : Addr) (kA kB : ClassId) (s0 s1 s2 : Int32) (v0 v1 v2 : UInt64) (h0 : Heap) (n0 : Nat) (Z0 : n0 ≤ h0.size) (E7 : Exa Z h0 a own_CM) (FS : Fld Z h0 a own_CM "samples" "[I" (.ref A)) (FV : Fld Z h0 a own_CM "values" "[D" (.ref B)) (FH : Fld Z h0 a own_CM "head" "I" (.int (3 : Int32))) (FT : Fld Z h0 a own_CM "tail" "I" (.int (3 : Int32))) (VS : Arv Z h0 A kA .int (3 : Int32) [(.int s0), (.int s1), (.int s2)] (.int (0 : Int32))) (VV : Arv Z h0 B kB .double (3 : Int32) [(.double v0), (.double v1), (.double v2)] (.double (0 : UInt64))) (naA : a ≠ A) (naB : a ≠ B) (nAB : A ≠ B) (ga : n0 ≤ a) (gA : n0 ≤ A) (gB : n0 ≤ B)  :
    MetFree l (⟨"com/example/counterpath/counterpath/core/CappedMaximum", "maximum", "()D"⟩ : MethodName) (head1 (Jvm.Cond.code (⟨"com/example/counterpath/counterpath/core/CappedMaximum", "maximum", "()D"⟩ : MethodName) prog_3_method_5_code 1 (some .double) :: ws) ({ frames := 0, cells := 0, slots := 0, locals := 0 } : Room)) (fun α U => α = #[(.ref a)] ∧ Z.Warmed39 U.vm ∧ U.heap = h0) (fun _ _ _ _ _ => True) (fun _ U ω U' => ∃ ν Λ, ω = .returned ν ∧ QD (18442240474082181120 : UInt64) h0 n0 ν U'.heap Λ ∧ FrameEnd U ω U' Λ ({ frames := 0, cells := 0, slots := 0, locals := 0 } : Room).cells ({ frames := 0, cells := 0, slots := 0, locals := 0 } : Room).slots) := by
  refine MetFree.of_bodySF (plainFor_of_name own_pn_com_example_counterpath_counterpath_core_CappedMaximum) hisR ?_
  intro p e s m args below meth c s₁ Bd hml0 hP hK
  obtain ⟨rfl, hZ, hh⟩ := hP
  have hx := Bd.exec
  have hby := Bd.bytes
  have hml : c.maxLocals = 1 := hml0
  have hown : s.vm.findClass "com/example/counterpath/counterpath/core/CappedMaximum" = some m.cls := findClass_of_methodNamed Bd.named
  have hnm := (name_of_methodNamed Bd.named Bd.method).1
  have X0 : Stand p l e ({ frames := 0, cells := 0, slots := 0, locals := 0 } : Room) s m #[(.ref a)] below meth c s₁ [] 0 0 := Stand.of_body Bd
  have e0 : s₁.heap = h0 := by rw [← hh, Bd.state]; rfl
  have N0 := Fr.nil n0
  have KK0 : Keep h0 h0 [] := Keep.refl h0 []
  obtain ⟨PS, hPS⟩ : ∃ P : State → Prop, P = fun τ => Steps p.tables e below (s₁.setTop (entryFrame m #[(.ref a)] 1)) τ := ⟨_, rfl⟩
  have pre0 : ∀ τ, Steps p.tables e below (s₁.setTop (mkF m 0 #[.val (.ref a)] [])) τ → PS τ := by rw [hPS]; exact fun τ κ => castTop (own_ef4 m a) κ
  obtain ⟨T83, X83, e83, st83⟩ := getF X0 hx hZ hown (host := "") (Or.inl (own_W17 hw)) Via.refl e0 FT (g := (mkF m 1 #[.val (.ref a)] [(.ref a)])) rfl rfl (Jvm.hb hby d4_1)
  have pre84 := fun (τ : State) kt => pre0 τ (by
    refine XS.aloadN X0.here hx rfl (Jvm.hb hby d4_0) rfl rfl ?_
    exact st83 τ kt)
  obtain ⟨T85, X85, e85, st85⟩ := getF X83 hx hZ hown (host := "") (Or.inl (own_W15 hw)) Via.refl e83 FH (g := (mkF m 5 #[.val (.ref a)] [(.ref a), (.int (3 : Int32))])) rfl rfl (Jvm.hb hby d4_5)
  have pre86 := fun (τ : State) kt => pre84 τ (by
    refine XS.aloadN X83.here hx rfl (Jvm.hb hby d4_4) rfl rfl ?_
    exact st85 τ kt)
  have pre87 := fun (τ : State) kt => pre86 τ (by
    refine XS.icmpYes X85.here hx rfl (pc0 := 8) (pc' := 25) rfl (Jvm.hb hby d4_8) rfl (flt (by decide)).2.2.2 (by decide) (by decide) ?_
    refine X85.ldc2DoubleC hx hown (mvT hZ (own_W29 hw)) (g := (mkF m 25 #[.val (.ref a)] [])) rfl (Jvm.hb hby d4_25) _ ?_
    exact kt)
  obtain ⟨fs, hrL, hrun, hended, hW, hsame⟩ := X85.leave (v := some (.double (18442240474082181120 : UInt64))) (fun h => by rw [Bd.returns] at h; cases h)
  refine ⟨_, _, cast (congrFun hPS _) (pre87 _ ?_), hrun, hended, _, _, rfl, ?_, ⟨_, rfl⟩, hW, hsame.mono (by decide) (by decide)⟩
  · show Steps p.tables e below (T85.setTop (mkF m 28 #[.val (.ref a)] [(.double (18442240474082181120 : UInt64))])) _
    exact own_retD X85 hx Bd.returns (Jvm.hb hby d4_28) hrL
  · show QD (18442240474082181120 : UInt64) h0 n0 _ T85.heap _
    rw [e85]
    exact ⟨rfl, N0, rfl⟩
theorem d7_0 : decode prog_3_method_4_code 0 = .ok (.aload_n 0, 1) := by decide +kernel
theorem d7_1 : decode prog_3_method_4_code 1 = .ok (.getfield 21, 3) := by decide +kernel
theorem d7_4 : decode prog_3_method_4_code 4 = .ok (.aload_n 0, 1) := by decide +kernel
theorem d7_5 : decode prog_3_method_4_code 5 = .ok (.getfield 17, 3) := by decide +kernel
theorem d7_8 : decode prog_3_method_4_code 8 = .ok (.if_icmp .le 31, 3) := by decide +kernel
theorem d7_11 : decode prog_3_method_4_code 11 = .ok (.aload_n 0, 1) := by decide +kernel
theorem d7_12 : decode prog_3_method_4_code 12 = .ok (.getfield 7, 3) := by decide +kernel
theorem d7_15 : decode prog_3_method_4_code 15 = .ok (.aload_n 0, 1) := by decide +kernel
theorem d7_16 : decode prog_3_method_4_code 16 = .ok (.getfield 21, 3) := by decide +kernel
theorem d7_19 : decode prog_3_method_4_code 19 = .ok (.iconst 1, 1) := by decide +kernel
theorem d7_20 : decode prog_3_method_4_code 20 = .ok (.isub, 1) := by decide +kernel
theorem d7_21 : decode prog_3_method_4_code 21 = .ok (.iaload, 1) := by decide +kernel
theorem d7_22 : decode prog_3_method_4_code 22 = .ok (.iload_n 1, 1) := by decide +kernel
theorem d7_23 : decode prog_3_method_4_code 23 = .ok (.if_icmp .le 16, 3) := by decide +kernel
theorem d7_26 : decode prog_3_method_4_code 26 = .ok (.aload_n 0, 1) := by decide +kernel
theorem d7_27 : decode prog_3_method_4_code 27 = .ok (.dup, 1) := by decide +kernel
theorem d7_28 : decode prog_3_method_4_code 28 = .ok (.getfield 21, 3) := by decide +kernel
theorem d7_31 : decode prog_3_method_4_code 31 = .ok (.iconst 1, 1) := by decide +kernel
theorem d7_32 : decode prog_3_method_4_code 32 = .ok (.isub, 1) := by decide +kernel
theorem d7_33 : decode prog_3_method_4_code 33 = .ok (.putfield 21, 3) := by decide +kernel
theorem d7_36 : decode prog_3_method_4_code 36 = .ok (.goto (-36), 3) := by decide +kernel
theorem d7_39 : decode prog_3_method_4_code 39 = .ok (.return_, 1) := by decide +kernel
theorem own_ef7 (m : MethodId) (x0 : Addr) (x1 : Int32) : entryFrame m #[(.ref x0), (.int x1)] 2 = mkF m 0 #[.val (.ref x0), .val (.int x1)] [] := by first | (simp [entryFrame, mkF, argsToLocals, Value.category]; done) | rfl
set_option maxRecDepth 65536 in
set_option maxHeartbeats 40000000 in
theorem rmRem_33_e (l : Launch) (Z : State) (a0 : Array Value) (hw : ∀ d ∈ tables_1, d.before a0 Z = true) (ws : List Jvm.Cond) (a : Addr) (xs : Int32) (A B : Addr) (kA kB : ClassId) (s0 s1 s2 : Int32) (v0 v1 v2 : UInt64) (h0 : Heap) (n0 : Nat) (Z0 : n0 ≤ h0.size) (E7 : Exa Z h0 a own_CM) (FS : Fld Z h0 a own_CM "samples" "[I" (.ref A)) (FV : Fld Z h0 a own_CM "values" "[D" (.ref B)) (FH : Fld Z h0 a own_CM "head" "I" (.int (3 : Int32))) (FT : Fld Z h0 a own_CM "tail" "I" (.int (3 : Int32))) (VS : Arv Z h0 A kA .int (3 : Int32) [(.int s0), (.int s1), (.int s2)] (.int (0 : Int32))) (VV : Arv Z h0 B kB .double (3 : Int32) [(.double v0), (.double v1), (.double v2)] (.double (0 : UInt64))) (naA : a ≠ A) (naB : a ≠ B) (nAB : A ≠ B) (ga : n0 ≤ a) (gA : n0 ≤ A) (gB : n0 ≤ B)  :
    MetFree l (⟨"com/example/counterpath/counterpath/core/CappedMaximum", "removeAfter", "(I)V"⟩ : MethodName) (head1 (Jvm.Cond.code (⟨"com/example/counterpath/counterpath/core/CappedMaximum", "removeAfter", "(I)V"⟩ : MethodName) prog_3_method_4_code 2 none :: ws) ({ frames := 0, cells := 0, slots := 0, locals := 0 } : Room)) (fun α U => α = #[(.ref a), (.int xs)] ∧ Z.Warmed39 U.vm ∧ U.heap = h0) (fun _ _ _ _ _ => True) (fun _ U ω U' => ∃ ν Λ, ω = .returned ν ∧ QC Z a A B kA kB (3 : Int32) (3 : Int32) [(.int s0), (.int s1), (.int s2)] [(.double v0), (.double v1), (.double v2)] h0 n0 ν U'.heap Λ ∧ FrameEnd U ω U' Λ ({ frames := 0, cells := 0, slots := 0, locals := 0 } : Room).cells ({ frames := 0, cells := 0, slots := 0, locals := 0 } : Room).slots) := by
  refine MetFree.of_bodySF (plainFor_of_name own_pn_com_example_counterpath_counterpath_core_CappedMaximum) hisR ?_
  intro p e s m args below meth c s₁ Bd hml0 hP hK
  obtain ⟨rfl, hZ, hh⟩ := hP
  have hx := Bd.exec
  have hby := Bd.bytes
  have hml : c.maxLocals = 2 := hml0
  have hown : s.vm.findClass "com/example/counterpath/counterpath/core/CappedMaximum" = some m.cls := findClass_of_methodNamed Bd.named
  have hnm := (name_of_methodNamed Bd.named Bd.method).1
  have X0 : Stand p l e ({ frames := 0, cells := 0, slots := 0, locals := 0 } : Room) s m #[(.ref a), (.int xs)] below meth c s₁ [] 0 0 := Stand.of_body Bd
  have e0 : s₁.heap = h0 := by rw [← hh, Bd.state]; rfl
  have N0 := Fr.nil n0
  have KK0 : Keep h0 h0 [a, A, B] := Keep.refl h0 [a, A, B]
  obtain ⟨PS, hPS⟩ : ∃ P : State → Prop, P = fun τ => Steps p.tables e below (s₁.setTop (entryFrame m #[(.ref a), (.int xs)] 2)) τ := ⟨_, rfl⟩
  have pre0 : ∀ τ, Steps p.tables e below (s₁.setTop (mkF m 0 #[.val (.ref a), .val (.int xs)] [])) τ → PS τ := by rw [hPS]; exact fun τ κ => castTop (own_ef7 m a xs) κ
  obtain ⟨T97, X97, e97, st97⟩ := getF X0 hx hZ hown (host := "") (Or.inl (own_W17 hw)) Via.refl e0 FT (g := (mkF m 1 #[.val (.ref a), .val (.int xs)] [(.ref a)])) rfl rfl (Jvm.hb hby d7_1)
  have pre98 := fun (τ : State) kt => pre0 τ (by
    refine XS.aloadN X0.here hx rfl (Jvm.hb hby d7_0) rfl rfl ?_
    exact st97 τ kt)
  obtain ⟨T99, X99, e99, st99⟩ := getF X97 hx hZ hown (host := "") (Or.inl (own_W15 hw)) Via.refl e97 FH (g := (mkF m 5 #[.val (.ref a), .val (.int xs)] [(.ref a), (.int (3 : Int32))])) rfl rfl (Jvm.hb hby d7_5)
  have pre100 := fun (τ : State) kt => pre98 τ (by
    refine XS.aloadN X97.here hx rfl (Jvm.hb hby d7_4) rfl rfl ?_
    exact st99 τ kt)
  have pre101 := fun (τ : State) kt => pre100 τ (by
    refine XS.icmpYes X99.here hx rfl (pc0 := 8) (pc' := 39) rfl (Jvm.hb hby d7_8) rfl (flt (by decide)).2.2.2 (by decide) (by decide) ?_
    exact kt)
  obtain ⟨fs, hrL, hrun, hended, hW, hsame⟩ := X99.leave (v := none) (fun _ => rfl)
  refine ⟨_, _, cast (congrFun hPS _) (pre101 _ ?_), hrun, hended, _, _, rfl, ?_, ⟨_, rfl⟩, hW, hsame.mono (by decide) (by decide)⟩
  · show Steps p.tables e below (T99.setTop (mkF m 39 #[.val (.ref a), .val (.int xs)] [])) _
    exact X99.returnOut hx Bd.returns (Jvm.hb hby d7_39) hrL
  · show QC Z a A B kA kB (3 : Int32) (3 : Int32) [(.int s0), (.int s1), (.int s2)] [(.double v0), (.double v1), (.double v2)] h0 n0 _ T99.heap _
    rw [e99]
    exact ⟨rfl, N0, KK0, FS, FV, FH, FT, VS, VV⟩
theorem d8_0 : decode prog_3_method_2_code 0 = .ok (.aload_n 0, 1) := by decide +kernel
theorem d8_1 : decode prog_3_method_2_code 1 = .ok (.getfield 17, 3) := by decide +kernel
theorem d8_4 : decode prog_3_method_2_code 4 = .ok (.aload_n 0, 1) := by decide +kernel
theorem d8_5 : decode prog_3_method_2_code 5 = .ok (.getfield 21, 3) := by decide +kernel
theorem d8_8 : decode prog_3_method_2_code 8 = .ok (.if_icmp .ge 30, 3) := by decide +kernel
theorem d8_11 : decode prog_3_method_2_code 11 = .ok (.aload_n 0, 1) := by decide +kernel
theorem d8_12 : decode prog_3_method_2_code 12 = .ok (.getfield 13, 3) := by decide +kernel
theorem d8_15 : decode prog_3_method_2_code 15 = .ok (.aload_n 0, 1) := by decide +kernel
theorem d8_16 : decode prog_3_method_2_code 16 = .ok (.getfield 17, 3) := by decide +kernel
theorem d8_19 : decode prog_3_method_2_code 19 = .ok (.daload, 1) := by decide +kernel
theorem d8_20 : decode prog_3_method_2_code 20 = .ok (.dload_n 2, 1) := by decide +kernel
theorem d8_21 : decode prog_3_method_2_code 21 = .ok (.dcmp .g, 1) := by decide +kernel
theorem d8_22 : decode prog_3_method_2_code 22 = .ok (.ifCond .gt 16, 3) := by decide +kernel
theorem d8_25 : decode prog_3_method_2_code 25 = .ok (.aload_n 0, 1) := by decide +kernel
theorem d8_26 : decode prog_3_method_2_code 26 = .ok (.dup, 1) := by decide +kernel
theorem d8_27 : decode prog_3_method_2_code 27 = .ok (.getfield 17, 3) := by decide +kernel
theorem d8_30 : decode prog_3_method_2_code 30 = .ok (.iconst 1, 1) := by decide +kernel
theorem d8_31 : decode prog_3_method_2_code 31 = .ok (.iadd, 1) := by decide +kernel
theorem d8_32 : decode prog_3_method_2_code 32 = .ok (.putfield 17, 3) := by decide +kernel
theorem d8_35 : decode prog_3_method_2_code 35 = .ok (.goto (-35), 3) := by decide +kernel
theorem d8_38 : decode prog_3_method_2_code 38 = .ok (.aload_n 0, 1) := by decide +kernel
theorem d8_39 : decode prog_3_method_2_code 39 = .ok (.dup, 1) := by decide +kernel
theorem d8_40 : decode prog_3_method_2_code 40 = .ok (.getfield 17, 3) := by decide +kernel
theorem d8_43 : decode prog_3_method_2_code 43 = .ok (.iconst 1, 1) := by decide +kernel
theorem d8_44 : decode prog_3_method_2_code 44 = .ok (.isub, 1) := by decide +kernel
theorem d8_45 : decode prog_3_method_2_code 45 = .ok (.putfield 17, 3) := by decide +kernel
theorem d8_48 : decode prog_3_method_2_code 48 = .ok (.aload_n 0, 1) := by decide +kernel
theorem d8_49 : decode prog_3_method_2_code 49 = .ok (.getfield 7, 3) := by decide +kernel
theorem d8_52 : decode prog_3_method_2_code 52 = .ok (.aload_n 0, 1) := by decide +kernel
theorem d8_53 : decode prog_3_method_2_code 53 = .ok (.getfield 17, 3) := by decide +kernel
theorem d8_56 : decode prog_3_method_2_code 56 = .ok (.iload_n 1, 1) := by decide +kernel
theorem d8_57 : decode prog_3_method_2_code 57 = .ok (.iastore, 1) := by decide +kernel
theorem d8_58 : decode prog_3_method_2_code 58 = .ok (.aload_n 0, 1) := by decide +kernel
theorem d8_59 : decode prog_3_method_2_code 59 = .ok (.getfield 13, 3) := by decide +kernel
theorem d8_62 : decode prog_3_method_2_code 62 = .ok (.aload_n 0, 1) := by decide +kernel
theorem d8_63 : decode prog_3_method_2_code 63 = .ok (.getfield 17, 3) := by decide +kernel
theorem d8_66 : decode prog_3_method_2_code 66 = .ok (.dload_n 2, 1) := by decide +kernel
theorem d8_67 : decode prog_3_method_2_code 67 = .ok (.dastore, 1) := by decide +kernel
theorem d8_68 : decode prog_3_method_2_code 68 = .ok (.return_, 1) := by decide +kernel
theorem own_ef8 (m : MethodId) (x0 : Addr) (x1 : Int32) (x2 : UInt64) : entryFrame m #[(.ref x0), (.int x1), (.double x2)] 4 = mkF m 0 #[.val (.ref x0), .val (.int x1), .val (.double x2), .second] [] := by first | (simp [entryFrame, mkF, argsToLocals, Value.category]; done) | rfl
set_option maxRecDepth 65536 in
set_option maxHeartbeats 40000000 in
theorem rmAdd_33_e (l : Launch) (Z : State) (a0 : Array Value) (hw : ∀ d ∈ tables_1, d.before a0 Z = true) (ws : List Jvm.Cond) (a : Addr) (xs : Int32) (xv : UInt64) (A B : Addr) (kA kB : ClassId) (s0 s1 s2 : Int32) (v0 v1 v2 : UInt64) (h0 : Heap) (n0 : Nat) (Z0 : n0 ≤ h0.size) (E7 : Exa Z h0 a own_CM) (FS : Fld Z h0 a own_CM "samples" "[I" (.ref A)) (FV : Fld Z h0 a own_CM "values" "[D" (.ref B)) (FH : Fld Z h0 a own_CM "head" "I" (.int (3 : Int32))) (FT : Fld Z h0 a own_CM "tail" "I" (.int (3 : Int32))) (VS : Arv Z h0 A kA .int (3 : Int32) [(.int s0), (.int s1), (.int s2)] (.int (0 : Int32))) (VV : Arv Z h0 B kB .double (3 : Int32) [(.double v0), (.double v1), (.double v2)] (.double (0 : UInt64))) (naA : a ≠ A) (naB : a ≠ B) (nAB : A ≠ B) (ga : n0 ≤ a) (gA : n0 ≤ A) (gB : n0 ≤ B)  :
    MetFree l (⟨"com/example/counterpath/counterpath/core/CappedMaximum", "addFirst", "(ID)V"⟩ : MethodName) (head1 (Jvm.Cond.code (⟨"com/example/counterpath/counterpath/core/CappedMaximum", "addFirst", "(ID)V"⟩ : MethodName) prog_3_method_2_code 4 none :: ws) ({ frames := 0, cells := 0, slots := 0, locals := 0 } : Room)) (fun α U => α = #[(.ref a), (.int xs), (.double xv)] ∧ Z.Warmed39 U.vm ∧ U.heap = h0) (fun _ _ _ _ _ => True) (fun _ U ω U' => ∃ ν Λ, ω = .returned ν ∧ QC Z a A B kA kB (2 : Int32) (3 : Int32) [(.int s0), (.int s1), (.int xs)] [(.double v0), (.double v1), (.double xv)] h0 n0 ν U'.heap Λ ∧ FrameEnd U ω U' Λ ({ frames := 0, cells := 0, slots := 0, locals := 0 } : Room).cells ({ frames := 0, cells := 0, slots := 0, locals := 0 } : Room).slots) := by
  refine MetFree.of_bodySF (plainFor_of_name own_pn_com_example_counterpath_counterpath_core_CappedMaximum) hisR ?_
  intro p e s m args below meth c s₁ Bd hml0 hP hK
  obtain ⟨rfl, hZ, hh⟩ := hP
  have hx := Bd.exec
  have hby := Bd.bytes
  have hml : c.maxLocals = 4 := hml0
  have hown : s.vm.findClass "com/example/counterpath/counterpath/core/CappedMaximum" = some m.cls := findClass_of_methodNamed Bd.named
  have hnm := (name_of_methodNamed Bd.named Bd.method).1
  have X0 : Stand p l e ({ frames := 0, cells := 0, slots := 0, locals := 0 } : Room) s m #[(.ref a), (.int xs), (.double xv)] below meth c s₁ [] 0 0 := Stand.of_body Bd
  have e0 : s₁.heap = h0 := by rw [← hh, Bd.state]; rfl
  have N0 := Fr.nil n0
  have KK0 : Keep h0 h0 [a, A, B] := Keep.refl h0 [a, A, B]
  obtain ⟨PS, hPS⟩ : ∃ P : State → Prop, P = fun τ => Steps p.tables e below (s₁.setTop (entryFrame m #[(.ref a), (.int xs), (.double xv)] 4)) τ := ⟨_, rfl⟩
  have pre0 : ∀ τ, Steps p.tables e below (s₁.setTop (mkF m 0 #[.val (.ref a), .val (.int xs), .val (.double xv), .second] [])) τ → PS τ := by rw [hPS]; exact fun τ κ => castTop (own_ef8 m a xs xv) κ
  obtain ⟨T130, X130, e130, st130⟩ := getF X0 hx hZ hown (host := "") (Or.inl (own_W15 hw)) Via.refl e0 FH (g := (mkF m 1 #[.val (.ref a), .val (.int xs), .val (.double xv), .second] [(.ref a)])) rfl rfl (Jvm.hb hby d8_1)
  have pre131 := fun (τ : State) kt => pre0 τ (by
    refine XS.aloadN X0.here hx rfl (Jvm.hb hby d8_0) rfl rfl ?_
    exact st130 τ kt)
  obtain ⟨T132, X132, e132, st132⟩ := getF X130 hx hZ hown (host := "") (Or.inl (own_W17 hw)) Via.refl e130 FT (g := (mkF m 5 #[.val (.ref a), .val (.int xs), .val (.double xv), .second] [(.ref a), (.int (3 : Int32))])) rfl rfl (Jvm.hb hby d8_5)
  have pre133 := fun (τ : State) kt => pre131 τ (by
    refine XS.aloadN X130.here hx rfl (Jvm.hb hby d8_4) rfl rfl ?_
    exact st132 τ kt)
  obtain ⟨T134, X134, e134, st134⟩ := getF X132 hx hZ hown (host := "") (Or.inl (own_W15 hw)) Via.refl e132 FH (g := (mkF m 40 #[.val (.ref a), .val (.int xs), .val (.double xv), .second] [(.ref a), (.ref a)])) rfl rfl (Jvm.hb hby d8_40)
  have pre135 := fun (τ : State) kt => pre133 τ (by
    refine XS.icmpYes X132.here hx rfl (pc0 := 8) (pc' := 38) rfl (Jvm.hb hby d8_8) rfl (flt (by decide)).2.1 (by decide) (by decide) ?_
    refine XS.aloadN X132.here hx rfl (Jvm.hb hby d8_38) rfl rfl ?_
    refine XS.dup X132.here hx rfl (Jvm.hb hby d8_39) rfl rfl ?_
    exact st134 τ kt)
  obtain ⟨T136, h136, X136, e136, W136, st136⟩ := putF X134 hx hZ hown (host := "") (Or.inl (own_W15 hw)) Via.refl e134 FH E7 (Or.inl (own_W16 hw)) (own_W1 hw) (ty := .int) (by decide) rfl rfl (g := (mkF m 45 #[.val (.ref a), .val (.int xs), .val (.double xv), .second] [(.int (2 : Int32)), (.ref a)])) rfl rfl (Jvm.hb hby d8_45)
  have fw136 := Fld.same W136 FH
  have N136 := Fr.snoc X136 N0 ga
  have K136 : Keep h0 h136 [a, A, B] := KK0.wr W136 (Or.inl (by simp))
  have pre137 := fun (τ : State) kt => pre135 τ (by
    refine XS.iconst X134.here hx rfl (Jvm.hb hby d8_43) ?_
    refine XS.isub X134.here hx rfl (Jvm.hb hby d8_44) rfl ?_
    exact st136 τ kt)
  have f139 := (FS.other W136 (Or.inr (slot_ne (Or.inr (own_W11 hw)) (Or.inl (own_W16 hw)) (by decide) (t := (.array .int)) (t' := .int) (by decide) (by decide))))
  obtain ⟨T138, X138, e138, st138⟩ := getF X136 hx hZ hown (host := "") (Or.inl (own_W10 hw)) Via.refl e136 f139 (g := (mkF m 49 #[.val (.ref a), .val (.int xs), .val (.double xv), .second] [(.ref a)])) rfl rfl (Jvm.hb hby d8_49)
  have pre140 := fun (τ : State) kt => pre137 τ (by
    refine XS.aloadN X136.here hx rfl (Jvm.hb hby d8_48) rfl rfl ?_
    exact st138 τ kt)
  obtain ⟨T141, X141, e141, st141⟩ := getF X138 hx hZ hown (host := "") (Or.inl (own_W15 hw)) Via.refl e138 fw136 (g := (mkF m 53 #[.val (.ref a), .val (.int xs), .val (.double xv), .second] [(.ref a), (.ref A)])) rfl rfl (Jvm.hb hby d8_53)
  have pre142 := fun (τ : State) kt => pre140 τ (by
    refine XS.aloadN X138.here hx rfl (Jvm.hb hby d8_52) rfl rfl ?_
    exact st141 τ kt)
  have f143 := VS.other W136 (Ne.symm naA)
  obtain ⟨cl144, Ar144, q144, S144, M144, H144, U144⟩ := id f143
  obtain ⟨T145, h145, X145, e145, W145, st145⟩ := stI X141 hx hZ e141 Ar144 (j := (2 : Int32)) (inb_of S144 ⟨by decide, by decide⟩) (g := (mkF m 57 #[.val (.ref a), .val (.int xs), .val (.double xv), .second] [(.int xs), (.int (2 : Int32)), (.ref A)])) rfl rfl (Jvm.hb hby d8_57)
  have V145 : Arv Z h145 A kA .int (3 : Int32) [(.int s0), (.int s1), (.int xs)] (.int (0 : Int32)) := Arv.set Ar144 q144 S144 M144 H144 U144 rfl W145 2 rfl (Nat.le_of_ble_eq_true rfl)
  have N145 := Fr.snoc X145 N136 gA
  have K145 : Keep h0 h145 [a, A, B] := K136.wr W145 (Or.inl (by simp))
  have pre146 := fun (τ : State) kt => pre142 τ (by
    refine XS.iloadN X141.here hx rfl (Jvm.hb hby d8_56) rfl ?_
    exact st145 τ kt)
  have f148 := (FV.other W136 (Or.inr (slot_ne (Or.inr (own_W14 hw)) (Or.inl (own_W16 hw)) (by decide) (t := (.array .double)) (t' := .int) (by decide) (by decide))))
  have f149 := (f148.other W145 (Or.inl naA))
  obtain ⟨T147, X147, e147, st147⟩ := getF X145 hx hZ hown (host := "") (Or.inl (own_W13 hw)) Via.refl e145 f149 (g := (mkF m 59 #[.val (.ref a), .val (.int xs), .val (.double xv), .second] [(.ref a)])) rfl rfl (Jvm.hb hby d8_59)
  have pre150 := fun (τ : State) kt => pre146 τ (by
    refine XS.aloadN X145.here hx rfl (Jvm.hb hby d8_58) rfl rfl ?_
    exact st147 τ kt)
  have f152 := (fw136.other W145 (Or.inl naA))
  obtain ⟨T151, X151, e151, st151⟩ := getF X147 hx hZ hown (host := "") (Or.inl (own_W15 hw)) Via.refl e147 f152 (g := (mkF m 63 #[.val (.ref a), .val (.int xs), .val (.double xv), .second] [(.ref a), (.ref B)])) rfl rfl (Jvm.hb hby d8_63)
  have pre153 := fun (τ : State) kt => pre150 τ (by
    refine XS.aloadN X147.here hx rfl (Jvm.hb hby d8_62) rfl rfl ?_
    exact st151 τ kt)
  have f154 := VV.other W136 (Ne.symm naB)
  have f155 := f154.other W145 (Ne.symm nAB)
  obtain ⟨cl156, Ar156, q156, S156, M156, H156, U156⟩ := id f155
  obtain ⟨T157, h157, X157, e157, W157, st157⟩ := own_stD X151 hx hZ e151 Ar156 (j := (2 : Int32)) (inb_of S156 ⟨by decide, by decide⟩) (g := (mkF m 67 #[.val (.ref a), .val (.int xs), .val (.double xv), .second] [(.double xv), (.int (2 : Int32)), (.ref B)])) rfl rfl (Jvm.hb hby d8_67)
  have V157 : Arv Z h157 B kB .double (3 : Int32) [(.double v0), (.double v1), (.double xv)] (.double (0 : UInt64)) := Arv.set Ar156 q156 S156 M156 H156 U156 rfl W157 2 rfl (Nat.le_of_ble_eq_true rfl)
  have N157 := Fr.snoc X157 N145 gB
  have K157 : Keep h0 h157 [a, A, B] := K145.wr W157 (Or.inl (by simp))
  have pre158 := fun (τ : State) kt => pre153 τ (by
    refine own_dloadN X151.here hx rfl (Jvm.hb hby d8_66) rfl ?_
    exact st157 τ kt)
  have f159 := (f139.other W145 (Or.inl naA))
  have f160 := (f159.other W157 (Or.inl naB))
  have f161 := (f149.other W157 (Or.inl naB))
  have f162 := (f152.other W157 (Or.inl naB))
  have f163 := (FT.other W136 (Or.inr (slot_ne (Or.inl (own_W18 hw)) (Or.inl (own_W16 hw)) (by decide) (t := .int) (t' := .int) (by decide) (by decide))))
  have f164 := (f163.other W145 (Or.inl naA))
  have f165 := (f164.other W157 (Or.inl naB))
  have f166 := V145.other W157 nAB
  obtain ⟨fs, hrL, hrun, hended, hW, hsame⟩ := X157.leave (v := none) (fun _ => rfl)
  refine ⟨_, _, cast (congrFun hPS _) (pre158 _ ?_), hrun, hended, _, _, rfl, ?_, ⟨_, rfl⟩, hW, hsame.mono (by decide) (by decide)⟩
  · show Steps p.tables e below (T157.setTop (mkF m 68 #[.val (.ref a), .val (.int xs), .val (.double xv), .second] [])) _
    exact X157.returnOut hx Bd.returns (Jvm.hb hby d8_68) hrL
  · show QC Z a A B kA kB (2 : Int32) (3 : Int32) [(.int s0), (.int s1), (.int xs)] [(.double v0), (.double v1), (.double xv)] h0 n0 _ T157.heap _
    rw [e157]
    exact ⟨rfl, N157, K157, f160, f161, f162, f165, f166, V157⟩
set_option maxRecDepth 65536 in
set_option maxHeartbeats 40000000 in
theorem rmCap_23_os (l : Launch) (Z : State) (a0 : Array Value) (hw : ∀ d ∈ tables_1, d.before a0 Z = true) (ws : List Jvm.Cond) (a : Addr) (xv : UInt64) (A B : Addr) (kA kB : ClassId) (s0 s1 s2 : Int32) (v0 v1 v2 : UInt64) (h0 : Heap) (n0 : Nat) (Z0 : n0 ≤ h0.size) (E7 : Exa Z h0 a own_CM) (FS : Fld Z h0 a own_CM "samples" "[I" (.ref A)) (FV : Fld Z h0 a own_CM "values" "[D" (.ref B)) (FH : Fld Z h0 a own_CM "head" "I" (.int (2 : Int32))) (FT : Fld Z h0 a own_CM "tail" "I" (.int (3 : Int32))) (VS : Arv Z h0 A kA .int (3 : Int32) [(.int s0), (.int s1), (.int s2)] (.int (0 : Int32))) (VV : Arv Z h0 B kB .double (3 : Int32) [(.double v0), (.double v1), (.double v2)] (.double (0 : UInt64))) (naA : a ≠ A) (naB : a ≠ B) (nAB : A ≠ B) (ga : n0 ≤ a) (gA : n0 ≤ A) (gB : n0 ≤ B) (pc1 : (0 : Int32) < cmpValue (FP.dcmp v2 xv) .l) :
    MetFree l (⟨"com/example/counterpath/counterpath/core/CappedMaximum", "cap", "(D)V"⟩ : MethodName) (head1 (Jvm.Cond.code (⟨"com/example/counterpath/counterpath/core/CappedMaximum", "cap", "(D)V"⟩ : MethodName) prog_3_method_3_code 3 none :: ws) ({ frames := 0, cells := 0, slots := 0, locals := 0 } : Room)) (fun α U => α = #[(.ref a), (.double xv)] ∧ Z.Warmed39 U.vm ∧ U.heap = h0) (fun _ _ _ _ _ => True) (fun _ U ω U' => ∃ ν Λ, ω = .returned ν ∧ QC Z a A B kA kB (2 : Int32) (3 : Int32) [(.int s0), (.int s1), (.int s2)] [(.double v0), (.double v1), (.double xv)] h0 n0 ν U'.heap Λ ∧ FrameEnd U ω U' Λ ({ frames := 0, cells := 0, slots := 0, locals := 0 } : Room).cells ({ frames := 0, cells := 0, slots := 0, locals := 0 } : Room).slots) := by
  refine MetFree.of_bodySF (plainFor_of_name own_pn_com_example_counterpath_counterpath_core_CappedMaximum) hisR ?_
  intro p e s m args below meth c s₁ Bd hml0 hP hK
  obtain ⟨rfl, hZ, hh⟩ := hP
  have hx := Bd.exec
  have hby := Bd.bytes
  have hml : c.maxLocals = 3 := hml0
  have hown : s.vm.findClass "com/example/counterpath/counterpath/core/CappedMaximum" = some m.cls := findClass_of_methodNamed Bd.named
  have hnm := (name_of_methodNamed Bd.named Bd.method).1
  have X0 : Stand p l e ({ frames := 0, cells := 0, slots := 0, locals := 0 } : Room) s m #[(.ref a), (.double xv)] below meth c s₁ [] 0 0 := Stand.of_body Bd
  have e0 : s₁.heap = h0 := by rw [← hh, Bd.state]; rfl
  have N0 := Fr.nil n0
  have KK0 : Keep h0 h0 [a, A, B] := Keep.refl h0 [a, A, B]
  obtain ⟨PS, hPS⟩ : ∃ P : State → Prop, P = fun τ => Steps p.tables e below (s₁.setTop (entryFrame m #[(.ref a), (.double xv)] 3)) τ := ⟨_, rfl⟩
  have pre0 : ∀ τ, Steps p.tables e below (s₁.setTop (mkF m 0 #[.val (.ref a), .val (.double xv), .second] [])) τ → PS τ := by rw [hPS]; exact fun τ κ => castTop (own_ef3 m a xv) κ
  obtain ⟨T172, X172, e172, st172⟩ := getF X0 hx hZ hown (host := "") (Or.inl (own_W17 hw)) Via.refl e0 FT (g := (mkF m 1 #[.val (.ref a), .val (.double xv), .second] [(.ref a)])) rfl rfl (Jvm.hb hby d3_1)
  have pre173 := fun (τ : State) kt => pre0 τ (by
    refine XS.aloadN X0.here hx rfl (Jvm.hb hby d3_0) rfl rfl ?_
    exact st172 τ kt)
  obtain ⟨T174, X174, e174, st174⟩ := getF X172 hx hZ hown (host := "") (Or.inl (own_W15 hw)) Via.refl e172 FH (g := (mkF m 5 #[.val (.ref a), .val (.double xv), .second] [(.ref a), (.int (3 : Int32))])) rfl rfl (Jvm.hb hby d3_5)
  have pre175 := fun (τ : State) kt => pre173 τ (by
    refine XS.aloadN X172.here hx rfl (Jvm.hb hby d3_4) rfl rfl ?_
    exact st174 τ kt)
  obtain ⟨T176, X176, e176, st176⟩ := getF X174 hx hZ hown (host := "") (Or.inl (own_W17 hw)) Via.refl e174 FT (g := (mkF m 43 #[.val (.ref a), .val (.double xv), .second] [(.ref a)])) rfl rfl (Jvm.hb hby d3_43)
  have pre177 := fun (τ : State) kt => pre175 τ (by
    refine XS.isub X174.here hx rfl (Jvm.hb hby d3_8) rfl ?_
    refine XS.iconst X174.here hx rfl (Jvm.hb hby d3_9) ?_
    refine XS.icmpYes X174.here hx rfl (pc0 := 10) (pc' := 42) rfl (Jvm.hb hby d3_10) rfl (tlt (by decide)).1 (by decide) (by decide) ?_
    refine XS.aloadN X174.here hx rfl (Jvm.hb hby d3_42) rfl rfl ?_
    exact st176 τ kt)
  obtain ⟨T178, X178, e178, st178⟩ := getF X176 hx hZ hown (host := "") (Or.inl (own_W15 hw)) Via.refl e176 FH (g := (mkF m 47 #[.val (.ref a), .val (.double xv), .second] [(.ref a), (.int (3 : Int32))])) rfl rfl (Jvm.hb hby d3_47)
  have pre179 := fun (τ : State) kt => pre177 τ (by
    refine XS.aloadN X176.here hx rfl (Jvm.hb hby d3_46) rfl rfl ?_
    exact st178 τ kt)
  obtain ⟨T180, X180, e180, st180⟩ := getF X178 hx hZ hown (host := "") (Or.inl (own_W13 hw)) Via.refl e178 FV (g := (mkF m 54 #[.val (.ref a), .val (.double xv), .second] [(.ref a)])) rfl rfl (Jvm.hb hby d3_54)
  have pre181 := fun (τ : State) kt => pre179 τ (by
    refine XS.icmpNo X178.here hx rfl (Jvm.hb hby d3_50) rfl (tlt (by decide)).2.2.2 ?_
    refine XS.aloadN X178.here hx rfl (Jvm.hb hby d3_53) rfl rfl ?_
    exact st180 τ kt)
  obtain ⟨T182, X182, e182, st182⟩ := getF X180 hx hZ hown (host := "") (Or.inl (own_W17 hw)) Via.refl e180 FT (g := (mkF m 58 #[.val (.ref a), .val (.double xv), .second] [(.ref a), (.ref B)])) rfl rfl (Jvm.hb hby d3_58)
  have pre183 := fun (τ : State) kt => pre181 τ (by
    refine XS.aloadN X180.here hx rfl (Jvm.hb hby d3_57) rfl rfl ?_
    exact st182 τ kt)
  obtain ⟨cl184, Ar184, q184, S184, M184, H184, U184⟩ := id VV
  have in184 : ¬ ((2 : Int32) < 0 ∨ cl184.slots.size ≤ ((2 : Int32)).toNatClampNeg) := inb_of S184 ⟨by decide, by decide⟩
  obtain ⟨T185, X185, e185, st185⟩ := getF X182 hx hZ hown (host := "") (Or.inl (own_W13 hw)) Via.refl e182 FV (g := (mkF m 70 #[.val (.ref a), .val (.double xv), .second] [(.ref a)])) rfl rfl (Jvm.hb hby d3_70)
  have pre186 := fun (τ : State) kt => pre183 τ (by
    refine XS.iconst X182.here hx rfl (Jvm.hb hby d3_61) ?_
    refine XS.isub X182.here hx rfl (Jvm.hb hby d3_62) rfl ?_
    refine X182.daload hx ((congrArg (fun (HH : Heap) => HH[B]?) (e182 : T182.heap = h0)).trans Ar184.1) (State.isArrayOf_alike hZ.alike Ar184.2.1) Ar184.2.2 in184 (H184.at in184 rfl) (g := (mkF m 63 #[.val (.ref a), .val (.double xv), .second] [(.int (2 : Int32)), (.ref B)])) rfl rfl (Jvm.hb hby d3_63) _ ?_
    refine own_dloadN X182.here hx rfl (Jvm.hb hby d3_64) rfl ?_
    refine own_dcmp X182.here hx rfl (Jvm.hb hby d3_65) rfl ?_
    refine XS.ifNo X182.here hx rfl (Jvm.hb hby d3_66) rfl ((if0 _ _).trans (tlt pc1).2.2.2) ?_
    refine XS.aloadN X182.here hx rfl (Jvm.hb hby d3_69) rfl rfl ?_
    exact st185 τ kt)
  obtain ⟨T187, X187, e187, st187⟩ := getF X185 hx hZ hown (host := "") (Or.inl (own_W17 hw)) Via.refl e185 FT (g := (mkF m 74 #[.val (.ref a), .val (.double xv), .second] [(.ref a), (.ref B)])) rfl rfl (Jvm.hb hby d3_74)
  have pre188 := fun (τ : State) kt => pre186 τ (by
    refine XS.aloadN X185.here hx rfl (Jvm.hb hby d3_73) rfl rfl ?_
    exact st187 τ kt)
  obtain ⟨cl189, Ar189, q189, S189, M189, H189, U189⟩ := id VV
  obtain ⟨T190, h190, X190, e190, W190, st190⟩ := own_stD X187 hx hZ e187 Ar189 (j := (2 : Int32)) (inb_of S189 ⟨by decide, by decide⟩) (g := (mkF m 80 #[.val (.ref a), .val (.double xv), .second] [(.double xv), (.int (2 : Int32)), (.ref B)])) rfl rfl (Jvm.hb hby d3_80)
  have V190 : Arv Z h190 B kB .double (3 : Int32) [(.double v0), (.double v1), (.double xv)] (.double (0 : UInt64)) := Arv.set Ar189 q189 S189 M189 H189 U189 rfl W190 2 rfl (Nat.le_of_ble_eq_true rfl)
  have N190 := Fr.snoc X190 N0 gB
  have K190 : Keep h0 h190 [a, A, B] := KK0.wr W190 (Or.inl (by simp))
  have pre191 := fun (τ : State) kt => pre188 τ (by
    refine XS.iconst X187.here hx rfl (Jvm.hb hby d3_77) ?_
    refine XS.isub X187.here hx rfl (Jvm.hb hby d3_78) rfl ?_
    refine own_dloadN X187.here hx rfl (Jvm.hb hby d3_79) rfl ?_
    exact st190 τ kt)
  have f192 := (FS.other W190 (Or.inl naB))
  have f193 := (FV.other W190 (Or.inl naB))
  have f194 := (FH.other W190 (Or.inl naB))
  have f195 := (FT.other W190 (Or.inl naB))
  have f196 := VS.other W190 nAB
  obtain ⟨fs, hrL, hrun, hended, hW, hsame⟩ := X190.leave (v := none) (fun _ => rfl)
  refine ⟨_, _, cast (congrFun hPS _) (pre191 _ ?_), hrun, hended, _, _, rfl, ?_, ⟨_, rfl⟩, hW, hsame.mono (by decide) (by decide)⟩
  · show Steps p.tables e below (T190.setTop (mkF m 81 #[.val (.ref a), .val (.double xv), .second] [])) _
    exact X190.returnOut hx Bd.returns (Jvm.hb hby d3_81) hrL
  · show QC Z a A B kA kB (2 : Int32) (3 : Int32) [(.int s0), (.int s1), (.int s2)] [(.double v0), (.double v1), (.double xv)] h0 n0 _ T190.heap _
    rw [e190]
    exact ⟨rfl, N190, K190, f192, f193, f194, f195, f196, V190⟩
set_option maxRecDepth 65536 in
set_option maxHeartbeats 40000000 in
theorem rmMax_23 (l : Launch) (Z : State) (a0 : Array Value) (hw : ∀ d ∈ tables_1, d.before a0 Z = true) (ws : List Jvm.Cond) (a : Addr) (A B : Addr) (kA kB : ClassId) (s0 s1 s2 : Int32) (v0 v1 v2 : UInt64) (h0 : Heap) (n0 : Nat) (Z0 : n0 ≤ h0.size) (E7 : Exa Z h0 a own_CM) (FS : Fld Z h0 a own_CM "samples" "[I" (.ref A)) (FV : Fld Z h0 a own_CM "values" "[D" (.ref B)) (FH : Fld Z h0 a own_CM "head" "I" (.int (2 : Int32))) (FT : Fld Z h0 a own_CM "tail" "I" (.int (3 : Int32))) (VS : Arv Z h0 A kA .int (3 : Int32) [(.int s0), (.int s1), (.int s2)] (.int (0 : Int32))) (VV : Arv Z h0 B kB .double (3 : Int32) [(.double v0), (.double v1), (.double v2)] (.double (0 : UInt64))) (naA : a ≠ A) (naB : a ≠ B) (nAB : A ≠ B) (ga : n0 ≤ a) (gA : n0 ≤ A) (gB : n0 ≤ B)  :
    MetFree l (⟨"com/example/counterpath/counterpath/core/CappedMaximum", "maximum", "()D"⟩ : MethodName) (head1 (Jvm.Cond.code (⟨"com/example/counterpath/counterpath/core/CappedMaximum", "maximum", "()D"⟩ : MethodName) prog_3_method_5_code 1 (some .double) :: ws) ({ frames := 0, cells := 0, slots := 0, locals := 0 } : Room)) (fun α U => α = #[(.ref a)] ∧ Z.Warmed39 U.vm ∧ U.heap = h0) (fun _ _ _ _ _ => True) (fun _ U ω U' => ∃ ν Λ, ω = .returned ν ∧ QD v2 h0 n0 ν U'.heap Λ ∧ FrameEnd U ω U' Λ ({ frames := 0, cells := 0, slots := 0, locals := 0 } : Room).cells ({ frames := 0, cells := 0, slots := 0, locals := 0 } : Room).slots) := by
  refine MetFree.of_bodySF (plainFor_of_name own_pn_com_example_counterpath_counterpath_core_CappedMaximum) hisR ?_
  intro p e s m args below meth c s₁ Bd hml0 hP hK
  obtain ⟨rfl, hZ, hh⟩ := hP
  have hx := Bd.exec
  have hby := Bd.bytes
  have hml : c.maxLocals = 1 := hml0
  have hown : s.vm.findClass "com/example/counterpath/counterpath/core/CappedMaximum" = some m.cls := findClass_of_methodNamed Bd.named
  have hnm := (name_of_methodNamed Bd.named Bd.method).1
  have X0 : Stand p l e ({ frames := 0, cells := 0, slots := 0, locals := 0 } : Room) s m #[(.ref a)] below meth c s₁ [] 0 0 := Stand.of_body Bd
  have e0 : s₁.heap = h0 := by rw [← hh, Bd.state]; rfl
  have N0 := Fr.nil n0
  have KK0 : Keep h0 h0 [] := Keep.refl h0 []
  obtain ⟨PS, hPS⟩ : ∃ P : State → Prop, P = fun τ => Steps p.tables e below (s₁.setTop (entryFrame m #[(.ref a)] 1)) τ := ⟨_, rfl⟩
  have pre0 : ∀ τ, Steps p.tables e below (s₁.setTop (mkF m 0 #[.val (.ref a)] [])) τ → PS τ := by rw [hPS]; exact fun τ κ => castTop (own_ef4 m a) κ
  obtain ⟨T200, X200, e200, st200⟩ := getF X0 hx hZ hown (host := "") (Or.inl (own_W17 hw)) Via.refl e0 FT (g := (mkF m 1 #[.val (.ref a)] [(.ref a)])) rfl rfl (Jvm.hb hby d4_1)
  have pre201 := fun (τ : State) kt => pre0 τ (by
    refine XS.aloadN X0.here hx rfl (Jvm.hb hby d4_0) rfl rfl ?_
    exact st200 τ kt)
  obtain ⟨T202, X202, e202, st202⟩ := getF X200 hx hZ hown (host := "") (Or.inl (own_W15 hw)) Via.refl e200 FH (g := (mkF m 5 #[.val (.ref a)] [(.ref a), (.int (3 : Int32))])) rfl rfl (Jvm.hb hby d4_5)
  have pre203 := fun (τ : State) kt => pre201 τ (by
    refine XS.aloadN X200.here hx rfl (Jvm.hb hby d4_4) rfl rfl ?_
    exact st202 τ kt)
  obtain ⟨T204, X204, e204, st204⟩ := getF X202 hx hZ hown (host := "") (Or.inl (own_W13 hw)) Via.refl e202 FV (g := (mkF m 12 #[.val (.ref a)] [(.ref a)])) rfl rfl (Jvm.hb hby d4_12)
  have pre205 := fun (τ : State) kt => pre203 τ (by
    refine XS.icmpNo X202.here hx rfl (Jvm.hb hby d4_8) rfl (tlt (by decide)).2.2.2 ?_
    refine XS.aloadN X202.here hx rfl (Jvm.hb hby d4_11) rfl rfl ?_
    exact st204 τ kt)
  obtain ⟨T206, X206, e206, st206⟩ := getF X204 hx hZ hown (host := "") (Or.inl (own_W17 hw)) Via.refl e204 FT (g := (mkF m 16 #[.val (.ref a)] [(.ref a), (.ref B)])) rfl rfl (Jvm.hb hby d4_16)
  have pre207 := fun (τ : State) kt => pre205 τ (by
    refine XS.aloadN X204.here hx rfl (Jvm.hb hby d4_15) rfl rfl ?_
    exact st206 τ kt)
  obtain ⟨cl208, Ar208, q208, S208, M208, H208, U208⟩ := id VV
  have in208 : ¬ ((2 : Int32) < 0 ∨ cl208.slots.size ≤ ((2 : Int32)).toNatClampNeg) := inb_of S208 ⟨by decide, by decide⟩
  have pre209 := fun (τ : State) kt => pre207 τ (by
    refine XS.iconst X206.here hx rfl (Jvm.hb hby d4_19) ?_
    refine XS.isub X206.here hx rfl (Jvm.hb hby d4_20) rfl ?_
    refine X206.daload hx ((congrArg (fun (HH : Heap) => HH[B]?) (e206 : T206.heap = h0)).trans Ar208.1) (State.isArrayOf_alike hZ.alike Ar208.2.1) Ar208.2.2 in208 (H208.at in208 rfl) (g := (mkF m 21 #[.val (.ref a)] [(.int (2 : Int32)), (.ref B)])) rfl rfl (Jvm.hb hby d4_21) _ ?_
    refine XS.goto X206.here hx rfl (pc0 := 22) (pc' := 28) rfl (Jvm.hb hby d4_22) (by decide) (by decide) ?_
    exact kt)
  obtain ⟨fs, hrL, hrun, hended, hW, hsame⟩ := X206.leave (v := some (.double v2)) (fun h => by rw [Bd.returns] at h; cases h)
  refine ⟨_, _, cast (congrFun hPS _) (pre209 _ ?_), hrun, hended, _, _, rfl, ?_, ⟨_, rfl⟩, hW, hsame.mono (by decide) (by decide)⟩
  · show Steps p.tables e below (T206.setTop (mkF m 28 #[.val (.ref a)] [(.double v2)])) _
    exact own_retD X206 hx Bd.returns (Jvm.hb hby d4_28) hrL
  · show QD v2 h0 n0 _ T206.heap _
    rw [e206]
    exact ⟨rfl, N0, rfl⟩
set_option maxRecDepth 65536 in
set_option maxHeartbeats 40000000 in
theorem rmRem_23_x (l : Launch) (Z : State) (a0 : Array Value) (hw : ∀ d ∈ tables_1, d.before a0 Z = true) (ws : List Jvm.Cond) (a : Addr) (xs : Int32) (A B : Addr) (kA kB : ClassId) (s0 s1 s2 : Int32) (v0 v1 v2 : UInt64) (h0 : Heap) (n0 : Nat) (Z0 : n0 ≤ h0.size) (E7 : Exa Z h0 a own_CM) (FS : Fld Z h0 a own_CM "samples" "[I" (.ref A)) (FV : Fld Z h0 a own_CM "values" "[D" (.ref B)) (FH : Fld Z h0 a own_CM "head" "I" (.int (2 : Int32))) (FT : Fld Z h0 a own_CM "tail" "I" (.int (3 : Int32))) (VS : Arv Z h0 A kA .int (3 : Int32) [(.int s0), (.int s1), (.int s2)] (.int (0 : Int32))) (VV : Arv Z h0 B kB .double (3 : Int32) [(.double v0), (.double v1), (.double v2)] (.double (0 : UInt64))) (naA : a ≠ A) (naB : a ≠ B) (nAB : A ≠ B) (ga : n0 ≤ a) (gA : n0 ≤ A) (gB : n0 ≤ B) (pc0 : ¬ (xs < s2)) :
    MetFree l (⟨"com/example/counterpath/counterpath/core/CappedMaximum", "removeAfter", "(I)V"⟩ : MethodName) (head1 (Jvm.Cond.code (⟨"com/example/counterpath/counterpath/core/CappedMaximum", "removeAfter", "(I)V"⟩ : MethodName) prog_3_method_4_code 2 none :: ws) ({ frames := 0, cells := 0, slots := 0, locals := 0 } : Room)) (fun α U => α = #[(.ref a), (.int xs)] ∧ Z.Warmed39 U.vm ∧ U.heap = h0) (fun _ _ _ _ _ => True) (fun _ U ω U' => ∃ ν Λ, ω = .returned ν ∧ QC Z a A B kA kB (2 : Int32) (3 : Int32) [(.int s0), (.int s1), (.int s2)] [(.double v0), (.double v1), (.double v2)] h0 n0 ν U'.heap Λ ∧ FrameEnd U ω U' Λ ({ frames := 0, cells := 0, slots := 0, locals := 0 } : Room).cells ({ frames := 0, cells := 0, slots := 0, locals := 0 } : Room).slots) := by
  refine MetFree.of_bodySF (plainFor_of_name own_pn_com_example_counterpath_counterpath_core_CappedMaximum) hisR ?_
  intro p e s m args below meth c s₁ Bd hml0 hP hK
  obtain ⟨rfl, hZ, hh⟩ := hP
  have hx := Bd.exec
  have hby := Bd.bytes
  have hml : c.maxLocals = 2 := hml0
  have hown : s.vm.findClass "com/example/counterpath/counterpath/core/CappedMaximum" = some m.cls := findClass_of_methodNamed Bd.named
  have hnm := (name_of_methodNamed Bd.named Bd.method).1
  have X0 : Stand p l e ({ frames := 0, cells := 0, slots := 0, locals := 0 } : Room) s m #[(.ref a), (.int xs)] below meth c s₁ [] 0 0 := Stand.of_body Bd
  have e0 : s₁.heap = h0 := by rw [← hh, Bd.state]; rfl
  have N0 := Fr.nil n0
  have KK0 : Keep h0 h0 [a, A, B] := Keep.refl h0 [a, A, B]
  obtain ⟨PS, hPS⟩ : ∃ P : State → Prop, P = fun τ => Steps p.tables e below (s₁.setTop (entryFrame m #[(.ref a), (.int xs)] 2)) τ := ⟨_, rfl⟩
  have pre0 : ∀ τ, Steps p.tables e below (s₁.setTop (mkF m 0 #[.val (.ref a), .val (.int xs)] [])) τ → PS τ := by rw [hPS]; exact fun τ κ => castTop (own_ef7 m a xs) κ
  obtain ⟨T219, X219, e219, st219⟩ := getF X0 hx hZ hown (host := "") (Or.inl (own_W17 hw)) Via.refl e0 FT (g := (mkF m 1 #[.val (.ref a), .val (.int xs)] [(.ref a)])) rfl rfl (Jvm.hb hby d7_1)
  have pre220 := fun (τ : State) kt => pre0 τ (by
    refine XS.aloadN X0.here hx rfl (Jvm.hb hby d7_0) rfl rfl ?_
    exact st219 τ kt)
  obtain ⟨T221, X221, e221, st221⟩ := getF X219 hx hZ hown (host := "") (Or.inl (own_W15 hw)) Via.refl e219 FH (g := (mkF m 5 #[.val (.ref a), .val (.int xs)] [(.ref a), (.int (3 : Int32))])) rfl rfl (Jvm.hb hby d7_5)
  have pre222 := fun (τ : State) kt => pre220 τ (by
    refine XS.aloadN X219.here hx rfl (Jvm.hb hby d7_4) rfl rfl ?_
    exact st221 τ kt)
  obtain ⟨T223, X223, e223, st223⟩ := getF X221 hx hZ hown (host := "") (Or.inl (own_W10 hw)) Via.refl e221 FS (g := (mkF m 12 #[.val (.ref a), .val (.int xs)] [(.ref a)])) rfl rfl (Jvm.hb hby d7_12)
  have pre224 := fun (τ : State) kt => pre222 τ (by
    refine XS.icmpNo X221.here hx rfl (Jvm.hb hby d7_8) rfl (tlt (by decide)).2.2.2 ?_
    refine XS.aloadN X221.here hx rfl (Jvm.hb hby d7_11) rfl rfl ?_
    exact st223 τ kt)
  obtain ⟨T225, X225, e225, st225⟩ := getF X223 hx hZ hown (host := "") (Or.inl (own_W17 hw)) Via.refl e223 FT (g := (mkF m 16 #[.val (.ref a), .val (.int xs)] [(.ref a), (.ref A)])) rfl rfl (Jvm.hb hby d7_16)
  have pre226 := fun (τ : State) kt => pre224 τ (by
    refine XS.aloadN X223.here hx rfl (Jvm.hb hby d7_15) rfl rfl ?_
    exact st225 τ kt)
  obtain ⟨cl227, Ar227, q227, S227, M227, H227, U227⟩ := id VS
  have in227 : ¬ ((2 : Int32) < 0 ∨ cl227.slots.size ≤ ((2 : Int32)).toNatClampNeg) := inb_of S227 ⟨by decide, by decide⟩
  have pre228 := fun (τ : State) kt => pre226 τ (by
    refine XS.iconst X225.here hx rfl (Jvm.hb hby d7_19) ?_
    refine XS.isub X225.here hx rfl (Jvm.hb hby d7_20) rfl ?_
    refine X225.iaload hx ((congrArg (fun (HH : Heap) => HH[A]?) (e225 : T225.heap = h0)).trans Ar227.1) (State.isArrayOf_alike hZ.alike Ar227.2.1) Ar227.2.2 in227 (H227.at in227 rfl) (g := (mkF m 21 #[.val (.ref a), .val (.int xs)] [(.int (2 : Int32)), (.ref A)])) rfl rfl (Jvm.hb hby d7_21) _ ?_
    refine XS.iloadN X225.here hx rfl (Jvm.hb hby d7_22) rfl ?_
    refine XS.icmpYes X225.here hx rfl (pc0 := 23) (pc' := 39) rfl (Jvm.hb hby d7_23) rfl (flt pc0).2.2.2 (by decide) (by decide) ?_
    exact kt)
  obtain ⟨fs, hrL, hrun, hended, hW, hsame⟩ := X225.leave (v := none) (fun _ => rfl)
  refine ⟨_, _, cast (congrFun hPS _) (pre228 _ ?_), hrun, hended, _, _, rfl, ?_, ⟨_, rfl⟩, hW, hsame.mono (by decide) (by decide)⟩
  · show Steps p.tables e below (T225.setTop (mkF m 39 #[.val (.ref a), .val (.int xs)] [])) _
    exact X225.returnOut hx Bd.returns (Jvm.hb hby d7_39) hrL
  · show QC Z a A B kA kB (2 : Int32) (3 : Int32) [(.int s0), (.int s1), (.int s2)] [(.double v0), (.double v1), (.double v2)] h0 n0 _ T225.heap _
    rw [e225]
    exact ⟨rfl, N0, KK0, FS, FV, FH, FT, VS, VV⟩
set_option maxRecDepth 65536 in
set_option maxHeartbeats 40000000 in
theorem rmCap_23_ok (l : Launch) (Z : State) (a0 : Array Value) (hw : ∀ d ∈ tables_1, d.before a0 Z = true) (ws : List Jvm.Cond) (a : Addr) (xv : UInt64) (A B : Addr) (kA kB : ClassId) (s0 s1 s2 : Int32) (v0 v1 v2 : UInt64) (h0 : Heap) (n0 : Nat) (Z0 : n0 ≤ h0.size) (E7 : Exa Z h0 a own_CM) (FS : Fld Z h0 a own_CM "samples" "[I" (.ref A)) (FV : Fld Z h0 a own_CM "values" "[D" (.ref B)) (FH : Fld Z h0 a own_CM "head" "I" (.int (2 : Int32))) (FT : Fld Z h0 a own_CM "tail" "I" (.int (3 : Int32))) (VS : Arv Z h0 A kA .int (3 : Int32) [(.int s0), (.int s1), (.int s2)] (.int (0 : Int32))) (VV : Arv Z h0 B kB .double (3 : Int32) [(.double v0), (.double v1), (.double v2)] (.double (0 : UInt64))) (naA : a ≠ A) (naB : a ≠ B) (nAB : A ≠ B) (ga : n0 ≤ a) (gA : n0 ≤ A) (gB : n0 ≤ B) (pc1 : ¬ ((0 : Int32) < cmpValue (FP.dcmp v2 xv) .l)) :
    MetFree l (⟨"com/example/counterpath/counterpath/core/CappedMaximum", "cap", "(D)V"⟩ : MethodName) (head1 (Jvm.Cond.code (⟨"com/example/counterpath/counterpath/core/CappedMaximum", "cap", "(D)V"⟩ : MethodName) prog_3_method_3_code 3 none :: ws) ({ frames := 0, cells := 0, slots := 0, locals := 0 } : Room)) (fun α U => α = #[(.ref a), (.double xv)] ∧ Z.Warmed39 U.vm ∧ U.heap = h0) (fun _ _ _ _ _ => True) (fun _ U ω U' => ∃ ν Λ, ω = .returned ν ∧ QC Z a A B kA kB (2 : Int32) (3 : Int32) [(.int s0), (.int s1), (.int s2)] [(.double v0), (.double v1), (.double v2)] h0 n0 ν U'.heap Λ ∧ FrameEnd U ω U' Λ ({ frames := 0, cells := 0, slots := 0, locals := 0 } : Room).cells ({ frames := 0, cells := 0, slots := 0, locals := 0 } : Room).slots) := by
  refine MetFree.of_bodySF (plainFor_of_name own_pn_com_example_counterpath_counterpath_core_CappedMaximum) hisR ?_
  intro p e s m args below meth c s₁ Bd hml0 hP hK
  obtain ⟨rfl, hZ, hh⟩ := hP
  have hx := Bd.exec
  have hby := Bd.bytes
  have hml : c.maxLocals = 3 := hml0
  have hown : s.vm.findClass "com/example/counterpath/counterpath/core/CappedMaximum" = some m.cls := findClass_of_methodNamed Bd.named
  have hnm := (name_of_methodNamed Bd.named Bd.method).1
  have X0 : Stand p l e ({ frames := 0, cells := 0, slots := 0, locals := 0 } : Room) s m #[(.ref a), (.double xv)] below meth c s₁ [] 0 0 := Stand.of_body Bd
  have e0 : s₁.heap = h0 := by rw [← hh, Bd.state]; rfl
  have N0 := Fr.nil n0
  have KK0 : Keep h0 h0 [a, A, B] := Keep.refl h0 [a, A, B]
  obtain ⟨PS, hPS⟩ : ∃ P : State → Prop, P = fun τ => Steps p.tables e below (s₁.setTop (entryFrame m #[(.ref a), (.double xv)] 3)) τ := ⟨_, rfl⟩
  have pre0 : ∀ τ, Steps p.tables e below (s₁.setTop (mkF m 0 #[.val (.ref a), .val (.double xv), .second] [])) τ → PS τ := by rw [hPS]; exact fun τ κ => castTop (own_ef3 m a xv) κ
  obtain ⟨T246, X246, e246, st246⟩ := getF X0 hx hZ hown (host := "") (Or.inl (own_W17 hw)) Via.refl e0 FT (g := (mkF m 1 #[.val (.ref a), .val (.double xv), .second] [(.ref a)])) rfl rfl (Jvm.hb hby d3_1)
  have pre247 := fun (τ : State) kt => pre0 τ (by
    refine XS.aloadN X0.here hx rfl (Jvm.hb hby d3_0) rfl rfl ?_
    exact st246 τ kt)
  obtain ⟨T248, X248, e248, st248⟩ := getF X246 hx hZ hown (host := "") (Or.inl (own_W15 hw)) Via.refl e246 FH (g := (mkF m 5 #[.val (.ref a), .val (.double xv), .second] [(.ref a), (.int (3 : Int32))])) rfl rfl (Jvm.hb hby d3_5)
  have pre249 := fun (τ : State) kt => pre247 τ (by
    refine XS.aloadN X246.here hx rfl (Jvm.hb hby d3_4) rfl rfl ?_
    exact st248 τ kt)
  obtain ⟨T250, X250, e250, st250⟩ := getF X248 hx hZ hown (host := "") (Or.inl (own_W17 hw)) Via.refl e248 FT (g := (mkF m 43 #[.val (.ref a), .val (.double xv), .second] [(.ref a)])) rfl rfl (Jvm.hb hby d3_43)
  have pre251 := fun (τ : State) kt => pre249 τ (by
    refine XS.isub X248.here hx rfl (Jvm.hb hby d3_8) rfl ?_
    refine XS.iconst X248.here hx rfl (Jvm.hb hby d3_9) ?_
    refine XS.icmpYes X248.here hx rfl (pc0 := 10) (pc' := 42) rfl (Jvm.hb hby d3_10) rfl (tlt (by decide)).1 (by decide) (by decide) ?_
    refine XS.aloadN X248.here hx rfl (Jvm.hb hby d3_42) rfl rfl ?_
    exact st250 τ kt)
  obtain ⟨T252, X252, e252, st252⟩ := getF X250 hx hZ hown (host := "") (Or.inl (own_W15 hw)) Via.refl e250 FH (g := (mkF m 47 #[.val (.ref a), .val (.double xv), .second] [(.ref a), (.int (3 : Int32))])) rfl rfl (Jvm.hb hby d3_47)
  have pre253 := fun (τ : State) kt => pre251 τ (by
    refine XS.aloadN X250.here hx rfl (Jvm.hb hby d3_46) rfl rfl ?_
    exact st252 τ kt)
  obtain ⟨T254, X254, e254, st254⟩ := getF X252 hx hZ hown (host := "") (Or.inl (own_W13 hw)) Via.refl e252 FV (g := (mkF m 54 #[.val (.ref a), .val (.double xv), .second] [(.ref a)])) rfl rfl (Jvm.hb hby d3_54)
  have pre255 := fun (τ : State) kt => pre253 τ (by
    refine XS.icmpNo X252.here hx rfl (Jvm.hb hby d3_50) rfl (tlt (by decide)).2.2.2 ?_
    refine XS.aloadN X252.here hx rfl (Jvm.hb hby d3_53) rfl rfl ?_
    exact st254 τ kt)
  obtain ⟨T256, X256, e256, st256⟩ := getF X254 hx hZ hown (host := "") (Or.inl (own_W17 hw)) Via.refl e254 FT (g := (mkF m 58 #[.val (.ref a), .val (.double xv), .second] [(.ref a), (.ref B)])) rfl rfl (Jvm.hb hby d3_58)
  have pre257 := fun (τ : State) kt => pre255 τ (by
    refine XS.aloadN X254.here hx rfl (Jvm.hb hby d3_57) rfl rfl ?_
    exact st256 τ kt)
  obtain ⟨cl258, Ar258, q258, S258, M258, H258, U258⟩ := id VV
  have in258 : ¬ ((2 : Int32) < 0 ∨ cl258.slots.size ≤ ((2 : Int32)).toNatClampNeg) := inb_of S258 ⟨by decide, by decide⟩
  have pre259 := fun (τ : State) kt => pre257 τ (by
    refine XS.iconst X256.here hx rfl (Jvm.hb hby d3_61) ?_
    refine XS.isub X256.here hx rfl (Jvm.hb hby d3_62) rfl ?_
    refine X256.daload hx ((congrArg (fun (HH : Heap) => HH[B]?) (e256 : T256.heap = h0)).trans Ar258.1) (State.isArrayOf_alike hZ.alike Ar258.2.1) Ar258.2.2 in258 (H258.at in258 rfl) (g := (mkF m 63 #[.val (.ref a), .val (.double xv), .second] [(.int (2 : Int32)), (.ref B)])) rfl rfl (Jvm.hb hby d3_63) _ ?_
    refine own_dloadN X256.here hx rfl (Jvm.hb hby d3_64) rfl ?_
    refine own_dcmp X256.here hx rfl (Jvm.hb hby d3_65) rfl ?_
    refine XS.ifYes X256.here hx rfl (pc0 := 66) (pc' := 81) rfl (Jvm.hb hby d3_66) rfl ((if0 _ _).trans (flt pc1).2.2.2) (by decide) (by decide) ?_
    exact kt)
  obtain ⟨fs, hrL, hrun, hended, hW, hsame⟩ := X256.leave (v := none) (fun _ => rfl)
  refine ⟨_, _, cast (congrFun hPS _) (pre259 _ ?_), hrun, hended, _, _, rfl, ?_, ⟨_, rfl⟩, hW, hsame.mono (by decide) (by decide)⟩
  · show Steps p.tables e below (T256.setTop (mkF m 81 #[.val (.ref a), .val (.double xv), .second] [])) _
    exact X256.returnOut hx Bd.returns (Jvm.hb hby d3_81) hrL
  · show QC Z a A B kA kB (2 : Int32) (3 : Int32) [(.int s0), (.int s1), (.int s2)] [(.double v0), (.double v1), (.double v2)] h0 n0 _ T256.heap _
    rw [e256]
    exact ⟨rfl, N0, KK0, FS, FV, FH, FT, VS, VV⟩
set_option maxRecDepth 65536 in
set_option maxHeartbeats 40000000 in
theorem rmAdd_23_x (l : Launch) (Z : State) (a0 : Array Value) (hw : ∀ d ∈ tables_1, d.before a0 Z = true) (ws : List Jvm.Cond) (a : Addr) (xs : Int32) (xv : UInt64) (A B : Addr) (kA kB : ClassId) (s0 s1 s2 : Int32) (v0 v1 v2 : UInt64) (h0 : Heap) (n0 : Nat) (Z0 : n0 ≤ h0.size) (E7 : Exa Z h0 a own_CM) (FS : Fld Z h0 a own_CM "samples" "[I" (.ref A)) (FV : Fld Z h0 a own_CM "values" "[D" (.ref B)) (FH : Fld Z h0 a own_CM "head" "I" (.int (2 : Int32))) (FT : Fld Z h0 a own_CM "tail" "I" (.int (3 : Int32))) (VS : Arv Z h0 A kA .int (3 : Int32) [(.int s0), (.int s1), (.int s2)] (.int (0 : Int32))) (VV : Arv Z h0 B kB .double (3 : Int32) [(.double v0), (.double v1), (.double v2)] (.double (0 : UInt64))) (naA : a ≠ A) (naB : a ≠ B) (nAB : A ≠ B) (ga : n0 ≤ a) (gA : n0 ≤ A) (gB : n0 ≤ B) (pc0 : (0 : Int32) < cmpValue (FP.dcmp v2 xv) .g) :
    MetFree l (⟨"com/example/counterpath/counterpath/core/CappedMaximum", "addFirst", "(ID)V"⟩ : MethodName) (head1 (Jvm.Cond.code (⟨"com/example/counterpath/counterpath/core/CappedMaximum", "addFirst", "(ID)V"⟩ : MethodName) prog_3_method_2_code 4 none :: ws) ({ frames := 0, cells := 0, slots := 0, locals := 0 } : Room)) (fun α U => α = #[(.ref a), (.int xs), (.double xv)] ∧ Z.Warmed39 U.vm ∧ U.heap = h0) (fun _ _ _ _ _ => True) (fun _ U ω U' => ∃ ν Λ, ω = .returned ν ∧ QC Z a A B kA kB (1 : Int32) (3 : Int32) [(.int s0), (.int xs), (.int s2)] [(.double v0), (.double xv), (.double v2)] h0 n0 ν U'.heap Λ ∧ FrameEnd U ω U' Λ ({ frames := 0, cells := 0, slots := 0, locals := 0 } : Room).cells ({ frames := 0, cells := 0, slots := 0, locals := 0 } : Room).slots) := by
  refine MetFree.of_bodySF (plainFor_of_name own_pn_com_example_counterpath_counterpath_core_CappedMaximum) hisR ?_
  intro p e s m args below meth c s₁ Bd hml0 hP hK
  obtain ⟨rfl, hZ, hh⟩ := hP
  have hx := Bd.exec
  have hby := Bd.bytes
  have hml : c.maxLocals = 4 := hml0
  have hown : s.vm.findClass "com/example/counterpath/counterpath/core/CappedMaximum" = some m.cls := findClass_of_methodNamed Bd.named
  have hnm := (name_of_methodNamed Bd.named Bd.method).1
  have X0 : Stand p l e ({ frames := 0, cells := 0, slots := 0, locals := 0 } : Room) s m #[(.ref a), (.int xs), (.double xv)] below meth c s₁ [] 0 0 := Stand.of_body Bd
  have e0 : s₁.heap = h0 := by rw [← hh, Bd.state]; rfl
  have N0 := Fr.nil n0
  have KK0 : Keep h0 h0 [a, A, B] := Keep.refl h0 [a, A, B]
  obtain ⟨PS, hPS⟩ : ∃ P : State → Prop, P = fun τ => Steps p.tables e below (s₁.setTop (entryFrame m #[(.ref a), (.int xs), (.double xv)] 4)) τ := ⟨_, rfl⟩
  have pre0 : ∀ τ, Steps p.tables e below (s₁.setTop (mkF m 0 #[.val (.ref a), .val (.int xs), .val (.double xv), .second] [])) τ → PS τ := by rw [hPS]; exact fun τ κ => castTop (own_ef8 m a xs xv) κ
  obtain ⟨T305, X305, e305, st305⟩ := getF X0 hx hZ hown (host := "") (Or.inl (own_W15 hw)) Via.refl e0 FH (g := (mkF m 1 #[.val (.ref a), .val (.int xs), .val (.double xv), .second] [(.ref a)])) rfl rfl (Jvm.hb hby d8_1)
  have pre306 := fun (τ : State) kt => pre0 τ (by
    refine XS.aloadN X0.here hx rfl (Jvm.hb hby d8_0) rfl rfl ?_
    exact st305 τ kt)
  obtain ⟨T307, X307, e307, st307⟩ := getF X305 hx hZ hown (host := "") (Or.inl (own_W17 hw)) Via.refl e305 FT (g := (mkF m 5 #[.val (.ref a), .val (.int xs), .val (.double xv), .second] [(.ref a), (.int (2 : Int32))])) rfl rfl (Jvm.hb hby d8_5)
  have pre308 := fun (τ : State) kt => pre306 τ (by
    refine XS.aloadN X305.here hx rfl (Jvm.hb hby d8_4) rfl rfl ?_
    exact st307 τ kt)
  obtain ⟨T309, X309, e309, st309⟩ := getF X307 hx hZ hown (host := "") (Or.inl (own_W13 hw)) Via.refl e307 FV (g := (mkF m 12 #[.val (.ref a), .val (.int xs), .val (.double xv), .second] [(.ref a)])) rfl rfl (Jvm.hb hby d8_12)
  have pre310 := fun (τ : State) kt => pre308 τ (by
    refine XS.icmpNo X307.here hx rfl (Jvm.hb hby d8_8) rfl (tlt (by decide)).2.1 ?_
    refine XS.aloadN X307.here hx rfl (Jvm.hb hby d8_11) rfl rfl ?_
    exact st309 τ kt)
  obtain ⟨T311, X311, e311, st311⟩ := getF X309 hx hZ hown (host := "") (Or.inl (own_W15 hw)) Via.refl e309 FH (g := (mkF m 16 #[.val (.ref a), .val (.int xs), .val (.double xv), .second] [(.ref a), (.ref B)])) rfl rfl (Jvm.hb hby d8_16)
  have pre312 := fun (τ : State) kt => pre310 τ (by
    refine XS.aloadN X309.here hx rfl (Jvm.hb hby d8_15) rfl rfl ?_
    exact st311 τ kt)
  obtain ⟨cl313, Ar313, q313, S313, M313, H313, U313⟩ := id VV
  have in313 : ¬ ((2 : Int32) < 0 ∨ cl313.slots.size ≤ ((2 : Int32)).toNatClampNeg) := inb_of S313 ⟨by decide, by decide⟩
  obtain ⟨T314, X314, e314, st314⟩ := getF X311 hx hZ hown (host := "") (Or.inl (own_W15 hw)) Via.refl e311 FH (g := (mkF m 40 #[.val (.ref a), .val (.int xs), .val (.double xv), .second] [(.ref a), (.ref a)])) rfl rfl (Jvm.hb hby d8_40)
  have pre315 := fun (τ : State) kt => pre312 τ (by
    refine X311.daload hx ((congrArg (fun (HH : Heap) => HH[B]?) (e311 : T311.heap = h0)).trans Ar313.1) (State.isArrayOf_alike hZ.alike Ar313.2.1) Ar313.2.2 in313 (H313.at in313 rfl) (g := (mkF m 19 #[.val (.ref a), .val (.int xs), .val (.double xv), .second] [(.int (2 : Int32)), (.ref B)])) rfl rfl (Jvm.hb hby d8_19) _ ?_
    refine own_dloadN X311.here hx rfl (Jvm.hb hby d8_20) rfl ?_
    refine own_dcmp X311.here hx rfl (Jvm.hb hby d8_21) rfl ?_
    refine XS.ifYes X311.here hx rfl (pc0 := 22) (pc' := 38) rfl (Jvm.hb hby d8_22) rfl ((if0 _ _).trans (tlt pc0).2.2.1) (by decide) (by decide) ?_
    refine XS.aloadN X311.here hx rfl (Jvm.hb hby d8_38) rfl rfl ?_
    refine XS.dup X311.here hx rfl (Jvm.hb hby d8_39) rfl rfl ?_
    exact st314 τ kt)
  obtain ⟨T316, h316, X316, e316, W316, st316⟩ := putF X314 hx hZ hown (host := "") (Or.inl (own_W15 hw)) Via.refl e314 FH E7 (Or.inl (own_W16 hw)) (own_W1 hw) (ty := .int) (by decide) rfl rfl (g := (mkF m 45 #[.val (.ref a), .val (.int xs), .val (.double xv), .second] [(.int (1 : Int32)), (.ref a)])) rfl rfl (Jvm.hb hby d8_45)
  have fw316 := Fld.same W316 FH
  have N316 := Fr.snoc X316 N0 ga
  have K316 : Keep h0 h316 [a, A, B] := KK0.wr W316 (Or.inl (by simp))
  have pre317 := fun (τ : State) kt => pre315 τ (by
    refine XS.iconst X314.here hx rfl (Jvm.hb hby d8_43) ?_
    refine XS.isub X314.here hx rfl (Jvm.hb hby d8_44) rfl ?_
    exact st316 τ kt)
  have f319 := (FS.other W316 (Or.inr (slot_ne (Or.inr (own_W11 hw)) (Or.inl (own_W16 hw)) (by decide) (t := (.array .int)) (t' := .int) (by decide) (by decide))))
  obtain ⟨T318, X318, e318, st318⟩ := getF X316 hx hZ hown (host := "") (Or.inl (own_W10 hw)) Via.refl e316 f319 (g := (mkF m 49 #[.val (.ref a), .val (.int xs), .val (.double xv), .second] [(.ref a)])) rfl rfl (Jvm.hb hby d8_49)
  have pre320 := fun (τ : State) kt => pre317 τ (by
    refine XS.aloadN X316.here hx rfl (Jvm.hb hby d8_48) rfl rfl ?_
    exact st318 τ kt)
  obtain ⟨T321, X321, e321, st321⟩ := getF X318 hx hZ hown (host := "") (Or.inl (own_W15 hw)) Via.refl e318 fw316 (g := (mkF m 53 #[.val (.ref a), .val (.int xs), .val (.double xv), .second] [(.ref a), (.ref A)])) rfl rfl (Jvm.hb hby d8_53)
  have pre322 := fun (τ : State) kt => pre320 τ (by
    refine XS.aloadN X318.here hx rfl (Jvm.hb hby d8_52) rfl rfl ?_
    exact st321 τ kt)
  have f323 := VS.other W316 (Ne.symm naA)
  obtain ⟨cl324, Ar324, q324, S324, M324, H324, U324⟩ := id f323
  obtain ⟨T325, h325, X325, e325, W325, st325⟩ := stI X321 hx hZ e321 Ar324 (j := (1 : Int32)) (inb_of S324 ⟨by decide, by decide⟩) (g := (mkF m 57 #[.val (.ref a), .val (.int xs), .val (.double xv), .second] [(.int xs), (.int (1 : Int32)), (.ref A)])) rfl rfl (Jvm.hb hby d8_57)
  have V325 : Arv Z h325 A kA .int (3 : Int32) [(.int s0), (.int xs), (.int s2)] (.int (0 : Int32)) := Arv.set Ar324 q324 S324 M324 H324 U324 rfl W325 1 rfl (Nat.le_of_ble_eq_true rfl)
  have N325 := Fr.snoc X325 N316 gA
  have K325 : Keep h0 h325 [a, A, B] := K316.wr W325 (Or.inl (by simp))
  have pre326 := fun (τ : State) kt => pre322 τ (by
    refine XS.iloadN X321.here hx rfl (Jvm.hb hby d8_56) rfl ?_
    exact st325 τ kt)
  have f328 := (FV.other W316 (Or.inr (slot_ne (Or.inr (own_W14 hw)) (Or.inl (own_W16 hw)) (by decide) (t := (.array .double)) (t' := .int) (by decide) (by decide))))
  have f329 := (f328.other W325 (Or.inl naA))
  obtain ⟨T327, X327, e327, st327⟩ := getF X325 hx hZ hown (host := "") (Or.inl (own_W13 hw)) Via.refl e325 f329 (g := (mkF m 59 #[.val (.ref a), .val (.int xs), .val (.double xv), .second] [(.ref a)])) rfl rfl (Jvm.hb hby d8_59)
  have pre330 := fun (τ : State) kt => pre326 τ (by
    refine XS.aloadN X325.here hx rfl (Jvm.hb hby d8_58) rfl rfl ?_
    exact st327 τ kt)
  have f332 := (fw316.other W325 (Or.inl naA))
  obtain ⟨T331, X331, e331, st331⟩ := getF X327 hx hZ hown (host := "") (Or.inl (own_W15 hw)) Via.refl e327 f332 (g := (mkF m 63 #[.val (.ref a), .val (.int xs), .val (.double xv), .second] [(.ref a), (.ref B)])) rfl rfl (Jvm.hb hby d8_63)
  have pre333 := fun (τ : State) kt => pre330 τ (by
    refine XS.aloadN X327.here hx rfl (Jvm.hb hby d8_62) rfl rfl ?_
    exact st331 τ kt)
  have f334 := VV.other W316 (Ne.symm naB)
  have f335 := f334.other W325 (Ne.symm nAB)
  obtain ⟨cl336, Ar336, q336, S336, M336, H336, U336⟩ := id f335
  obtain ⟨T337, h337, X337, e337, W337, st337⟩ := own_stD X331 hx hZ e331 Ar336 (j := (1 : Int32)) (inb_of S336 ⟨by decide, by decide⟩) (g := (mkF m 67 #[.val (.ref a), .val (.int xs), .val (.double xv), .second] [(.double xv), (.int (1 : Int32)), (.ref B)])) rfl rfl (Jvm.hb hby d8_67)
  have V337 : Arv Z h337 B kB .double (3 : Int32) [(.double v0), (.double xv), (.double v2)] (.double (0 : UInt64)) := Arv.set Ar336 q336 S336 M336 H336 U336 rfl W337 1 rfl (Nat.le_of_ble_eq_true rfl)
  have N337 := Fr.snoc X337 N325 gB
  have K337 : Keep h0 h337 [a, A, B] := K325.wr W337 (Or.inl (by simp))
  have pre338 := fun (τ : State) kt => pre333 τ (by
    refine own_dloadN X331.here hx rfl (Jvm.hb hby d8_66) rfl ?_
    exact st337 τ kt)
  have f339 := (f319.other W325 (Or.inl naA))
  have f340 := (f339.other W337 (Or.inl naB))
  have f341 := (f329.other W337 (Or.inl naB))
  have f342 := (f332.other W337 (Or.inl naB))
  have f343 := (FT.other W316 (Or.inr (slot_ne (Or.inl (own_W18 hw)) (Or.inl (own_W16 hw)) (by decide) (t := .int) (t' := .int) (by decide) (by decide))))
  have f344 := (f343.other W325 (Or.inl naA))
  have f345 := (f344.other W337 (Or.inl naB))
  have f346 := V325.other W337 nAB
  obtain ⟨fs, hrL, hrun, hended, hW, hsame⟩ := X337.leave (v := none) (fun _ => rfl)
  refine ⟨_, _, cast (congrFun hPS _) (pre338 _ ?_), hrun, hended, _, _, rfl, ?_, ⟨_, rfl⟩, hW, hsame.mono (by decide) (by decide)⟩
  · show Steps p.tables e below (T337.setTop (mkF m 68 #[.val (.ref a), .val (.int xs), .val (.double xv), .second] [])) _
    exact X337.returnOut hx Bd.returns (Jvm.hb hby d8_68) hrL
  · show QC Z a A B kA kB (1 : Int32) (3 : Int32) [(.int s0), (.int xs), (.int s2)] [(.double v0), (.double xv), (.double v2)] h0 n0 _ T337.heap _
    rw [e337]
    exact ⟨rfl, N337, K337, f340, f341, f342, f345, f346, V337⟩
set_option maxRecDepth 65536 in
set_option maxHeartbeats 40000000 in
theorem rmCap_13_xs (l : Launch) (Z : State) (a0 : Array Value) (hw : ∀ d ∈ tables_1, d.before a0 Z = true) (ws : List Jvm.Cond) (a : Addr) (xv : UInt64) (A B : Addr) (kA kB : ClassId) (s0 s1 s2 : Int32) (v0 v1 v2 : UInt64) (h0 : Heap) (n0 : Nat) (Z0 : n0 ≤ h0.size) (E7 : Exa Z h0 a own_CM) (FS : Fld Z h0 a own_CM "samples" "[I" (.ref A)) (FV : Fld Z h0 a own_CM "values" "[D" (.ref B)) (FH : Fld Z h0 a own_CM "head" "I" (.int (1 : Int32))) (FT : Fld Z h0 a own_CM "tail" "I" (.int (3 : Int32))) (VS : Arv Z h0 A kA .int (3 : Int32) [(.int s0), (.int s1), (.int s2)] (.int (0 : Int32))) (VV : Arv Z h0 B kB .double (3 : Int32) [(.double v0), (.double v1), (.double v2)] (.double (0 : UInt64))) (naA : a ≠ A) (naB : a ≠ B) (nAB : A ≠ B) (ga : n0 ≤ a) (gA : n0 ≤ A) (gB : n0 ≤ B) (pc0 : cmpValue (FP.dcmp v1 xv) .l < 0) (pc1 : (0 : Int32) < cmpValue (FP.dcmp v2 xv) .l) :
    MetFree l (⟨"com/example/counterpath/counterpath/core/CappedMaximum", "cap", "(D)V"⟩ : MethodName) (head1 (Jvm.Cond.code (⟨"com/example/counterpath/counterpath/core/CappedMaximum", "cap", "(D)V"⟩ : MethodName) prog_3_method_3_code 3 none :: ws) ({ frames := 0, cells := 0, slots := 0, locals := 0 } : Room)) (fun α U => α = #[(.ref a), (.double xv)] ∧ Z.Warmed39 U.vm ∧ U.heap = h0) (fun _ _ _ _ _ => True) (fun _ U ω U' => ∃ ν Λ, ω = .returned ν ∧ QC Z a A B kA kB (1 : Int32) (3 : Int32) [(.int s0), (.int s1), (.int s2)] [(.double v0), (.double v1), (.double xv)] h0 n0 ν U'.heap Λ ∧ FrameEnd U ω U' Λ ({ frames := 0, cells := 0, slots := 0, locals := 0 } : Room).cells ({ frames := 0, cells := 0, slots := 0, locals := 0 } : Room).slots) := by
  refine MetFree.of_bodySF (plainFor_of_name own_pn_com_example_counterpath_counterpath_core_CappedMaximum) hisR ?_
  intro p e s m args below meth c s₁ Bd hml0 hP hK
  obtain ⟨rfl, hZ, hh⟩ := hP
  have hx := Bd.exec
  have hby := Bd.bytes
  have hml : c.maxLocals = 3 := hml0
  have hown : s.vm.findClass "com/example/counterpath/counterpath/core/CappedMaximum" = some m.cls := findClass_of_methodNamed Bd.named
  have hnm := (name_of_methodNamed Bd.named Bd.method).1
  have X0 : Stand p l e ({ frames := 0, cells := 0, slots := 0, locals := 0 } : Room) s m #[(.ref a), (.double xv)] below meth c s₁ [] 0 0 := Stand.of_body Bd
  have e0 : s₁.heap = h0 := by rw [← hh, Bd.state]; rfl
  have N0 := Fr.nil n0
  have KK0 : Keep h0 h0 [a, A, B] := Keep.refl h0 [a, A, B]
  obtain ⟨PS, hPS⟩ : ∃ P : State → Prop, P = fun τ => Steps p.tables e below (s₁.setTop (entryFrame m #[(.ref a), (.double xv)] 3)) τ := ⟨_, rfl⟩
  have pre0 : ∀ τ, Steps p.tables e below (s₁.setTop (mkF m 0 #[.val (.ref a), .val (.double xv), .second] [])) τ → PS τ := by rw [hPS]; exact fun τ κ => castTop (own_ef3 m a xv) κ
  obtain ⟨T353, X353, e353, st353⟩ := getF X0 hx hZ hown (host := "") (Or.inl (own_W17 hw)) Via.refl e0 FT (g := (mkF m 1 #[.val (.ref a), .val (.double xv), .second] [(.ref a)])) rfl rfl (Jvm.hb hby d3_1)
  have pre354 := fun (τ : State) kt => pre0 τ (by
    refine XS.aloadN X0.here hx rfl (Jvm.hb hby d3_0) rfl rfl ?_
    exact st353 τ kt)
  obtain ⟨T355, X355, e355, st355⟩ := getF X353 hx hZ hown (host := "") (Or.inl (own_W15 hw)) Via.refl e353 FH (g := (mkF m 5 #[.val (.ref a), .val (.double xv), .second] [(.ref a), (.int (3 : Int32))])) rfl rfl (Jvm.hb hby d3_5)
  have pre356 := fun (τ : State) kt => pre354 τ (by
    refine XS.aloadN X353.here hx rfl (Jvm.hb hby d3_4) rfl rfl ?_
    exact st355 τ kt)
  obtain ⟨T357, X357, e357, st357⟩ := getF X355 hx hZ hown (host := "") (Or.inl (own_W13 hw)) Via.refl e355 FV (g := (mkF m 14 #[.val (.ref a), .val (.double xv), .second] [(.ref a)])) rfl rfl (Jvm.hb hby d3_14)
  have pre358 := fun (τ : State) kt => pre356 τ (by
    refine XS.isub X355.here hx rfl (Jvm.hb hby d3_8) rfl ?_
    refine XS.iconst X355.here hx rfl (Jvm.hb hby d3_9) ?_
    refine XS.icmpNo X355.here hx rfl (Jvm.hb hby d3_10) rfl (flt (by decide)).1 ?_
    refine XS.aloadN X355.here hx rfl (Jvm.hb hby d3_13) rfl rfl ?_
    exact st357 τ kt)
  obtain ⟨T359, X359, e359, st359⟩ := getF X357 hx hZ hown (host := "") (Or.inl (own_W17 hw)) Via.refl e357 FT (g := (mkF m 18 #[.val (.ref a), .val (.double xv), .second] [(.ref a), (.ref B)])) rfl rfl (Jvm.hb hby d3_18)
  have pre360 := fun (τ : State) kt => pre358 τ (by
    refine XS.aloadN X357.here hx rfl (Jvm.hb hby d3_17) rfl rfl ?_
    exact st359 τ kt)
  obtain ⟨cl361, Ar361, q361, S361, M361, H361, U361⟩ := id VV
  have in361 : ¬ ((1 : Int32) < 0 ∨ cl361.slots.size ≤ ((1 : Int32)).toNatClampNeg) := inb_of S361 ⟨by decide, by decide⟩
  obtain ⟨T362, X362, e362, st362⟩ := getF X359 hx hZ hown (host := "") (Or.inl (own_W17 hw)) Via.refl e359 FT (g := (mkF m 43 #[.val (.ref a), .val (.double xv), .second] [(.ref a)])) rfl rfl (Jvm.hb hby d3_43)
  have pre363 := fun (τ : State) kt => pre360 τ (by
    refine XS.iconst X359.here hx rfl (Jvm.hb hby d3_21) ?_
    refine XS.isub X359.here hx rfl (Jvm.hb hby d3_22) rfl ?_
    refine X359.daload hx ((congrArg (fun (HH : Heap) => HH[B]?) (e359 : T359.heap = h0)).trans Ar361.1) (State.isArrayOf_alike hZ.alike Ar361.2.1) Ar361.2.2 in361 (H361.at in361 rfl) (g := (mkF m 23 #[.val (.ref a), .val (.double xv), .second] [(.int (1 : Int32)), (.ref B)])) rfl rfl (Jvm.hb hby d3_23) _ ?_
    refine own_dloadN X359.here hx rfl (Jvm.hb hby d3_24) rfl ?_
    refine own_dcmp X359.here hx rfl (Jvm.hb hby d3_25) rfl ?_
    refine XS.ifYes X359.here hx rfl (pc0 := 26) (pc' := 42) rfl (Jvm.hb hby d3_26) rfl ((if0 _ _).trans (tlt pc0).1) (by decide) (by decide) ?_
    refine XS.aloadN X359.here hx rfl (Jvm.hb hby d3_42) rfl rfl ?_
    exact st362 τ kt)
  obtain ⟨T364, X364, e364, st364⟩ := getF X362 hx hZ hown (host := "") (Or.inl (own_W15 hw)) Via.refl e362 FH (g := (mkF m 47 #[.val (.ref a), .val (.double xv), .second] [(.ref a), (.int (3 : Int32))])) rfl rfl (Jvm.hb hby d3_47)
  have pre365 := fun (τ : State) kt => pre363 τ (by
    refine XS.aloadN X362.here hx rfl (Jvm.hb hby d3_46) rfl rfl ?_
    exact st364 τ kt)
  obtain ⟨T366, X366, e366, st366⟩ := getF X364 hx hZ hown (host := "") (Or.inl (own_W13 hw)) Via.refl e364 FV (g := (mkF m 54 #[.val (.ref a), .val (.double xv), .second] [(.ref a)])) rfl rfl (Jvm.hb hby d3_54)
  have pre367 := fun (τ : State) kt => pre365 τ (by
    refine XS.icmpNo X364.here hx rfl (Jvm.hb hby d3_50) rfl (tlt (by decide)).2.2.2 ?_
    refine XS.aloadN X364.here hx rfl (Jvm.hb hby d3_53) rfl rfl ?_
    exact st366 τ kt)
  obtain ⟨T368, X368, e368, st368⟩ := getF X366 hx hZ hown (host := "") (Or.inl (own_W17 hw)) Via.refl e366 FT (g := (mkF m 58 #[.val (.ref a), .val (.double xv), .second] [(.ref a), (.ref B)])) rfl rfl (Jvm.hb hby d3_58)
  have pre369 := fun (τ : State) kt => pre367 τ (by
    refine XS.aloadN X366.here hx rfl (Jvm.hb hby d3_57) rfl rfl ?_
    exact st368 τ kt)
  obtain ⟨cl370, Ar370, q370, S370, M370, H370, U370⟩ := id VV
  have in370 : ¬ ((2 : Int32) < 0 ∨ cl370.slots.size ≤ ((2 : Int32)).toNatClampNeg) := inb_of S370 ⟨by decide, by decide⟩
  obtain ⟨T371, X371, e371, st371⟩ := getF X368 hx hZ hown (host := "") (Or.inl (own_W13 hw)) Via.refl e368 FV (g := (mkF m 70 #[.val (.ref a), .val (.double xv), .second] [(.ref a)])) rfl rfl (Jvm.hb hby d3_70)
  have pre372 := fun (τ : State) kt => pre369 τ (by
    refine XS.iconst X368.here hx rfl (Jvm.hb hby d3_61) ?_
    refine XS.isub X368.here hx rfl (Jvm.hb hby d3_62) rfl ?_
    refine X368.daload hx ((congrArg (fun (HH : Heap) => HH[B]?) (e368 : T368.heap = h0)).trans Ar370.1) (State.isArrayOf_alike hZ.alike Ar370.2.1) Ar370.2.2 in370 (H370.at in370 rfl) (g := (mkF m 63 #[.val (.ref a), .val (.double xv), .second] [(.int (2 : Int32)), (.ref B)])) rfl rfl (Jvm.hb hby d3_63) _ ?_
    refine own_dloadN X368.here hx rfl (Jvm.hb hby d3_64) rfl ?_
    refine own_dcmp X368.here hx rfl (Jvm.hb hby d3_65) rfl ?_
    refine XS.ifNo X368.here hx rfl (Jvm.hb hby d3_66) rfl ((if0 _ _).trans (tlt pc1).2.2.2) ?_
    refine XS.aloadN X368.here hx rfl (Jvm.hb hby d3_69) rfl rfl ?_
    exact st371 τ kt)
  obtain ⟨T373, X373, e373, st373⟩ := getF X371 hx hZ hown (host := "") (Or.inl (own_W17 hw)) Via.refl e371 FT (g := (mkF m 74 #[.val (.ref a), .val (.double xv), .second] [(.ref a), (.ref B)])) rfl rfl (Jvm.hb hby d3_74)
  have pre374 := fun (τ : State) kt => pre372 τ (by
    refine XS.aloadN X371.here hx rfl (Jvm.hb hby d3_73) rfl rfl ?_
    exact st373 τ kt)
  obtain ⟨cl375, Ar375, q375, S375, M375, H375, U375⟩ := id VV
  obtain ⟨T376, h376, X376, e376, W376, st376⟩ := own_stD X373 hx hZ e373 Ar375 (j := (2 : Int32)) (inb_of S375 ⟨by decide, by decide⟩) (g := (mkF m 80 #[.val (.ref a), .val (.double xv), .second] [(.double xv), (.int (2 : Int32)), (.ref B)])) rfl rfl (Jvm.hb hby d3_80)
  have V376 : Arv Z h376 B kB .double (3 : Int32) [(.double v0), (.double v1), (.double xv)] (.double (0 : UInt64)) := Arv.set Ar375 q375 S375 M375 H375 U375 rfl W376 2 rfl (Nat.le_of_ble_eq_true rfl)
  have N376 := Fr.snoc X376 N0 gB
  have K376 : Keep h0 h376 [a, A, B] := KK0.wr W376 (Or.inl (by simp))
  have pre377 := fun (τ : State) kt => pre374 τ (by
    refine XS.iconst X373.here hx rfl (Jvm.hb hby d3_77) ?_
    refine XS.isub X373.here hx rfl (Jvm.hb hby d3_78) rfl ?_
    refine own_dloadN X373.here hx rfl (Jvm.hb hby d3_79) rfl ?_
    exact st376 τ kt)
  have f378 := (FS.other W376 (Or.inl naB))
  have f379 := (FV.other W376 (Or.inl naB))
  have f380 := (FH.other W376 (Or.inl naB))
  have f381 := (FT.other W376 (Or.inl naB))
  have f382 := VS.other W376 nAB
  obtain ⟨fs, hrL, hrun, hended, hW, hsame⟩ := X376.leave (v := none) (fun _ => rfl)
  refine ⟨_, _, cast (congrFun hPS _) (pre377 _ ?_), hrun, hended, _, _, rfl, ?_, ⟨_, rfl⟩, hW, hsame.mono (by decide) (by decide)⟩
  · show Steps p.tables e below (T376.setTop (mkF m 81 #[.val (.ref a), .val (.double xv), .second] [])) _
    exact X376.returnOut hx Bd.returns (Jvm.hb hby d3_81) hrL
  · show QC Z a A B kA kB (1 : Int32) (3 : Int32) [(.int s0), (.int s1), (.int s2)] [(.double v0), (.double v1), (.double xv)] h0 n0 _ T376.heap _
    rw [e376]
    exact ⟨rfl, N376, K376, f378, f379, f380, f381, f382, V376⟩
set_option maxRecDepth 65536 in
set_option maxHeartbeats 40000000 in
theorem rmMax_13 (l : Launch) (Z : State) (a0 : Array Value) (hw : ∀ d ∈ tables_1, d.before a0 Z = true) (ws : List Jvm.Cond) (a : Addr) (A B : Addr) (kA kB : ClassId) (s0 s1 s2 : Int32) (v0 v1 v2 : UInt64) (h0 : Heap) (n0 : Nat) (Z0 : n0 ≤ h0.size) (E7 : Exa Z h0 a own_CM) (FS : Fld Z h0 a own_CM "samples" "[I" (.ref A)) (FV : Fld Z h0 a own_CM "values" "[D" (.ref B)) (FH : Fld Z h0 a own_CM "head" "I" (.int (1 : Int32))) (FT : Fld Z h0 a own_CM "tail" "I" (.int (3 : Int32))) (VS : Arv Z h0 A kA .int (3 : Int32) [(.int s0), (.int s1), (.int s2)] (.int (0 : Int32))) (VV : Arv Z h0 B kB .double (3 : Int32) [(.double v0), (.double v1), (.double v2)] (.double (0 : UInt64))) (naA : a ≠ A) (naB : a ≠ B) (nAB : A ≠ B) (ga : n0 ≤ a) (gA : n0 ≤ A) (gB : n0 ≤ B)  :
    MetFree l (⟨"com/example/counterpath/counterpath/core/CappedMaximum", "maximum", "()D"⟩ : MethodName) (head1 (Jvm.Cond.code (⟨"com/example/counterpath/counterpath/core/CappedMaximum", "maximum", "()D"⟩ : MethodName) prog_3_method_5_code 1 (some .double) :: ws) ({ frames := 0, cells := 0, slots := 0, locals := 0 } : Room)) (fun α U => α = #[(.ref a)] ∧ Z.Warmed39 U.vm ∧ U.heap = h0) (fun _ _ _ _ _ => True) (fun _ U ω U' => ∃ ν Λ, ω = .returned ν ∧ QD v2 h0 n0 ν U'.heap Λ ∧ FrameEnd U ω U' Λ ({ frames := 0, cells := 0, slots := 0, locals := 0 } : Room).cells ({ frames := 0, cells := 0, slots := 0, locals := 0 } : Room).slots) := by
  refine MetFree.of_bodySF (plainFor_of_name own_pn_com_example_counterpath_counterpath_core_CappedMaximum) hisR ?_
  intro p e s m args below meth c s₁ Bd hml0 hP hK
  obtain ⟨rfl, hZ, hh⟩ := hP
  have hx := Bd.exec
  have hby := Bd.bytes
  have hml : c.maxLocals = 1 := hml0
  have hown : s.vm.findClass "com/example/counterpath/counterpath/core/CappedMaximum" = some m.cls := findClass_of_methodNamed Bd.named
  have hnm := (name_of_methodNamed Bd.named Bd.method).1
  have X0 : Stand p l e ({ frames := 0, cells := 0, slots := 0, locals := 0 } : Room) s m #[(.ref a)] below meth c s₁ [] 0 0 := Stand.of_body Bd
  have e0 : s₁.heap = h0 := by rw [← hh, Bd.state]; rfl
  have N0 := Fr.nil n0
  have KK0 : Keep h0 h0 [] := Keep.refl h0 []
  obtain ⟨PS, hPS⟩ : ∃ P : State → Prop, P = fun τ => Steps p.tables e below (s₁.setTop (entryFrame m #[(.ref a)] 1)) τ := ⟨_, rfl⟩
  have pre0 : ∀ τ, Steps p.tables e below (s₁.setTop (mkF m 0 #[.val (.ref a)] [])) τ → PS τ := by rw [hPS]; exact fun τ κ => castTop (own_ef4 m a) κ
  obtain ⟨T386, X386, e386, st386⟩ := getF X0 hx hZ hown (host := "") (Or.inl (own_W17 hw)) Via.refl e0 FT (g := (mkF m 1 #[.val (.ref a)] [(.ref a)])) rfl rfl (Jvm.hb hby d4_1)
  have pre387 := fun (τ : State) kt => pre0 τ (by
    refine XS.aloadN X0.here hx rfl (Jvm.hb hby d4_0) rfl rfl ?_
    exact st386 τ kt)
  obtain ⟨T388, X388, e388, st388⟩ := getF X386 hx hZ hown (host := "") (Or.inl (own_W15 hw)) Via.refl e386 FH (g := (mkF m 5 #[.val (.ref a)] [(.ref a), (.int (3 : Int32))])) rfl rfl (Jvm.hb hby d4_5)
  have pre389 := fun (τ : State) kt => pre387 τ (by
    refine XS.aloadN X386.here hx rfl (Jvm.hb hby d4_4) rfl rfl ?_
    exact st388 τ kt)
  obtain ⟨T390, X390, e390, st390⟩ := getF X388 hx hZ hown (host := "") (Or.inl (own_W13 hw)) Via.refl e388 FV (g := (mkF m 12 #[.val (.ref a)] [(.ref a)])) rfl rfl (Jvm.hb hby d4_12)
  have pre391 := fun (τ : State) kt => pre389 τ (by
    refine XS.icmpNo X388.here hx rfl (Jvm.hb hby d4_8) rfl (tlt (by decide)).2.2.2 ?_
    refine XS.aloadN X388.here hx rfl (Jvm.hb hby d4_11) rfl rfl ?_
    exact st390 τ kt)
  obtain ⟨T392, X392, e392, st392⟩ := getF X390 hx hZ hown (host := "") (Or.inl (own_W17 hw)) Via.refl e390 FT (g := (mkF m 16 #[.val (.ref a)] [(.ref a), (.ref B)])) rfl rfl (Jvm.hb hby d4_16)
  have pre393 := fun (τ : State) kt => pre391 τ (by
    refine XS.aloadN X390.here hx rfl (Jvm.hb hby d4_15) rfl rfl ?_
    exact st392 τ kt)
  obtain ⟨cl394, Ar394, q394, S394, M394, H394, U394⟩ := id VV
  have in394 : ¬ ((2 : Int32) < 0 ∨ cl394.slots.size ≤ ((2 : Int32)).toNatClampNeg) := inb_of S394 ⟨by decide, by decide⟩
  have pre395 := fun (τ : State) kt => pre393 τ (by
    refine XS.iconst X392.here hx rfl (Jvm.hb hby d4_19) ?_
    refine XS.isub X392.here hx rfl (Jvm.hb hby d4_20) rfl ?_
    refine X392.daload hx ((congrArg (fun (HH : Heap) => HH[B]?) (e392 : T392.heap = h0)).trans Ar394.1) (State.isArrayOf_alike hZ.alike Ar394.2.1) Ar394.2.2 in394 (H394.at in394 rfl) (g := (mkF m 21 #[.val (.ref a)] [(.int (2 : Int32)), (.ref B)])) rfl rfl (Jvm.hb hby d4_21) _ ?_
    refine XS.goto X392.here hx rfl (pc0 := 22) (pc' := 28) rfl (Jvm.hb hby d4_22) (by decide) (by decide) ?_
    exact kt)
  obtain ⟨fs, hrL, hrun, hended, hW, hsame⟩ := X392.leave (v := some (.double v2)) (fun h => by rw [Bd.returns] at h; cases h)
  refine ⟨_, _, cast (congrFun hPS _) (pre395 _ ?_), hrun, hended, _, _, rfl, ?_, ⟨_, rfl⟩, hW, hsame.mono (by decide) (by decide)⟩
  · show Steps p.tables e below (T392.setTop (mkF m 28 #[.val (.ref a)] [(.double v2)])) _
    exact own_retD X392 hx Bd.returns (Jvm.hb hby d4_28) hrL
  · show QD v2 h0 n0 _ T392.heap _
    rw [e392]
    exact ⟨rfl, N0, rfl⟩
set_option maxRecDepth 65536 in
set_option maxHeartbeats 40000000 in
theorem rmRem_13_x (l : Launch) (Z : State) (a0 : Array Value) (hw : ∀ d ∈ tables_1, d.before a0 Z = true) (ws : List Jvm.Cond) (a : Addr) (xs : Int32) (A B : Addr) (kA kB : ClassId) (s0 s1 s2 : Int32) (v0 v1 v2 : UInt64) (h0 : Heap) (n0 : Nat) (Z0 : n0 ≤ h0.size) (E7 : Exa Z h0 a own_CM) (FS : Fld Z h0 a own_CM "samples" "[I" (.ref A)) (FV : Fld Z h0 a own_CM "values" "[D" (.ref B)) (FH : Fld Z h0 a own_CM "head" "I" (.int (1 : Int32))) (FT : Fld Z h0 a own_CM "tail" "I" (.int (3 : Int32))) (VS : Arv Z h0 A kA .int (3 : Int32) [(.int s0), (.int s1), (.int s2)] (.int (0 : Int32))) (VV : Arv Z h0 B kB .double (3 : Int32) [(.double v0), (.double v1), (.double v2)] (.double (0 : UInt64))) (naA : a ≠ A) (naB : a ≠ B) (nAB : A ≠ B) (ga : n0 ≤ a) (gA : n0 ≤ A) (gB : n0 ≤ B) (pc0 : ¬ (xs < s2)) :
    MetFree l (⟨"com/example/counterpath/counterpath/core/CappedMaximum", "removeAfter", "(I)V"⟩ : MethodName) (head1 (Jvm.Cond.code (⟨"com/example/counterpath/counterpath/core/CappedMaximum", "removeAfter", "(I)V"⟩ : MethodName) prog_3_method_4_code 2 none :: ws) ({ frames := 0, cells := 0, slots := 0, locals := 0 } : Room)) (fun α U => α = #[(.ref a), (.int xs)] ∧ Z.Warmed39 U.vm ∧ U.heap = h0) (fun _ _ _ _ _ => True) (fun _ U ω U' => ∃ ν Λ, ω = .returned ν ∧ QC Z a A B kA kB (1 : Int32) (3 : Int32) [(.int s0), (.int s1), (.int s2)] [(.double v0), (.double v1), (.double v2)] h0 n0 ν U'.heap Λ ∧ FrameEnd U ω U' Λ ({ frames := 0, cells := 0, slots := 0, locals := 0 } : Room).cells ({ frames := 0, cells := 0, slots := 0, locals := 0 } : Room).slots) := by
  refine MetFree.of_bodySF (plainFor_of_name own_pn_com_example_counterpath_counterpath_core_CappedMaximum) hisR ?_
  intro p e s m args below meth c s₁ Bd hml0 hP hK
  obtain ⟨rfl, hZ, hh⟩ := hP
  have hx := Bd.exec
  have hby := Bd.bytes
  have hml : c.maxLocals = 2 := hml0
  have hown : s.vm.findClass "com/example/counterpath/counterpath/core/CappedMaximum" = some m.cls := findClass_of_methodNamed Bd.named
  have hnm := (name_of_methodNamed Bd.named Bd.method).1
  have X0 : Stand p l e ({ frames := 0, cells := 0, slots := 0, locals := 0 } : Room) s m #[(.ref a), (.int xs)] below meth c s₁ [] 0 0 := Stand.of_body Bd
  have e0 : s₁.heap = h0 := by rw [← hh, Bd.state]; rfl
  have N0 := Fr.nil n0
  have KK0 : Keep h0 h0 [a, A, B] := Keep.refl h0 [a, A, B]
  obtain ⟨PS, hPS⟩ : ∃ P : State → Prop, P = fun τ => Steps p.tables e below (s₁.setTop (entryFrame m #[(.ref a), (.int xs)] 2)) τ := ⟨_, rfl⟩
  have pre0 : ∀ τ, Steps p.tables e below (s₁.setTop (mkF m 0 #[.val (.ref a), .val (.int xs)] [])) τ → PS τ := by rw [hPS]; exact fun τ κ => castTop (own_ef7 m a xs) κ
  obtain ⟨T405, X405, e405, st405⟩ := getF X0 hx hZ hown (host := "") (Or.inl (own_W17 hw)) Via.refl e0 FT (g := (mkF m 1 #[.val (.ref a), .val (.int xs)] [(.ref a)])) rfl rfl (Jvm.hb hby d7_1)
  have pre406 := fun (τ : State) kt => pre0 τ (by
    refine XS.aloadN X0.here hx rfl (Jvm.hb hby d7_0) rfl rfl ?_
    exact st405 τ kt)
  obtain ⟨T407, X407, e407, st407⟩ := getF X405 hx hZ hown (host := "") (Or.inl (own_W15 hw)) Via.refl e405 FH (g := (mkF m 5 #[.val (.ref a), .val (.int xs)] [(.ref a), (.int (3 : Int32))])) rfl rfl (Jvm.hb hby d7_5)
  have pre408 := fun (τ : State) kt => pre406 τ (by
    refine XS.aloadN X405.here hx rfl (Jvm.hb hby d7_4) rfl rfl ?_
    exact st407 τ kt)
  obtain ⟨T409, X409, e409, st409⟩ := getF X407 hx hZ hown (host := "") (Or.inl (own_W10 hw)) Via.refl e407 FS (g := (mkF m 12 #[.val (.ref a), .val (.int xs)] [(.ref a)])) rfl rfl (Jvm.hb hby d7_12)
  have pre410 := fun (τ : State) kt => pre408 τ (by
    refine XS.icmpNo X407.here hx rfl (Jvm.hb hby d7_8) rfl (tlt (by decide)).2.2.2 ?_
    refine XS.aloadN X407.here hx rfl (Jvm.hb hby d7_11) rfl rfl ?_
    exact st409 τ kt)
  obtain ⟨T411, X411, e411, st411⟩ := getF X409 hx hZ hown (host := "") (Or.inl (own_W17 hw)) Via.refl e409 FT (g := (mkF m 16 #[.val (.ref a), .val (.int xs)] [(.ref a), (.ref A)])) rfl rfl (Jvm.hb hby d7_16)
  have pre412 := fun (τ : State) kt => pre410 τ (by
    refine XS.aloadN X409.here hx rfl (Jvm.hb hby d7_15) rfl rfl ?_
    exact st411 τ kt)
  obtain ⟨cl413, Ar413, q413, S413, M413, H413, U413⟩ := id VS
  have in413 : ¬ ((2 : Int32) < 0 ∨ cl413.slots.size ≤ ((2 : Int32)).toNatClampNeg) := inb_of S413 ⟨by decide, by decide⟩
  have pre414 := fun (τ : State) kt => pre412 τ (by
    refine XS.iconst X411.here hx rfl (Jvm.hb hby d7_19) ?_
    refine XS.isub X411.here hx rfl (Jvm.hb hby d7_20) rfl ?_
    refine X411.iaload hx ((congrArg (fun (HH : Heap) => HH[A]?) (e411 : T411.heap = h0)).trans Ar413.1) (State.isArrayOf_alike hZ.alike Ar413.2.1) Ar413.2.2 in413 (H413.at in413 rfl) (g := (mkF m 21 #[.val (.ref a), .val (.int xs)] [(.int (2 : Int32)), (.ref A)])) rfl rfl (Jvm.hb hby d7_21) _ ?_
    refine XS.iloadN X411.here hx rfl (Jvm.hb hby d7_22) rfl ?_
    refine XS.icmpYes X411.here hx rfl (pc0 := 23) (pc' := 39) rfl (Jvm.hb hby d7_23) rfl (flt pc0).2.2.2 (by decide) (by decide) ?_
    exact kt)
  obtain ⟨fs, hrL, hrun, hended, hW, hsame⟩ := X411.leave (v := none) (fun _ => rfl)
  refine ⟨_, _, cast (congrFun hPS _) (pre414 _ ?_), hrun, hended, _, _, rfl, ?_, ⟨_, rfl⟩, hW, hsame.mono (by decide) (by decide)⟩
  · show Steps p.tables e below (T411.setTop (mkF m 39 #[.val (.ref a), .val (.int xs)] [])) _
    exact X411.returnOut hx Bd.returns (Jvm.hb hby d7_39) hrL
  · show QC Z a A B kA kB (1 : Int32) (3 : Int32) [(.int s0), (.int s1), (.int s2)] [(.double v0), (.double v1), (.double v2)] h0 n0 _ T411.heap _
    rw [e411]
    exact ⟨rfl, N0, KK0, FS, FV, FH, FT, VS, VV⟩
set_option maxRecDepth 65536 in
set_option maxHeartbeats 40000000 in
theorem rmRem_13_cx (l : Launch) (Z : State) (a0 : Array Value) (hw : ∀ d ∈ tables_1, d.before a0 Z = true) (ws : List Jvm.Cond) (a : Addr) (xs : Int32) (A B : Addr) (kA kB : ClassId) (s0 s1 s2 : Int32) (v0 v1 v2 : UInt64) (h0 : Heap) (n0 : Nat) (Z0 : n0 ≤ h0.size) (E7 : Exa Z h0 a own_CM) (FS : Fld Z h0 a own_CM "samples" "[I" (.ref A)) (FV : Fld Z h0 a own_CM "values" "[D" (.ref B)) (FH : Fld Z h0 a own_CM "head" "I" (.int (1 : Int32))) (FT : Fld Z h0 a own_CM "tail" "I" (.int (3 : Int32))) (VS : Arv Z h0 A kA .int (3 : Int32) [(.int s0), (.int s1), (.int s2)] (.int (0 : Int32))) (VV : Arv Z h0 B kB .double (3 : Int32) [(.double v0), (.double v1), (.double v2)] (.double (0 : UInt64))) (naA : a ≠ A) (naB : a ≠ B) (nAB : A ≠ B) (ga : n0 ≤ a) (gA : n0 ≤ A) (gB : n0 ≤ B) (pc0 : xs < s2) (pc1 : ¬ (xs < s1)) :
    MetFree l (⟨"com/example/counterpath/counterpath/core/CappedMaximum", "removeAfter", "(I)V"⟩ : MethodName) (head1 (Jvm.Cond.code (⟨"com/example/counterpath/counterpath/core/CappedMaximum", "removeAfter", "(I)V"⟩ : MethodName) prog_3_method_4_code 2 none :: ws) ({ frames := 0, cells := 0, slots := 0, locals := 0 } : Room)) (fun α U => α = #[(.ref a), (.int xs)] ∧ Z.Warmed39 U.vm ∧ U.heap = h0) (fun _ _ _ _ _ => True) (fun _ U ω U' => ∃ ν Λ, ω = .returned ν ∧ QC Z a A B kA kB (1 : Int32) (2 : Int32) [(.int s0), (.int s1), (.int s2)] [(.double v0), (.double v1), (.double v2)] h0 n0 ν U'.heap Λ ∧ FrameEnd U ω U' Λ ({ frames := 0, cells := 0, slots := 0, locals := 0 } : Room).cells ({ frames := 0, cells := 0, slots := 0, locals := 0 } : Room).slots) := by
  refine MetFree.of_bodySF (plainFor_of_name own_pn_com_example_counterpath_counterpath_core_CappedMaximum) hisR ?_
  intro p e s m args below meth c s₁ Bd hml0 hP hK
  obtain ⟨rfl, hZ, hh⟩ := hP
  have hx := Bd.exec
  have hby := Bd.bytes
  have hml : c.maxLocals = 2 := hml0
  have hown : s.vm.findClass "com/example/counterpath/counterpath/core/CappedMaximum" = some m.cls := findClass_of_methodNamed Bd.named
  have hnm := (name_of_methodNamed Bd.named Bd.method).1
  have X0 : Stand p l e ({ frames := 0, cells := 0, slots := 0, locals := 0 } : Room) s m #[(.ref a), (.int xs)] below meth c s₁ [] 0 0 := Stand.of_body Bd
  have e0 : s₁.heap = h0 := by rw [← hh, Bd.state]; rfl
  have N0 := Fr.nil n0
  have KK0 : Keep h0 h0 [a, A, B] := Keep.refl h0 [a, A, B]
  obtain ⟨PS, hPS⟩ : ∃ P : State → Prop, P = fun τ => Steps p.tables e below (s₁.setTop (entryFrame m #[(.ref a), (.int xs)] 2)) τ := ⟨_, rfl⟩
  have pre0 : ∀ τ, Steps p.tables e below (s₁.setTop (mkF m 0 #[.val (.ref a), .val (.int xs)] [])) τ → PS τ := by rw [hPS]; exact fun τ κ => castTop (own_ef7 m a xs) κ
  obtain ⟨T424, X424, e424, st424⟩ := getF X0 hx hZ hown (host := "") (Or.inl (own_W17 hw)) Via.refl e0 FT (g := (mkF m 1 #[.val (.ref a), .val (.int xs)] [(.ref a)])) rfl rfl (Jvm.hb hby d7_1)
  have pre425 := fun (τ : State) kt => pre0 τ (by
    refine XS.aloadN X0.here hx rfl (Jvm.hb hby d7_0) rfl rfl ?_
    exact st424 τ kt)
  obtain ⟨T426, X426, e426, st426⟩ := getF X424 hx hZ hown (host := "") (Or.inl (own_W15 hw)) Via.refl e424 FH (g := (mkF m 5 #[.val (.ref a), .val (.int xs)] [(.ref a), (.int (3 : Int32))])) rfl rfl (Jvm.hb hby d7_5)
  have pre427 := fun (τ : State) kt => pre425 τ (by
    refine XS.aloadN X424.here hx rfl (Jvm.hb hby d7_4) rfl rfl ?_
    exact st426 τ kt)
  obtain ⟨T428, X428, e428, st428⟩ := getF X426 hx hZ hown (host := "") (Or.inl (own_W10 hw)) Via.refl e426 FS (g := (mkF m 12 #[.val (.ref a), .val (.int xs)] [(.ref a)])) rfl rfl (Jvm.hb hby d7_12)
  have pre429 := fun (τ : State) kt => pre427 τ (by
    refine XS.icmpNo X426.here hx rfl (Jvm.hb hby d7_8) rfl (tlt (by decide)).2.2.2 ?_
    refine XS.aloadN X426.here hx rfl (Jvm.hb hby d7_11) rfl rfl ?_
    exact st428 τ kt)
  obtain ⟨T430, X430, e430, st430⟩ := getF X428 hx hZ hown (host := "") (Or.inl (own_W17 hw)) Via.refl e428 FT (g := (mkF m 16 #[.val (.ref a), .val (.int xs)] [(.ref a), (.ref A)])) rfl rfl (Jvm.hb hby d7_16)
  have pre431 := fun (τ : State) kt => pre429 τ (by
    refine XS.aloadN X428.here hx rfl (Jvm.hb hby d7_15) rfl rfl ?_
    exact st430 τ kt)
  obtain ⟨cl432, Ar432, q432, S432, M432, H432, U432⟩ := id VS
  have in432 : ¬ ((2 : Int32) < 0 ∨ cl432.slots.size ≤ ((2 : Int32)).toNatClampNeg) := inb_of S432 ⟨by decide, by decide⟩
  obtain ⟨T433, X433, e433, st433⟩ := getF X430 hx hZ hown (host := "") (Or.inl (own_W17 hw)) Via.refl e430 FT (g := (mkF m 28 #[.val (.ref a), .val (.int xs)] [(.ref a), (.ref a)])) rfl rfl (Jvm.hb hby d7_28)
  have pre434 := fun (τ : State) kt => pre431 τ (by
    refine XS.iconst X430.here hx rfl (Jvm.hb hby d7_19) ?_
    refine XS.isub X430.here hx rfl (Jvm.hb hby d7_20) rfl ?_
    refine X430.iaload hx ((congrArg (fun (HH : Heap) => HH[A]?) (e430 : T430.heap = h0)).trans Ar432.1) (State.isArrayOf_alike hZ.alike Ar432.2.1) Ar432.2.2 in432 (H432.at in432 rfl) (g := (mkF m 21 #[.val (.ref a), .val (.int xs)] [(.int (2 : Int32)), (.ref A)])) rfl rfl (Jvm.hb hby d7_21) _ ?_
    refine XS.iloadN X430.here hx rfl (Jvm.hb hby d7_22) rfl ?_
    refine XS.icmpNo X430.here hx rfl (Jvm.hb hby d7_23) rfl (tlt pc0).2.2.2 ?_
    refine XS.aloadN X430.here hx rfl (Jvm.hb hby d7_26) rfl rfl ?_
    refine XS.dup X430.here hx rfl (Jvm.hb hby d7_27) rfl rfl ?_
    exact st433 τ kt)
  obtain ⟨T435, h435, X435, e435, W435, st435⟩ := putF X433 hx hZ hown (host := "") (Or.inl (own_W17 hw)) Via.refl e433 FT E7 (Or.inl (own_W18 hw)) (own_W1 hw) (ty := .int) (by decide) rfl rfl (g := (mkF m 33 #[.val (.ref a), .val (.int xs)] [(.int (2 : Int32)), (.ref a)])) rfl rfl (Jvm.hb hby d7_33)
  have fw435 := Fld.same W435 FT
  have N435 := Fr.snoc X435 N0 ga
  have K435 : Keep h0 h435 [a, A, B] := KK0.wr W435 (Or.inl (by simp))
  have pre436 := fun (τ : State) kt => pre434 τ (by
    refine XS.iconst X433.here hx rfl (Jvm.hb hby d7_31) ?_
    refine XS.isub X433.here hx rfl (Jvm.hb hby d7_32) rfl ?_
    exact st435 τ kt)
  obtain ⟨T437, X437, e437, st437⟩ := getF X435 hx hZ hown (host := "") (Or.inl (own_W17 hw)) Via.refl e435 fw435 (g := (mkF m 1 #[.val (.ref a), .val (.int xs)] [(.ref a)])) rfl rfl (Jvm.hb hby d7_1)
  have pre438 := fun (τ : State) kt => pre436 τ (by
    refine XS.goto X435.here hx rfl (pc0 := 36) (pc' := 0) rfl (Jvm.hb hby d7_36) (by decide) (by decide) ?_
    refine XS.aloadN X435.here hx rfl (Jvm.hb hby d7_0) rfl rfl ?_
    exact st437 τ kt)
  have f440 := (FH.other W435 (Or.inr (slot_ne (Or.inl (own_W16 hw)) (Or.inl (own_W18 hw)) (by decide) (t := .int) (t' := .int) (by decide) (by decide))))
  obtain ⟨T439, X439, e439, st439⟩ := getF X437 hx hZ hown (host := "") (Or.inl (own_W15 hw)) Via.refl e437 f440 (g := (mkF m 5 #[.val (.ref a), .val (.int xs)] [(.ref a), (.int (2 : Int32))])) rfl rfl (Jvm.hb hby d7_5)
  have pre441 := fun (τ : State) kt => pre438 τ (by
    refine XS.aloadN X437.here hx rfl (Jvm.hb hby d7_4) rfl rfl ?_
    exact st439 τ kt)
  have f443 := (FS.other W435 (Or.inr (slot_ne (Or.inr (own_W11 hw)) (Or.inl (own_W18 hw)) (by decide) (t := (.array .int)) (t' := .int) (by decide) (by decide))))
  obtain ⟨T442, X442, e442, st442⟩ := getF X439 hx hZ hown (host := "") (Or.inl (own_W10 hw)) Via.refl e439 f443 (g := (mkF m 12 #[.val (.ref a), .val (.int xs)] [(.ref a)])) rfl rfl (Jvm.hb hby d7_12)
  have pre444 := fun (τ : State) kt => pre441 τ (by
    refine XS.icmpNo X439.here hx rfl (Jvm.hb hby d7_8) rfl (tlt (by decide)).2.2.2 ?_
    refine XS.aloadN X439.here hx rfl (Jvm.hb hby d7_11) rfl rfl ?_
    exact st442 τ kt)
  obtain ⟨T445, X445, e445, st445⟩ := getF X442 hx hZ hown (host := "") (Or.inl (own_W17 hw)) Via.refl e442 fw435 (g := (mkF m 16 #[.val (.ref a), .val (.int xs)] [(.ref a), (.ref A)])) rfl rfl (Jvm.hb hby d7_16)
  have pre446 := fun (τ : State) kt => pre444 τ (by
    refine XS.aloadN X442.here hx rfl (Jvm.hb hby d7_15) rfl rfl ?_
    exact st445 τ kt)
  have f447 := VS.other W435 (Ne.symm naA)
  obtain ⟨cl448, Ar448, q448, S448, M448, H448, U448⟩ := id f447
  have in448 : ¬ ((1 : Int32) < 0 ∨ cl448.slots.size ≤ ((1 : Int32)).toNatClampNeg) := inb_of S448 ⟨by decide, by decide⟩
  have f449 := (FV.other W435 (Or.inr (slot_ne (Or.inr (own_W14 hw)) (Or.inl (own_W18 hw)) (by decide) (t := (.array .double)) (t' := .int) (by decide) (by decide))))
  have f450 := VV.other W435 (Ne.symm naB)
  have pre451 := fun (τ : State) kt => pre446 τ (by
    refine XS.iconst X445.here hx rfl (Jvm.hb hby d7_19) ?_
    refine XS.isub X445.here hx rfl (Jvm.hb hby d7_20) rfl ?_
    refine X445.iaload hx ((congrArg (fun (HH : Heap) => HH[A]?) (e445 : T445.heap = h435)).trans Ar448.1) (State.isArrayOf_alike hZ.alike Ar448.2.1) Ar448.2.2 in448 (H448.at in448 rfl) (g := (mkF m 21 #[.val (.ref a), .val (.int xs)] [(.int (1 : Int32)), (.ref A)])) rfl rfl (Jvm.hb hby d7_21) _ ?_
    refine XS.iloadN X445.here hx rfl (Jvm.hb hby d7_22) rfl ?_
    refine XS.icmpYes X445.here hx rfl (pc0 := 23) (pc' := 39) rfl (Jvm.hb hby d7_23) rfl (flt pc1).2.2.2 (by decide) (by decide) ?_
    exact kt)
  obtain ⟨fs, hrL, hrun, hended, hW, hsame⟩ := X445.leave (v := none) (fun _ => rfl)
  refine ⟨_, _, cast (congrFun hPS _) (pre451 _ ?_), hrun, hended, _, _, rfl, ?_, ⟨_, rfl⟩, hW, hsame.mono (by decide) (by decide)⟩
  · show Steps p.tables e below (T445.setTop (mkF m 39 #[.val (.ref a), .val (.int xs)] [])) _
    exact X445.returnOut hx Bd.returns (Jvm.hb hby d7_39) hrL
  · show QC Z a A B kA kB (1 : Int32) (2 : Int32) [(.int s0), (.int s1), (.int s2)] [(.double v0), (.double v1), (.double v2)] h0 n0 _ T445.heap _
    rw [e445]
    exact ⟨rfl, N435, K435, f443, f449, f440, fw435, f447, f450⟩
set_option maxRecDepth 65536 in
set_option maxHeartbeats 40000000 in
theorem rmMax_12 (l : Launch) (Z : State) (a0 : Array Value) (hw : ∀ d ∈ tables_1, d.before a0 Z = true) (ws : List Jvm.Cond) (a : Addr) (A B : Addr) (kA kB : ClassId) (s0 s1 s2 : Int32) (v0 v1 v2 : UInt64) (h0 : Heap) (n0 : Nat) (Z0 : n0 ≤ h0.size) (E7 : Exa Z h0 a own_CM) (FS : Fld Z h0 a own_CM "samples" "[I" (.ref A)) (FV : Fld Z h0 a own_CM "values" "[D" (.ref B)) (FH : Fld Z h0 a own_CM "head" "I" (.int (1 : Int32))) (FT : Fld Z h0 a own_CM "tail" "I" (.int (2 : Int32))) (VS : Arv Z h0 A kA .int (3 : Int32) [(.int s0), (.int s1), (.int s2)] (.int (0 : Int32))) (VV : Arv Z h0 B kB .double (3 : Int32) [(.double v0), (.double v1), (.double v2)] (.double (0 : UInt64))) (naA : a ≠ A) (naB : a ≠ B) (nAB : A ≠ B) (ga : n0 ≤ a) (gA : n0 ≤ A) (gB : n0 ≤ B)  :
    MetFree l (⟨"com/example/counterpath/counterpath/core/CappedMaximum", "maximum", "()D"⟩ : MethodName) (head1 (Jvm.Cond.code (⟨"com/example/counterpath/counterpath/core/CappedMaximum", "maximum", "()D"⟩ : MethodName) prog_3_method_5_code 1 (some .double) :: ws) ({ frames := 0, cells := 0, slots := 0, locals := 0 } : Room)) (fun α U => α = #[(.ref a)] ∧ Z.Warmed39 U.vm ∧ U.heap = h0) (fun _ _ _ _ _ => True) (fun _ U ω U' => ∃ ν Λ, ω = .returned ν ∧ QD v1 h0 n0 ν U'.heap Λ ∧ FrameEnd U ω U' Λ ({ frames := 0, cells := 0, slots := 0, locals := 0 } : Room).cells ({ frames := 0, cells := 0, slots := 0, locals := 0 } : Room).slots) := by
  refine MetFree.of_bodySF (plainFor_of_name own_pn_com_example_counterpath_counterpath_core_CappedMaximum) hisR ?_
  intro p e s m args below meth c s₁ Bd hml0 hP hK
  obtain ⟨rfl, hZ, hh⟩ := hP
  have hx := Bd.exec
  have hby := Bd.bytes
  have hml : c.maxLocals = 1 := hml0
  have hown : s.vm.findClass "com/example/counterpath/counterpath/core/CappedMaximum" = some m.cls := findClass_of_methodNamed Bd.named
  have hnm := (name_of_methodNamed Bd.named Bd.method).1
  have X0 : Stand p l e ({ frames := 0, cells := 0, slots := 0, locals := 0 } : Room) s m #[(.ref a)] below meth c s₁ [] 0 0 := Stand.of_body Bd
  have e0 : s₁.heap = h0 := by rw [← hh, Bd.state]; rfl
  have N0 := Fr.nil n0
  have KK0 : Keep h0 h0 [] := Keep.refl h0 []
  obtain ⟨PS, hPS⟩ : ∃ P : State → Prop, P = fun τ => Steps p.tables e below (s₁.setTop (entryFrame m #[(.ref a)] 1)) τ := ⟨_, rfl⟩
  have pre0 : ∀ τ, Steps p.tables e below (s₁.setTop (mkF m 0 #[.val (.ref a)] [])) τ → PS τ := by rw [hPS]; exact fun τ κ => castTop (own_ef4 m a) κ
  obtain ⟨T454, X454, e454, st454⟩ := getF X0 hx hZ hown (host := "") (Or.inl (own_W17 hw)) Via.refl e0 FT (g := (mkF m 1 #[.val (.ref a)] [(.ref a)])) rfl rfl (Jvm.hb hby d4_1)
  have pre455 := fun (τ : State) kt => pre0 τ (by
    refine XS.aloadN X0.here hx rfl (Jvm.hb hby d4_0) rfl rfl ?_
    exact st454 τ kt)
  obtain ⟨T456, X456, e456, st456⟩ := getF X454 hx hZ hown (host := "") (Or.inl (own_W15 hw)) Via.refl e454 FH (g := (mkF m 5 #[.val (.ref a)] [(.ref a), (.int (2 : Int32))])) rfl rfl (Jvm.hb hby d4_5)
  have pre457 := fun (τ : State) kt => pre455 τ (by
    refine XS.aloadN X454.here hx rfl (Jvm.hb hby d4_4) rfl rfl ?_
    exact st456 τ kt)
  obtain ⟨T458, X458, e458, st458⟩ := getF X456 hx hZ hown (host := "") (Or.inl (own_W13 hw)) Via.refl e456 FV (g := (mkF m 12 #[.val (.ref a)] [(.ref a)])) rfl rfl (Jvm.hb hby d4_12)
  have pre459 := fun (τ : State) kt => pre457 τ (by
    refine XS.icmpNo X456.here hx rfl (Jvm.hb hby d4_8) rfl (tlt (by decide)).2.2.2 ?_
    refine XS.aloadN X456.here hx rfl (Jvm.hb hby d4_11) rfl rfl ?_
    exact st458 τ kt)
  obtain ⟨T460, X460, e460, st460⟩ := getF X458 hx hZ hown (host := "") (Or.inl (own_W17 hw)) Via.refl e458 FT (g := (mkF m 16 #[.val (.ref a)] [(.ref a), (.ref B)])) rfl rfl (Jvm.hb hby d4_16)
  have pre461 := fun (τ : State) kt => pre459 τ (by
    refine XS.aloadN X458.here hx rfl (Jvm.hb hby d4_15) rfl rfl ?_
    exact st460 τ kt)
  obtain ⟨cl462, Ar462, q462, S462, M462, H462, U462⟩ := id VV
  have in462 : ¬ ((1 : Int32) < 0 ∨ cl462.slots.size ≤ ((1 : Int32)).toNatClampNeg) := inb_of S462 ⟨by decide, by decide⟩
  have pre463 := fun (τ : State) kt => pre461 τ (by
    refine XS.iconst X460.here hx rfl (Jvm.hb hby d4_19) ?_
    refine XS.isub X460.here hx rfl (Jvm.hb hby d4_20) rfl ?_
    refine X460.daload hx ((congrArg (fun (HH : Heap) => HH[B]?) (e460 : T460.heap = h0)).trans Ar462.1) (State.isArrayOf_alike hZ.alike Ar462.2.1) Ar462.2.2 in462 (H462.at in462 rfl) (g := (mkF m 21 #[.val (.ref a)] [(.int (1 : Int32)), (.ref B)])) rfl rfl (Jvm.hb hby d4_21) _ ?_
    refine XS.goto X460.here hx rfl (pc0 := 22) (pc' := 28) rfl (Jvm.hb hby d4_22) (by decide) (by decide) ?_
    exact kt)
  obtain ⟨fs, hrL, hrun, hended, hW, hsame⟩ := X460.leave (v := some (.double v1)) (fun h => by rw [Bd.returns] at h; cases h)
  refine ⟨_, _, cast (congrFun hPS _) (pre463 _ ?_), hrun, hended, _, _, rfl, ?_, ⟨_, rfl⟩, hW, hsame.mono (by decide) (by decide)⟩
  · show Steps p.tables e below (T460.setTop (mkF m 28 #[.val (.ref a)] [(.double v1)])) _
    exact own_retD X460 hx Bd.returns (Jvm.hb hby d4_28) hrL
  · show QD v1 h0 n0 _ T460.heap _
    rw [e460]
    exact ⟨rfl, N0, rfl⟩
set_option maxRecDepth 65536 in
set_option maxHeartbeats 40000000 in
theorem rmCap_13_xk (l : Launch) (Z : State) (a0 : Array Value) (hw : ∀ d ∈ tables_1, d.before a0 Z = true) (ws : List Jvm.Cond) (a : Addr) (xv : UInt64) (A B : Addr) (kA kB : ClassId) (s0 s1 s2 : Int32) (v0 v1 v2 : UInt64) (h0 : Heap) (n0 : Nat) (Z0 : n0 ≤ h0.size) (E7 : Exa Z h0 a own_CM) (FS : Fld Z h0 a own_CM "samples" "[I" (.ref A)) (FV : Fld Z h0 a own_CM "values" "[D" (.ref B)) (FH : Fld Z h0 a own_CM "head" "I" (.int (1 : Int32))) (FT : Fld Z h0 a own_CM "tail" "I" (.int (3 : Int32))) (VS : Arv Z h0 A kA .int (3 : Int32) [(.int s0), (.int s1), (.int s2)] (.int (0 : Int32))) (VV : Arv Z h0 B kB .double (3 : Int32) [(.double v0), (.double v1), (.double v2)] (.double (0 : UInt64))) (naA : a ≠ A) (naB : a ≠ B) (nAB : A ≠ B) (ga : n0 ≤ a) (gA : n0 ≤ A) (gB : n0 ≤ B) (pc0 : cmpValue (FP.dcmp v1 xv) .l < 0) (pc1 : ¬ ((0 : Int32) < cmpValue (FP.dcmp v2 xv) .l)) :
    MetFree l (⟨"com/example/counterpath/counterpath/core/CappedMaximum", "cap", "(D)V"⟩ : MethodName) (head1 (Jvm.Cond.code (⟨"com/example/counterpath/counterpath/core/CappedMaximum", "cap", "(D)V"⟩ : MethodName) prog_3_method_3_code 3 none :: ws) ({ frames := 0, cells := 0, slots := 0, locals := 0 } : Room)) (fun α U => α = #[(.ref a), (.double xv)] ∧ Z.Warmed39 U.vm ∧ U.heap = h0) (fun _ _ _ _ _ => True) (fun _ U ω U' => ∃ ν Λ, ω = .returned ν ∧ QC Z a A B kA kB (1 : Int32) (3 : Int32) [(.int s0), (.int s1), (.int s2)] [(.double v0), (.double v1), (.double v2)] h0 n0 ν U'.heap Λ ∧ FrameEnd U ω U' Λ ({ frames := 0, cells := 0, slots := 0, locals := 0 } : Room).cells ({ frames := 0, cells := 0, slots := 0, locals := 0 } : Room).slots) := by
  refine MetFree.of_bodySF (plainFor_of_name own_pn_com_example_counterpath_counterpath_core_CappedMaximum) hisR ?_
  intro p e s m args below meth c s₁ Bd hml0 hP hK
  obtain ⟨rfl, hZ, hh⟩ := hP
  have hx := Bd.exec
  have hby := Bd.bytes
  have hml : c.maxLocals = 3 := hml0
  have hown : s.vm.findClass "com/example/counterpath/counterpath/core/CappedMaximum" = some m.cls := findClass_of_methodNamed Bd.named
  have hnm := (name_of_methodNamed Bd.named Bd.method).1
  have X0 : Stand p l e ({ frames := 0, cells := 0, slots := 0, locals := 0 } : Room) s m #[(.ref a), (.double xv)] below meth c s₁ [] 0 0 := Stand.of_body Bd
  have e0 : s₁.heap = h0 := by rw [← hh, Bd.state]; rfl
  have N0 := Fr.nil n0
  have KK0 : Keep h0 h0 [a, A, B] := Keep.refl h0 [a, A, B]
  obtain ⟨PS, hPS⟩ : ∃ P : State → Prop, P = fun τ => Steps p.tables e below (s₁.setTop (entryFrame m #[(.ref a), (.double xv)] 3)) τ := ⟨_, rfl⟩
  have pre0 : ∀ τ, Steps p.tables e below (s₁.setTop (mkF m 0 #[.val (.ref a), .val (.double xv), .second] [])) τ → PS τ := by rw [hPS]; exact fun τ κ => castTop (own_ef3 m a xv) κ
  obtain ⟨T470, X470, e470, st470⟩ := getF X0 hx hZ hown (host := "") (Or.inl (own_W17 hw)) Via.refl e0 FT (g := (mkF m 1 #[.val (.ref a), .val (.double xv), .second] [(.ref a)])) rfl rfl (Jvm.hb hby d3_1)
  have pre471 := fun (τ : State) kt => pre0 τ (by
    refine XS.aloadN X0.here hx rfl (Jvm.hb hby d3_0) rfl rfl ?_
    exact st470 τ kt)
  obtain ⟨T472, X472, e472, st472⟩ := getF X470 hx hZ hown (host := "") (Or.inl (own_W15 hw)) Via.refl e470 FH (g := (mkF m 5 #[.val (.ref a), .val (.double xv), .second] [(.ref a), (.int (3 : Int32))])) rfl rfl (Jvm.hb hby d3_5)
  have pre473 := fun (τ : State) kt => pre471 τ (by
    refine XS.aloadN X470.here hx rfl (Jvm.hb hby d3_4) rfl rfl ?_
    exact st472 τ kt)
  obtain ⟨T474, X474, e474, st474⟩ := getF X472 hx hZ hown (host := "") (Or.inl (own_W13 hw)) Via.refl e472 FV (g := (mkF m 14 #[.val (.ref a), .val (.double xv), .second] [(.ref a)])) rfl rfl (Jvm.hb hby d3_14)
  have pre475 := fun (τ : State) kt => pre473 τ (by
    refine XS.isub X472.here hx rfl (Jvm.hb hby d3_8) rfl ?_
    refine XS.iconst X472.here hx rfl (Jvm.hb hby d3_9) ?_
    refine XS.icmpNo X472.here hx rfl (Jvm.hb hby d3_10) rfl (flt (by decide)).1 ?_
    refine XS.aloadN X472.here hx rfl (Jvm.hb hby d3_13) rfl rfl ?_
    exact st474 τ kt)
  obtain ⟨T476, X476, e476, st476⟩ := getF X474 hx hZ hown (host := "") (Or.inl (own_W17 hw)) Via.refl e474 FT (g := (mkF m 18 #[.val (.ref a), .val (.double xv), .second] [(.ref a), (.ref B)])) rfl rfl (Jvm.hb hby d3_18)
  have pre477 := fun (τ : State) kt => pre475 τ (by
    refine XS.aloadN X474.here hx rfl (Jvm.hb hby d3_17) rfl rfl ?_
    exact st476 τ kt)
  obtain ⟨cl478, Ar478, q478, S478, M478, H478, U478⟩ := id VV
  have in478 : ¬ ((1 : Int32) < 0 ∨ cl478.slots.size ≤ ((1 : Int32)).toNatClampNeg) := inb_of S478 ⟨by decide, by decide⟩
  obtain ⟨T479, X479, e479, st479⟩ := getF X476 hx hZ hown (host := "") (Or.inl (own_W17 hw)) Via.refl e476 FT (g := (mkF m 43 #[.val (.ref a), .val (.double xv), .second] [(.ref a)])) rfl rfl (Jvm.hb hby d3_43)
  have pre480 := fun (τ : State) kt => pre477 τ (by
    refine XS.iconst X476.here hx rfl (Jvm.hb hby d3_21) ?_
    refine XS.isub X476.here hx rfl (Jvm.hb hby d3_22) rfl ?_
    refine X476.daload hx ((congrArg (fun (HH : Heap) => HH[B]?) (e476 : T476.heap = h0)).trans Ar478.1) (State.isArrayOf_alike hZ.alike Ar478.2.1) Ar478.2.2 in478 (H478.at in478 rfl) (g := (mkF m 23 #[.val (.ref a), .val (.double xv), .second] [(.int (1 : Int32)), (.ref B)])) rfl rfl (Jvm.hb hby d3_23) _ ?_
    refine own_dloadN X476.here hx rfl (Jvm.hb hby d3_24) rfl ?_
    refine own_dcmp X476.here hx rfl (Jvm.hb hby d3_25) rfl ?_
    refine XS.ifYes X476.here hx rfl (pc0 := 26) (pc' := 42) rfl (Jvm.hb hby d3_26) rfl ((if0 _ _).trans (tlt pc0).1) (by decide) (by decide) ?_
    refine XS.aloadN X476.here hx rfl (Jvm.hb hby d3_42) rfl rfl ?_
    exact st479 τ kt)
  obtain ⟨T481, X481, e481, st481⟩ := getF X479 hx hZ hown (host := "") (Or.inl (own_W15 hw)) Via.refl e479 FH (g := (mkF m 47 #[.val (.ref a), .val (.double xv), .second] [(.ref a), (.int (3 : Int32))])) rfl rfl (Jvm.hb hby d3_47)
  have pre482 := fun (τ : State) kt => pre480 τ (by
    refine XS.aloadN X479.here hx rfl (Jvm.hb hby d3_46) rfl rfl ?_
    exact st481 τ kt)
  obtain ⟨T483, X483, e483, st483⟩ := getF X481 hx hZ hown (host := "") (Or.inl (own_W13 hw)) Via.refl e481 FV (g := (mkF m 54 #[.val (.ref a), .val (.double xv), .second] [(.ref a)])) rfl rfl (Jvm.hb hby d3_54)
  have pre484 := fun (τ : State) kt => pre482 τ (by
    refine XS.icmpNo X481.here hx rfl (Jvm.hb hby d3_50) rfl (tlt (by decide)).2.2.2 ?_
    refine XS.aloadN X481.here hx rfl (Jvm.hb hby d3_53) rfl rfl ?_
    exact st483 τ kt)
  obtain ⟨T485, X485, e485, st485⟩ := getF X483 hx hZ hown (host := "") (Or.inl (own_W17 hw)) Via.refl e483 FT (g := (mkF m 58 #[.val (.ref a), .val (.double xv), .second] [(.ref a), (.ref B)])) rfl rfl (Jvm.hb hby d3_58)
  have pre486 := fun (τ : State) kt => pre484 τ (by
    refine XS.aloadN X483.here hx rfl (Jvm.hb hby d3_57) rfl rfl ?_
    exact st485 τ kt)
  obtain ⟨cl487, Ar487, q487, S487, M487, H487, U487⟩ := id VV
  have in487 : ¬ ((2 : Int32) < 0 ∨ cl487.slots.size ≤ ((2 : Int32)).toNatClampNeg) := inb_of S487 ⟨by decide, by decide⟩
  have pre488 := fun (τ : State) kt => pre486 τ (by
    refine XS.iconst X485.here hx rfl (Jvm.hb hby d3_61) ?_
    refine XS.isub X485.here hx rfl (Jvm.hb hby d3_62) rfl ?_
    refine X485.daload hx ((congrArg (fun (HH : Heap) => HH[B]?) (e485 : T485.heap = h0)).trans Ar487.1) (State.isArrayOf_alike hZ.alike Ar487.2.1) Ar487.2.2 in487 (H487.at in487 rfl) (g := (mkF m 63 #[.val (.ref a), .val (.double xv), .second] [(.int (2 : Int32)), (.ref B)])) rfl rfl (Jvm.hb hby d3_63) _ ?_
    refine own_dloadN X485.here hx rfl (Jvm.hb hby d3_64) rfl ?_
    refine own_dcmp X485.here hx rfl (Jvm.hb hby d3_65) rfl ?_
    refine XS.ifYes X485.here hx rfl (pc0 := 66) (pc' := 81) rfl (Jvm.hb hby d3_66) rfl ((if0 _ _).trans (flt pc1).2.2.2) (by decide) (by decide) ?_
    exact kt)
  obtain ⟨fs, hrL, hrun, hended, hW, hsame⟩ := X485.leave (v := none) (fun _ => rfl)
  refine ⟨_, _, cast (congrFun hPS _) (pre488 _ ?_), hrun, hended, _, _, rfl, ?_, ⟨_, rfl⟩, hW, hsame.mono (by decide) (by decide)⟩
  · show Steps p.tables e below (T485.setTop (mkF m 81 #[.val (.ref a), .val (.double xv), .second] [])) _
    exact X485.returnOut hx Bd.returns (Jvm.hb hby d3_81) hrL
  · show QC Z a A B kA kB (1 : Int32) (3 : Int32) [(.int s0), (.int s1), (.int s2)] [(.double v0), (.double v1), (.double v2)] h0 n0 _ T485.heap _
    rw [e485]
    exact ⟨rfl, N0, KK0, FS, FV, FH, FT, VS, VV⟩
set_option maxRecDepth 65536 in
set_option maxHeartbeats 40000000 in
theorem rmCap_13_cos (l : Launch) (Z : State) (a0 : Array Value) (hw : ∀ d ∈ tables_1, d.before a0 Z = true) (ws : List Jvm.Cond) (a : Addr) (xv : UInt64) (A B : Addr) (kA kB : ClassId) (s0 s1 s2 : Int32) (v0 v1 v2 : UInt64) (h0 : Heap) (n0 : Nat) (Z0 : n0 ≤ h0.size) (E7 : Exa Z h0 a own_CM) (FS : Fld Z h0 a own_CM "samples" "[I" (.ref A)) (FV : Fld Z h0 a own_CM "values" "[D" (.ref B)) (FH : Fld Z h0 a own_CM "head" "I" (.int (1 : Int32))) (FT : Fld Z h0 a own_CM "tail" "I" (.int (3 : Int32))) (VS : Arv Z h0 A kA .int (3 : Int32) [(.int s0), (.int s1), (.int s2)] (.int (0 : Int32))) (VV : Arv Z h0 B kB .double (3 : Int32) [(.double v0), (.double v1), (.double v2)] (.double (0 : UInt64))) (naA : a ≠ A) (naB : a ≠ B) (nAB : A ≠ B) (ga : n0 ≤ a) (gA : n0 ≤ A) (gB : n0 ≤ B) (pc0 : ¬ (cmpValue (FP.dcmp v1 xv) .l < 0)) (pc2 : (0 : Int32) < cmpValue (FP.dcmp v1 xv) .l) :
    MetFree l (⟨"com/example/counterpath/counterpath/core/CappedMaximum", "cap", "(D)V"⟩ : MethodName) (head1 (Jvm.Cond.code (⟨"com/example/counterpath/counterpath/core/CappedMaximum", "cap", "(D)V"⟩ : MethodName) prog_3_method_3_code 3 none :: ws) ({ frames := 0, cells := 0, slots := 0, locals := 0 } : Room)) (fun α U => α = #[(.ref a), (.double xv)] ∧ Z.Warmed39 U.vm ∧ U.heap = h0) (fun _ _ _ _ _ => True) (fun _ U ω U' => ∃ ν Λ, ω = .returned ν ∧ QC Z a A B kA kB (1 : Int32) (2 : Int32) [(.int s0), (.int s1), (.int s2)] [(.double v0), (.double xv), (.double v2)] h0 n0 ν U'.heap Λ ∧ FrameEnd U ω U' Λ ({ frames := 0, cells := 0, slots := 0, locals := 0 } : Room).cells ({ frames := 0, cells := 0, slots := 0, locals := 0 } : Room).slots) := by
  refine MetFree.of_bodySF (plainFor_of_name own_pn_com_example_counterpath_counterpath_core_CappedMaximum) hisR ?_
  intro p e s m args below meth c s₁ Bd hml0 hP hK
  obtain ⟨rfl, hZ, hh⟩ := hP
  have hx := Bd.exec
  have hby := Bd.bytes
  have hml : c.maxLocals = 3 := hml0
  have hown : s.vm.findClass "com/example/counterpath/counterpath/core/CappedMaximum" = some m.cls := findClass_of_methodNamed Bd.named
  have hnm := (name_of_methodNamed Bd.named Bd.method).1
  have X0 : Stand p l e ({ frames := 0, cells := 0, slots := 0, locals := 0 } : Room) s m #[(.ref a), (.double xv)] below meth c s₁ [] 0 0 := Stand.of_body Bd
  have e0 : s₁.heap = h0 := by rw [← hh, Bd.state]; rfl
  have N0 := Fr.nil n0
  have KK0 : Keep h0 h0 [a, A, B] := Keep.refl h0 [a, A, B]
  obtain ⟨PS, hPS⟩ : ∃ P : State → Prop, P = fun τ => Steps p.tables e below (s₁.setTop (entryFrame m #[(.ref a), (.double xv)] 3)) τ := ⟨_, rfl⟩
  have pre0 : ∀ τ, Steps p.tables e below (s₁.setTop (mkF m 0 #[.val (.ref a), .val (.double xv), .second] [])) τ → PS τ := by rw [hPS]; exact fun τ κ => castTop (own_ef3 m a xv) κ
  obtain ⟨T519, X519, e519, st519⟩ := getF X0 hx hZ hown (host := "") (Or.inl (own_W17 hw)) Via.refl e0 FT (g := (mkF m 1 #[.val (.ref a), .val (.double xv), .second] [(.ref a)])) rfl rfl (Jvm.hb hby d3_1)
  have pre520 := fun (τ : State) kt => pre0 τ (by
    refine XS.aloadN X0.here hx rfl (Jvm.hb hby d3_0) rfl rfl ?_
    exact st519 τ kt)
  obtain ⟨T521, X521, e521, st521⟩ := getF X519 hx hZ hown (host := "") (Or.inl (own_W15 hw)) Via.refl e519 FH (g := (mkF m 5 #[.val (.ref a), .val (.double xv), .second] [(.ref a), (.int (3 : Int32))])) rfl rfl (Jvm.hb hby d3_5)
  have pre522 := fun (τ : State) kt => pre520 τ (by
    refine XS.aloadN X519.here hx rfl (Jvm.hb hby d3_4) rfl rfl ?_
    exact st521 τ kt)
  obtain ⟨T523, X523, e523, st523⟩ := getF X521 hx hZ hown (host := "") (Or.inl (own_W13 hw)) Via.refl e521 FV (g := (mkF m 14 #[.val (.ref a), .val (.double xv), .second] [(.ref a)])) rfl rfl (Jvm.hb hby d3_14)
  have pre524 := fun (τ : State) kt => pre522 τ (by
    refine XS.isub X521.here hx rfl (Jvm.hb hby d3_8) rfl ?_
    refine XS.iconst X521.here hx rfl (Jvm.hb hby d3_9) ?_
    refine XS.icmpNo X521.here hx rfl (Jvm.hb hby d3_10) rfl (flt (by decide)).1 ?_
    refine XS.aloadN X521.here hx rfl (Jvm.hb hby d3_13) rfl rfl ?_
    exact st523 τ kt)
  obtain ⟨T525, X525, e525, st525⟩ := getF X523 hx hZ hown (host := "") (Or.inl (own_W17 hw)) Via.refl e523 FT (g := (mkF m 18 #[.val (.ref a), .val (.double xv), .second] [(.ref a), (.ref B)])) rfl rfl (Jvm.hb hby d3_18)
  have pre526 := fun (τ : State) kt => pre524 τ (by
    refine XS.aloadN X523.here hx rfl (Jvm.hb hby d3_17) rfl rfl ?_
    exact st525 τ kt)
  obtain ⟨cl527, Ar527, q527, S527, M527, H527, U527⟩ := id VV
  have in527 : ¬ ((1 : Int32) < 0 ∨ cl527.slots.size ≤ ((1 : Int32)).toNatClampNeg) := inb_of S527 ⟨by decide, by decide⟩
  obtain ⟨T528, X528, e528, st528⟩ := getF X525 hx hZ hown (host := "") (Or.inl (own_W17 hw)) Via.refl e525 FT (g := (mkF m 31 #[.val (.ref a), .val (.double xv), .second] [(.ref a), (.ref a)])) rfl rfl (Jvm.hb hby d3_31)
  have pre529 := fun (τ : State) kt => pre526 τ (by
    refine XS.iconst X525.here hx rfl (Jvm.hb hby d3_21) ?_
    refine XS.isub X525.here hx rfl (Jvm.hb hby d3_22) rfl ?_
    refine X525.daload hx ((congrArg (fun (HH : Heap) => HH[B]?) (e525 : T525.heap = h0)).trans Ar527.1) (State.isArrayOf_alike hZ.alike Ar527.2.1) Ar527.2.2 in527 (H527.at in527 rfl) (g := (mkF m 23 #[.val (.ref a), .val (.double xv), .second] [(.int (1 : Int32)), (.ref B)])) rfl rfl (Jvm.hb hby d3_23) _ ?_
    refine own_dloadN X525.here hx rfl (Jvm.hb hby d3_24) rfl ?_
    refine own_dcmp X525.here hx rfl (Jvm.hb hby d3_25) rfl ?_
    refine XS.ifNo X525.here hx rfl (Jvm.hb hby d3_26) rfl ((if0 _ _).trans (flt pc0).1) ?_
    refine XS.aloadN X525.here hx rfl (Jvm.hb hby d3_29) rfl rfl ?_
    refine XS.dup X525.here hx rfl (Jvm.hb hby d3_30) rfl rfl ?_
    exact st528 τ kt)
  obtain ⟨T530, h530, X530, e530, W530, st530⟩ := putF X528 hx hZ hown (host := "") (Or.inl (own_W17 hw)) Via.refl e528 FT E7 (Or.inl (own_W18 hw)) (own_W1 hw) (ty := .int) (by decide) rfl rfl (g := (mkF m 36 #[.val (.ref a), .val (.double xv), .second] [(.int (2 : Int32)), (.ref a)])) rfl rfl (Jvm.hb hby d3_36)
  have fw530 := Fld.same W530 FT
  have N530 := Fr.snoc X530 N0 ga
  have K530 : Keep h0 h530 [a, A, B] := KK0.wr W530 (Or.inl (by simp))
  have pre531 := fun (τ : State) kt => pre529 τ (by
    refine XS.iconst X528.here hx rfl (Jvm.hb hby d3_34) ?_
    refine XS.isub X528.here hx rfl (Jvm.hb hby d3_35) rfl ?_
    exact st530 τ kt)
  obtain ⟨T532, X532, e532, st532⟩ := getF X530 hx hZ hown (host := "") (Or.inl (own_W17 hw)) Via.refl e530 fw530 (g := (mkF m 1 #[.val (.ref a), .val (.double xv), .second] [(.ref a)])) rfl rfl (Jvm.hb hby d3_1)
  have pre533 := fun (τ : State) kt => pre531 τ (by
    refine XS.goto X530.here hx rfl (pc0 := 39) (pc' := 0) rfl (Jvm.hb hby d3_39) (by decide) (by decide) ?_
    refine XS.aloadN X530.here hx rfl (Jvm.hb hby d3_0) rfl rfl ?_
    exact st532 τ kt)
  have f535 := (FH.other W530 (Or.inr (slot_ne (Or.inl (own_W16 hw)) (Or.inl (own_W18 hw)) (by decide) (t := .int) (t' := .int) (by decide) (by decide))))
  obtain ⟨T534, X534, e534, st534⟩ := getF X532 hx hZ hown (host := "") (Or.inl (own_W15 hw)) Via.refl e532 f535 (g := (mkF m 5 #[.val (.ref a), .val (.double xv), .second] [(.ref a), (.int (2 : Int32))])) rfl rfl (Jvm.hb hby d3_5)
  have pre536 := fun (τ : State) kt => pre533 τ (by
    refine XS.aloadN X532.here hx rfl (Jvm.hb hby d3_4) rfl rfl ?_
    exact st534 τ kt)
  obtain ⟨T537, X537, e537, st537⟩ := getF X534 hx hZ hown (host := "") (Or.inl (own_W17 hw)) Via.refl e534 fw530 (g := (mkF m 43 #[.val (.ref a), .val (.double xv), .second] [(.ref a)])) rfl rfl (Jvm.hb hby d3_43)
  have pre538 := fun (τ : State) kt => pre536 τ (by
    refine XS.isub X534.here hx rfl (Jvm.hb hby d3_8) rfl ?_
    refine XS.iconst X534.here hx rfl (Jvm.hb hby d3_9) ?_
    refine XS.icmpYes X534.here hx rfl (pc0 := 10) (pc' := 42) rfl (Jvm.hb hby d3_10) rfl (tlt (by decide)).1 (by decide) (by decide) ?_
    refine XS.aloadN X534.here hx rfl (Jvm.hb hby d3_42) rfl rfl ?_
    exact st537 τ kt)
  obtain ⟨T539, X539, e539, st539⟩ := getF X537 hx hZ hown (host := "") (Or.inl (own_W15 hw)) Via.refl e537 f535 (g := (mkF m 47 #[.val (.ref a), .val (.double xv), .second] [(.ref a), (.int (2 : Int32))])) rfl rfl (Jvm.hb hby d3_47)
  have pre540 := fun (τ : State) kt => pre538 τ (by
    refine XS.aloadN X537.here hx rfl (Jvm.hb hby d3_46) rfl rfl ?_
    exact st539 τ kt)
  have f542 := (FV.other W530 (Or.inr (slot_ne (Or.inr (own_W14 hw)) (Or.inl (own_W18 hw)) (by decide) (t := (.array .double)) (t' := .int) (by decide) (by decide))))
  obtain ⟨T541, X541, e541, st541⟩ := getF X539 hx hZ hown (host := "") (Or.inl (own_W13 hw)) Via.refl e539 f542 (g := (mkF m 54 #[.val (.ref a), .val (.double xv), .second] [(.ref a)])) rfl rfl (Jvm.hb hby d3_54)
  have pre543 := fun (τ : State) kt => pre540 τ (by
    refine XS.icmpNo X539.here hx rfl (Jvm.hb hby d3_50) rfl (tlt (by decide)).2.2.2 ?_
    refine XS.aloadN X539.here hx rfl (Jvm.hb hby d3_53) rfl rfl ?_
    exact st541 τ kt)
  obtain ⟨T544, X544, e544, st544⟩ := getF X541 hx hZ hown (host := "") (Or.inl (own_W17 hw)) Via.refl e541 fw530 (g := (mkF m 58 #[.val (.ref a), .val (.double xv), .second] [(.ref a), (.ref B)])) rfl rfl (Jvm.hb hby d3_58)
  have pre545 := fun (τ : State) kt => pre543 τ (by
    refine XS.aloadN X541.here hx rfl (Jvm.hb hby d3_57) rfl rfl ?_
    exact st544 τ kt)
  have f546 := VV.other W530 (Ne.symm naB)
  obtain ⟨cl547, Ar547, q547, S547, M547, H547, U547⟩ := id f546
  have in547 : ¬ ((1 : Int32) < 0 ∨ cl547.slots.size ≤ ((1 : Int32)).toNatClampNeg) := inb_of S547 ⟨by decide, by decide⟩
  obtain ⟨T548, X548, e548, st548⟩ := getF X544 hx hZ hown (host := "") (Or.inl (own_W13 hw)) Via.refl e544 f542 (g := (mkF m 70 #[.val (.ref a), .val (.double xv), .second] [(.ref a)])) rfl rfl (Jvm.hb hby d3_70)
  have pre549 := fun (τ : State) kt => pre545 τ (by
    refine XS.iconst X544.here hx rfl (Jvm.hb hby d3_61) ?_
    refine XS.isub X544.here hx rfl (Jvm.hb hby d3_62) rfl ?_
    refine X544.daload hx ((congrArg (fun (HH : Heap) => HH[B]?) (e544 : T544.heap = h530)).trans Ar547.1) (State.isArrayOf_alike hZ.alike Ar547.2.1) Ar547.2.2 in547 (H547.at in547 rfl) (g := (mkF m 63 #[.val (.ref a), .val (.double xv), .second] [(.int (1 : Int32)), (.ref B)])) rfl rfl (Jvm.hb hby d3_63) _ ?_
    refine own_dloadN X544.here hx rfl (Jvm.hb hby d3_64) rfl ?_
    refine own_dcmp X544.here hx rfl (Jvm.hb hby d3_65) rfl ?_
    refine XS.ifNo X544.here hx rfl (Jvm.hb hby d3_66) rfl ((if0 _ _).trans (tlt pc2).2.2.2) ?_
    refine XS.aloadN X544.here hx rfl (Jvm.hb hby d3_69) rfl rfl ?_
    exact st548 τ kt)
  obtain ⟨T550, X550, e550, st550⟩ := getF X548 hx hZ hown (host := "") (Or.inl (own_W17 hw)) Via.refl e548 fw530 (g := (mkF m 74 #[.val (.ref a), .val (.double xv), .second] [(.ref a), (.ref B)])) rfl rfl (Jvm.hb hby d3_74)
  have pre551 := fun (τ : State) kt => pre549 τ (by
    refine XS.aloadN X548.here hx rfl (Jvm.hb hby d3_73) rfl rfl ?_
    exact st550 τ kt)
  obtain ⟨cl552, Ar552, q552, S552, M552, H552, U552⟩ := id f546
  obtain ⟨T553, h553, X553, e553, W553, st553⟩ := own_stD X550 hx hZ e550 Ar552 (j := (1 : Int32)) (inb_of S552 ⟨by decide, by decide⟩) (g := (mkF m 80 #[.val (.ref a), .val (.double xv), .second] [(.double xv), (.int (1 : Int32)), (.ref B)])) rfl rfl (Jvm.hb hby d3_80)
  have V553 : Arv Z h553 B kB .double (3 : Int32) [(.double v0), (.double xv), (.double v2)] (.double (0 : UInt64)) := Arv.set Ar552 q552 S552 M552 H552 U552 rfl W553 1 rfl (Nat.le_of_ble_eq_true rfl)
  have N553 := Fr.snoc X553 N530 gB
  have K553 : Keep h0 h553 [a, A, B] := K530.wr W553 (Or.inl (by simp))
  have pre554 := fun (τ : State) kt => pre551 τ (by
    refine XS.iconst X550.here hx rfl (Jvm.hb hby d3_77) ?_
    refine XS.isub X550.here hx rfl (Jvm.hb hby d3_78) rfl ?_
    refine own_dloadN X550.here hx rfl (Jvm.hb hby d3_79) rfl ?_
    exact st553 τ kt)
  have f555 := (FS.other W530 (Or.inr (slot_ne (Or.inr (own_W11 hw)) (Or.inl (own_W18 hw)) (by decide) (t := (.array .int)) (t' := .int) (by decide) (by decide))))
  have f556 := (f555.other W553 (Or.inl naB))
  have f557 := (f542.other W553 (Or.inl naB))
  have f558 := (f535.other W553 (Or.inl naB))
  have f559 := (fw530.other W553 (Or.inl naB))
  have f560 := VS.other W530 (Ne.symm naA)
  have f561 := f560.other W553 nAB
  obtain ⟨fs, hrL, hrun, hended, hW, hsame⟩ := X553.leave (v := none) (fun _ => rfl)
  refine ⟨_, _, cast (congrFun hPS _) (pre554 _ ?_), hrun, hended, _, _, rfl, ?_, ⟨_, rfl⟩, hW, hsame.mono (by decide) (by decide)⟩
  · show Steps p.tables e below (T553.setTop (mkF m 81 #[.val (.ref a), .val (.double xv), .second] [])) _
    exact X553.returnOut hx Bd.returns (Jvm.hb hby d3_81) hrL
  · show QC Z a A B kA kB (1 : Int32) (2 : Int32) [(.int s0), (.int s1), (.int s2)] [(.double v0), (.double xv), (.double v2)] h0 n0 _ T553.heap _
    rw [e553]
    exact ⟨rfl, N553, K553, f556, f557, f558, f559, f561, V553⟩
set_option maxRecDepth 65536 in
set_option maxHeartbeats 40000000 in
theorem rmRem_12_x (l : Launch) (Z : State) (a0 : Array Value) (hw : ∀ d ∈ tables_1, d.before a0 Z = true) (ws : List Jvm.Cond) (a : Addr) (xs : Int32) (A B : Addr) (kA kB : ClassId) (s0 s1 s2 : Int32) (v0 v1 v2 : UInt64) (h0 : Heap) (n0 : Nat) (Z0 : n0 ≤ h0.size) (E7 : Exa Z h0 a own_CM) (FS : Fld Z h0 a own_CM "samples" "[I" (.ref A)) (FV : Fld Z h0 a own_CM "values" "[D" (.ref B)) (FH : Fld Z h0 a own_CM "head" "I" (.int (1 : Int32))) (FT : Fld Z h0 a own_CM "tail" "I" (.int (2 : Int32))) (VS : Arv Z h0 A kA .int (3 : Int32) [(.int s0), (.int s1), (.int s2)] (.int (0 : Int32))) (VV : Arv Z h0 B kB .double (3 : Int32) [(.double v0), (.double v1), (.double v2)] (.double (0 : UInt64))) (naA : a ≠ A) (naB : a ≠ B) (nAB : A ≠ B) (ga : n0 ≤ a) (gA : n0 ≤ A) (gB : n0 ≤ B) (pc0 : ¬ (xs < s1)) :
    MetFree l (⟨"com/example/counterpath/counterpath/core/CappedMaximum", "removeAfter", "(I)V"⟩ : MethodName) (head1 (Jvm.Cond.code (⟨"com/example/counterpath/counterpath/core/CappedMaximum", "removeAfter", "(I)V"⟩ : MethodName) prog_3_method_4_code 2 none :: ws) ({ frames := 0, cells := 0, slots := 0, locals := 0 } : Room)) (fun α U => α = #[(.ref a), (.int xs)] ∧ Z.Warmed39 U.vm ∧ U.heap = h0) (fun _ _ _ _ _ => True) (fun _ U ω U' => ∃ ν Λ, ω = .returned ν ∧ QC Z a A B kA kB (1 : Int32) (2 : Int32) [(.int s0), (.int s1), (.int s2)] [(.double v0), (.double v1), (.double v2)] h0 n0 ν U'.heap Λ ∧ FrameEnd U ω U' Λ ({ frames := 0, cells := 0, slots := 0, locals := 0 } : Room).cells ({ frames := 0, cells := 0, slots := 0, locals := 0 } : Room).slots) := by
  refine MetFree.of_bodySF (plainFor_of_name own_pn_com_example_counterpath_counterpath_core_CappedMaximum) hisR ?_
  intro p e s m args below meth c s₁ Bd hml0 hP hK
  obtain ⟨rfl, hZ, hh⟩ := hP
  have hx := Bd.exec
  have hby := Bd.bytes
  have hml : c.maxLocals = 2 := hml0
  have hown : s.vm.findClass "com/example/counterpath/counterpath/core/CappedMaximum" = some m.cls := findClass_of_methodNamed Bd.named
  have hnm := (name_of_methodNamed Bd.named Bd.method).1
  have X0 : Stand p l e ({ frames := 0, cells := 0, slots := 0, locals := 0 } : Room) s m #[(.ref a), (.int xs)] below meth c s₁ [] 0 0 := Stand.of_body Bd
  have e0 : s₁.heap = h0 := by rw [← hh, Bd.state]; rfl
  have N0 := Fr.nil n0
  have KK0 : Keep h0 h0 [a, A, B] := Keep.refl h0 [a, A, B]
  obtain ⟨PS, hPS⟩ : ∃ P : State → Prop, P = fun τ => Steps p.tables e below (s₁.setTop (entryFrame m #[(.ref a), (.int xs)] 2)) τ := ⟨_, rfl⟩
  have pre0 : ∀ τ, Steps p.tables e below (s₁.setTop (mkF m 0 #[.val (.ref a), .val (.int xs)] [])) τ → PS τ := by rw [hPS]; exact fun τ κ => castTop (own_ef7 m a xs) κ
  obtain ⟨T574, X574, e574, st574⟩ := getF X0 hx hZ hown (host := "") (Or.inl (own_W17 hw)) Via.refl e0 FT (g := (mkF m 1 #[.val (.ref a), .val (.int xs)] [(.ref a)])) rfl rfl (Jvm.hb hby d7_1)
  have pre575 := fun (τ : State) kt => pre0 τ (by
    refine XS.aloadN X0.here hx rfl (Jvm.hb hby d7_0) rfl rfl ?_
    exact st574 τ kt)
  obtain ⟨T576, X576, e576, st576⟩ := getF X574 hx hZ hown (host := "") (Or.inl (own_W15 hw)) Via.refl e574 FH (g := (mkF m 5 #[.val (.ref a), .val (.int xs)] [(.ref a), (.int (2 : Int32))])) rfl rfl (Jvm.hb hby d7_5)
  have pre577 := fun (τ : State) kt => pre575 τ (by
    refine XS.aloadN X574.here hx rfl (Jvm.hb hby d7_4) rfl rfl ?_
    exact st576 τ kt)
  obtain ⟨T578, X578, e578, st578⟩ := getF X576 hx hZ hown (host := "") (Or.inl (own_W10 hw)) Via.refl e576 FS (g := (mkF m 12 #[.val (.ref a), .val (.int xs)] [(.ref a)])) rfl rfl (Jvm.hb hby d7_12)
  have pre579 := fun (τ : State) kt => pre577 τ (by
    refine XS.icmpNo X576.here hx rfl (Jvm.hb hby d7_8) rfl (tlt (by decide)).2.2.2 ?_
    refine XS.aloadN X576.here hx rfl (Jvm.hb hby d7_11) rfl rfl ?_
    exact st578 τ kt)
  obtain ⟨T580, X580, e580, st580⟩ := getF X578 hx hZ hown (host := "") (Or.inl (own_W17 hw)) Via.refl e578 FT (g := (mkF m 16 #[.val (.ref a), .val (.int xs)] [(.ref a), (.ref A)])) rfl rfl (Jvm.hb hby d7_16)
  have pre581 := fun (τ : State) kt => pre579 τ (by
    refine XS.aloadN X578.here hx rfl (Jvm.hb hby d7_15) rfl rfl ?_
    exact st580 τ kt)
  obtain ⟨cl582, Ar582, q582, S582, M582, H582, U582⟩ := id VS
  have in582 : ¬ ((1 : Int32) < 0 ∨ cl582.slots.size ≤ ((1 : Int32)).toNatClampNeg) := inb_of S582 ⟨by decide, by decide⟩
  have pre583 := fun (τ : State) kt => pre581 τ (by
    refine XS.iconst X580.here hx rfl (Jvm.hb hby d7_19) ?_
    refine XS.isub X580.here hx rfl (Jvm.hb hby d7_20) rfl ?_
    refine X580.iaload hx ((congrArg (fun (HH : Heap) => HH[A]?) (e580 : T580.heap = h0)).trans Ar582.1) (State.isArrayOf_alike hZ.alike Ar582.2.1) Ar582.2.2 in582 (H582.at in582 rfl) (g := (mkF m 21 #[.val (.ref a), .val (.int xs)] [(.int (1 : Int32)), (.ref A)])) rfl rfl (Jvm.hb hby d7_21) _ ?_
    refine XS.iloadN X580.here hx rfl (Jvm.hb hby d7_22) rfl ?_
    refine XS.icmpYes X580.here hx rfl (pc0 := 23) (pc' := 39) rfl (Jvm.hb hby d7_23) rfl (flt pc0).2.2.2 (by decide) (by decide) ?_
    exact kt)
  obtain ⟨fs, hrL, hrun, hended, hW, hsame⟩ := X580.leave (v := none) (fun _ => rfl)
  refine ⟨_, _, cast (congrFun hPS _) (pre583 _ ?_), hrun, hended, _, _, rfl, ?_, ⟨_, rfl⟩, hW, hsame.mono (by decide) (by decide)⟩
  · show Steps p.tables e below (T580.setTop (mkF m 39 #[.val (.ref a), .val (.int xs)] [])) _
    exact X580.returnOut hx Bd.returns (Jvm.hb hby d7_39) hrL
  · show QC Z a A B kA kB (1 : Int32) (2 : Int32) [(.int s0), (.int s1), (.int s2)] [(.double v0), (.double v1), (.double v2)] h0 n0 _ T580.heap _
    rw [e580]
    exact ⟨rfl, N0, KK0, FS, FV, FH, FT, VS, VV⟩
set_option maxRecDepth 65536 in
set_option maxHeartbeats 40000000 in
theorem rmCap_13_cok (l : Launch) (Z : State) (a0 : Array Value) (hw : ∀ d ∈ tables_1, d.before a0 Z = true) (ws : List Jvm.Cond) (a : Addr) (xv : UInt64) (A B : Addr) (kA kB : ClassId) (s0 s1 s2 : Int32) (v0 v1 v2 : UInt64) (h0 : Heap) (n0 : Nat) (Z0 : n0 ≤ h0.size) (E7 : Exa Z h0 a own_CM) (FS : Fld Z h0 a own_CM "samples" "[I" (.ref A)) (FV : Fld Z h0 a own_CM "values" "[D" (.ref B)) (FH : Fld Z h0 a own_CM "head" "I" (.int (1 : Int32))) (FT : Fld Z h0 a own_CM "tail" "I" (.int (3 : Int32))) (VS : Arv Z h0 A kA .int (3 : Int32) [(.int s0), (.int s1), (.int s2)] (.int (0 : Int32))) (VV : Arv Z h0 B kB .double (3 : Int32) [(.double v0), (.double v1), (.double v2)] (.double (0 : UInt64))) (naA : a ≠ A) (naB : a ≠ B) (nAB : A ≠ B) (ga : n0 ≤ a) (gA : n0 ≤ A) (gB : n0 ≤ B) (pc0 : ¬ (cmpValue (FP.dcmp v1 xv) .l < 0)) (pc2 : ¬ ((0 : Int32) < cmpValue (FP.dcmp v1 xv) .l)) :
    MetFree l (⟨"com/example/counterpath/counterpath/core/CappedMaximum", "cap", "(D)V"⟩ : MethodName) (head1 (Jvm.Cond.code (⟨"com/example/counterpath/counterpath/core/CappedMaximum", "cap", "(D)V"⟩ : MethodName) prog_3_method_3_code 3 none :: ws) ({ frames := 0, cells := 0, slots := 0, locals := 0 } : Room)) (fun α U => α = #[(.ref a), (.double xv)] ∧ Z.Warmed39 U.vm ∧ U.heap = h0) (fun _ _ _ _ _ => True) (fun _ U ω U' => ∃ ν Λ, ω = .returned ν ∧ QC Z a A B kA kB (1 : Int32) (2 : Int32) [(.int s0), (.int s1), (.int s2)] [(.double v0), (.double v1), (.double v2)] h0 n0 ν U'.heap Λ ∧ FrameEnd U ω U' Λ ({ frames := 0, cells := 0, slots := 0, locals := 0 } : Room).cells ({ frames := 0, cells := 0, slots := 0, locals := 0 } : Room).slots) := by
  refine MetFree.of_bodySF (plainFor_of_name own_pn_com_example_counterpath_counterpath_core_CappedMaximum) hisR ?_
  intro p e s m args below meth c s₁ Bd hml0 hP hK
  obtain ⟨rfl, hZ, hh⟩ := hP
  have hx := Bd.exec
  have hby := Bd.bytes
  have hml : c.maxLocals = 3 := hml0
  have hown : s.vm.findClass "com/example/counterpath/counterpath/core/CappedMaximum" = some m.cls := findClass_of_methodNamed Bd.named
  have hnm := (name_of_methodNamed Bd.named Bd.method).1
  have X0 : Stand p l e ({ frames := 0, cells := 0, slots := 0, locals := 0 } : Room) s m #[(.ref a), (.double xv)] below meth c s₁ [] 0 0 := Stand.of_body Bd
  have e0 : s₁.heap = h0 := by rw [← hh, Bd.state]; rfl
  have N0 := Fr.nil n0
  have KK0 : Keep h0 h0 [a, A, B] := Keep.refl h0 [a, A, B]
  obtain ⟨PS, hPS⟩ : ∃ P : State → Prop, P = fun τ => Steps p.tables e below (s₁.setTop (entryFrame m #[(.ref a), (.double xv)] 3)) τ := ⟨_, rfl⟩
  have pre0 : ∀ τ, Steps p.tables e below (s₁.setTop (mkF m 0 #[.val (.ref a), .val (.double xv), .second] [])) τ → PS τ := by rw [hPS]; exact fun τ κ => castTop (own_ef3 m a xv) κ
  obtain ⟨T601, X601, e601, st601⟩ := getF X0 hx hZ hown (host := "") (Or.inl (own_W17 hw)) Via.refl e0 FT (g := (mkF m 1 #[.val (.ref a), .val (.double xv), .second] [(.ref a)])) rfl rfl (Jvm.hb hby d3_1)
  have pre602 := fun (τ : State) kt => pre0 τ (by
    refine XS.aloadN X0.here hx rfl (Jvm.hb hby d3_0) rfl rfl ?_
    exact st601 τ kt)
  obtain ⟨T603, X603, e603, st603⟩ := getF X601 hx hZ hown (host := "") (Or.inl (own_W15 hw)) Via.refl e601 FH (g := (mkF m 5 #[.val (.ref a), .val (.double xv), .second] [(.ref a), (.int (3 : Int32))])) rfl rfl (Jvm.hb hby d3_5)
  have pre604 := fun (τ : State) kt => pre602 τ (by
    refine XS.aloadN X601.here hx rfl (Jvm.hb hby d3_4) rfl rfl ?_
    exact st603 τ kt)
  obtain ⟨T605, X605, e605, st605⟩ := getF X603 hx hZ hown (host := "") (Or.inl (own_W13 hw)) Via.refl e603 FV (g := (mkF m 14 #[.val (.ref a), .val (.double xv), .second] [(.ref a)])) rfl rfl (Jvm.hb hby d3_14)
  have pre606 := fun (τ : State) kt => pre604 τ (by
    refine XS.isub X603.here hx rfl (Jvm.hb hby d3_8) rfl ?_
    refine XS.iconst X603.here hx rfl (Jvm.hb hby d3_9) ?_
    refine XS.icmpNo X603.here hx rfl (Jvm.hb hby d3_10) rfl (flt (by decide)).1 ?_
    refine XS.aloadN X603.here hx rfl (Jvm.hb hby d3_13) rfl rfl ?_
    exact st605 τ kt)
  obtain ⟨T607, X607, e607, st607⟩ := getF X605 hx hZ hown (host := "") (Or.inl (own_W17 hw)) Via.refl e605 FT (g := (mkF m 18 #[.val (.ref a), .val (.double xv), .second] [(.ref a), (.ref B)])) rfl rfl (Jvm.hb hby d3_18)
  have pre608 := fun (τ : State) kt => pre606 τ (by
    refine XS.aloadN X605.here hx rfl (Jvm.hb hby d3_17) rfl rfl ?_
    exact st607 τ kt)
  obtain ⟨cl609, Ar609, q609, S609, M609, H609, U609⟩ := id VV
  have in609 : ¬ ((1 : Int32) < 0 ∨ cl609.slots.size ≤ ((1 : Int32)).toNatClampNeg) := inb_of S609 ⟨by decide, by decide⟩
  obtain ⟨T610, X610, e610, st610⟩ := getF X607 hx hZ hown (host := "") (Or.inl (own_W17 hw)) Via.refl e607 FT (g := (mkF m 31 #[.val (.ref a), .val (.double xv), .second] [(.ref a), (.ref a)])) rfl rfl (Jvm.hb hby d3_31)
  have pre611 := fun (τ : State) kt => pre608 τ (by
    refine XS.iconst X607.here hx rfl (Jvm.hb hby d3_21) ?_
    refine XS.isub X607.here hx rfl (Jvm.hb hby d3_22) rfl ?_
    refine X607.daload hx ((congrArg (fun (HH : Heap) => HH[B]?) (e607 : T607.heap = h0)).trans Ar609.1) (State.isArrayOf_alike hZ.alike Ar609.2.1) Ar609.2.2 in609 (H609.at in609 rfl) (g := (mkF m 23 #[.val (.ref a), .val (.double xv), .second] [(.int (1 : Int32)), (.ref B)])) rfl rfl (Jvm.hb hby d3_23) _ ?_
    refine own_dloadN X607.here hx rfl (Jvm.hb hby d3_24) rfl ?_
    refine own_dcmp X607.here hx rfl (Jvm.hb hby d3_25) rfl ?_
    refine XS.ifNo X607.here hx rfl (Jvm.hb hby d3_26) rfl ((if0 _ _).trans (flt pc0).1) ?_
    refine XS.aloadN X607.here hx rfl (Jvm.hb hby d3_29) rfl rfl ?_
    refine XS.dup X607.here hx rfl (Jvm.hb hby d3_30) rfl rfl ?_
    exact st610 τ kt)
  obtain ⟨T612, h612, X612, e612, W612, st612⟩ := putF X610 hx hZ hown (host := "") (Or.inl (own_W17 hw)) Via.refl e610 FT E7 (Or.inl (own_W18 hw)) (own_W1 hw) (ty := .int) (by decide) rfl rfl (g := (mkF m 36 #[.val (.ref a), .val (.double xv), .second] [(.int (2 : Int32)), (.ref a)])) rfl rfl (Jvm.hb hby d3_36)
  have fw612 := Fld.same W612 FT
  have N612 := Fr.snoc X612 N0 ga
  have K612 : Keep h0 h612 [a, A, B] := KK0.wr W612 (Or.inl (by simp))
  have pre613 := fun (τ : State) kt => pre611 τ (by
    refine XS.iconst X610.here hx rfl (Jvm.hb hby d3_34) ?_
    refine XS.isub X610.here hx rfl (Jvm.hb hby d3_35) rfl ?_
    exact st612 τ kt)
  obtain ⟨T614, X614, e614, st614⟩ := getF X612 hx hZ hown (host := "") (Or.inl (own_W17 hw)) Via.refl e612 fw612 (g := (mkF m 1 #[.val (.ref a), .val (.double xv), .second] [(.ref a)])) rfl rfl (Jvm.hb hby d3_1)
  have pre615 := fun (τ : State) kt => pre613 τ (by
    refine XS.goto X612.here hx rfl (pc0 := 39) (pc' := 0) rfl (Jvm.hb hby d3_39) (by decide) (by decide) ?_
    refine XS.aloadN X612.here hx rfl (Jvm.hb hby d3_0) rfl rfl ?_
    exact st614 τ kt)
  have f617 := (FH.other W612 (Or.inr (slot_ne (Or.inl (own_W16 hw)) (Or.inl (own_W18 hw)) (by decide) (t := .int) (t' := .int) (by decide) (by decide))))
  obtain ⟨T616, X616, e616, st616⟩ := getF X614 hx hZ hown (host := "") (Or.inl (own_W15 hw)) Via.refl e614 f617 (g := (mkF m 5 #[.val (.ref a), .val (.double xv), .second] [(.ref a), (.int (2 : Int32))])) rfl rfl (Jvm.hb hby d3_5)
  have pre618 := fun (τ : State) kt => pre615 τ (by
    refine XS.aloadN X614.here hx rfl (Jvm.hb hby d3_4) rfl rfl ?_
    exact st616 τ kt)
  obtain ⟨T619, X619, e619, st619⟩ := getF X616 hx hZ hown (host := "") (Or.inl (own_W17 hw)) Via.refl e616 fw612 (g := (mkF m 43 #[.val (.ref a), .val (.double xv), .second] [(.ref a)])) rfl rfl (Jvm.hb hby d3_43)
  have pre620 := fun (τ : State) kt => pre618 τ (by
    refine XS.isub X616.here hx rfl (Jvm.hb hby d3_8) rfl ?_
    refine XS.iconst X616.here hx rfl (Jvm.hb hby d3_9) ?_
    refine XS.icmpYes X616.here hx rfl (pc0 := 10) (pc' := 42) rfl (Jvm.hb hby d3_10) rfl (tlt (by decide)).1 (by decide) (by decide) ?_
    refine XS.aloadN X616.here hx rfl (Jvm.hb hby d3_42) rfl rfl ?_
    exact st619 τ kt)
  obtain ⟨T621, X621, e621, st621⟩ := getF X619 hx hZ hown (host := "") (Or.inl (own_W15 hw)) Via.refl e619 f617 (g := (mkF m 47 #[.val (.ref a), .val (.double xv), .second] [(.ref a), (.int (2 : Int32))])) rfl rfl (Jvm.hb hby d3_47)
  have pre622 := fun (τ : State) kt => pre620 τ (by
    refine XS.aloadN X619.here hx rfl (Jvm.hb hby d3_46) rfl rfl ?_
    exact st621 τ kt)
  have f624 := (FV.other W612 (Or.inr (slot_ne (Or.inr (own_W14 hw)) (Or.inl (own_W18 hw)) (by decide) (t := (.array .double)) (t' := .int) (by decide) (by decide))))
  obtain ⟨T623, X623, e623, st623⟩ := getF X621 hx hZ hown (host := "") (Or.inl (own_W13 hw)) Via.refl e621 f624 (g := (mkF m 54 #[.val (.ref a), .val (.double xv), .second] [(.ref a)])) rfl rfl (Jvm.hb hby d3_54)
  have pre625 := fun (τ : State) kt => pre622 τ (by
    refine XS.icmpNo X621.here hx rfl (Jvm.hb hby d3_50) rfl (tlt (by decide)).2.2.2 ?_
    refine XS.aloadN X621.here hx rfl (Jvm.hb hby d3_53) rfl rfl ?_
    exact st623 τ kt)
  obtain ⟨T626, X626, e626, st626⟩ := getF X623 hx hZ hown (host := "") (Or.inl (own_W17 hw)) Via.refl e623 fw612 (g := (mkF m 58 #[.val (.ref a), .val (.double xv), .second] [(.ref a), (.ref B)])) rfl rfl (Jvm.hb hby d3_58)
  have pre627 := fun (τ : State) kt => pre625 τ (by
    refine XS.aloadN X623.here hx rfl (Jvm.hb hby d3_57) rfl rfl ?_
    exact st626 τ kt)
  have f628 := VV.other W612 (Ne.symm naB)
  obtain ⟨cl629, Ar629, q629, S629, M629, H629, U629⟩ := id f628
  have in629 : ¬ ((1 : Int32) < 0 ∨ cl629.slots.size ≤ ((1 : Int32)).toNatClampNeg) := inb_of S629 ⟨by decide, by decide⟩
  have f630 := (FS.other W612 (Or.inr (slot_ne (Or.inr (own_W11 hw)) (Or.inl (own_W18 hw)) (by decide) (t := (.array .int)) (t' := .int) (by decide) (by decide))))
  have f631 := VS.other W612 (Ne.symm naA)
  have pre632 := fun (τ : State) kt => pre627 τ (by
    refine XS.iconst X626.here hx rfl (Jvm.hb hby d3_61) ?_
    refine XS.isub X626.here hx rfl (Jvm.hb hby d3_62) rfl ?_
    refine X626.daload hx ((congrArg (fun (HH : Heap) => HH[B]?) (e626 : T626.heap = h612)).trans Ar629.1) (State.isArrayOf_alike hZ.alike Ar629.2.1) Ar629.2.2 in629 (H629.at in629 rfl) (g := (mkF m 63 #[.val (.ref a), .val (.double xv), .second] [(.int (1 : Int32)), (.ref B)])) rfl rfl (Jvm.hb hby d3_63) _ ?_
    refine own_dloadN X626.here hx rfl (Jvm.hb hby d3_64) rfl ?_
    refine own_dcmp X626.here hx rfl (Jvm.hb hby d3_65) rfl ?_
    refine XS.ifYes X626.here hx rfl (pc0 := 66) (pc' := 81) rfl (Jvm.hb hby d3_66) rfl ((if0 _ _).trans (flt pc2).2.2.2) (by decide) (by decide) ?_
    exact kt)
  obtain ⟨fs, hrL, hrun, hended, hW, hsame⟩ := X626.leave (v := none) (fun _ => rfl)
  refine ⟨_, _, cast (congrFun hPS _) (pre632 _ ?_), hrun, hended, _, _, rfl, ?_, ⟨_, rfl⟩, hW, hsame.mono (by decide) (by decide)⟩
  · show Steps p.tables e below (T626.setTop (mkF m 81 #[.val (.ref a), .val (.double xv), .second] [])) _
    exact X626.returnOut hx Bd.returns (Jvm.hb hby d3_81) hrL
  · show QC Z a A B kA kB (1 : Int32) (2 : Int32) [(.int s0), (.int s1), (.int s2)] [(.double v0), (.double v1), (.double v2)] h0 n0 _ T626.heap _
    rw [e626]
    exact ⟨rfl, N612, K612, f630, f624, f617, fw612, f631, f628⟩
set_option maxRecDepth 65536 in
set_option maxHeartbeats 40000000 in
theorem rmAdd_23_ce (l : Launch) (Z : State) (a0 : Array Value) (hw : ∀ d ∈ tables_1, d.before a0 Z = true) (ws : List Jvm.Cond) (a : Addr) (xs : Int32) (xv : UInt64) (A B : Addr) (kA kB : ClassId) (s0 s1 s2 : Int32) (v0 v1 v2 : UInt64) (h0 : Heap) (n0 : Nat) (Z0 : n0 ≤ h0.size) (E7 : Exa Z h0 a own_CM) (FS : Fld Z h0 a own_CM "samples" "[I" (.ref A)) (FV : Fld Z h0 a own_CM "values" "[D" (.ref B)) (FH : Fld Z h0 a own_CM "head" "I" (.int (2 : Int32))) (FT : Fld Z h0 a own_CM "tail" "I" (.int (3 : Int32))) (VS : Arv Z h0 A kA .int (3 : Int32) [(.int s0), (.int s1), (.int s2)] (.int (0 : Int32))) (VV : Arv Z h0 B kB .double (3 : Int32) [(.double v0), (.double v1), (.double v2)] (.double (0 : UInt64))) (naA : a ≠ A) (naB : a ≠ B) (nAB : A ≠ B) (ga : n0 ≤ a) (gA : n0 ≤ A) (gB : n0 ≤ B) (pc0 : ¬ ((0 : Int32) < cmpValue (FP.dcmp v2 xv) .g)) :
    MetFree l (⟨"com/example/counterpath/counterpath/core/CappedMaximum", "addFirst", "(ID)V"⟩ : MethodName) (head1 (Jvm.Cond.code (⟨"com/example/counterpath/counterpath/core/CappedMaximum", "addFirst", "(ID)V"⟩ : MethodName) prog_3_method_2_code 4 none :: ws) ({ frames := 0, cells := 0, slots := 0, locals := 0 } : Room)) (fun α U => α = #[(.ref a), (.int xs), (.double xv)] ∧ Z.Warmed39 U.vm ∧ U.heap = h0) (fun _ _ _ _ _ => True) (fun _ U ω U' => ∃ ν Λ, ω = .returned ν ∧ QC Z a A B kA kB (2 : Int32) (3 : Int32) [(.int s0), (.int s1), (.int xs)] [(.double v0), (.double v1), (.double xv)] h0 n0 ν U'.heap Λ ∧ FrameEnd U ω U' Λ ({ frames := 0, cells := 0, slots := 0, locals := 0 } : Room).cells ({ frames := 0, cells := 0, slots := 0, locals := 0 } : Room).slots) := by
  refine MetFree.of_bodySF (plainFor_of_name own_pn_com_example_counterpath_counterpath_core_CappedMaximum) hisR ?_
  intro p e s m args below meth c s₁ Bd hml0 hP hK
  obtain ⟨rfl, hZ, hh⟩ := hP
  have hx := Bd.exec
  have hby := Bd.bytes
  have hml : c.maxLocals = 4 := hml0
  have hown : s.vm.findClass "com/example/counterpath/counterpath/core/CappedMaximum" = some m.cls := findClass_of_methodNamed Bd.named
  have hnm := (name_of_methodNamed Bd.named Bd.method).1
  have X0 : Stand p l e ({ frames := 0, cells := 0, slots := 0, locals := 0 } : Room) s m #[(.ref a), (.int xs), (.double xv)] below meth c s₁ [] 0 0 := Stand.of_body Bd
  have e0 : s₁.heap = h0 := by rw [← hh, Bd.state]; rfl
  have N0 := Fr.nil n0
  have KK0 : Keep h0 h0 [a, A, B] := Keep.refl h0 [a, A, B]
  obtain ⟨PS, hPS⟩ : ∃ P : State → Prop, P = fun τ => Steps p.tables e below (s₁.setTop (entryFrame m #[(.ref a), (.int xs), (.double xv)] 4)) τ := ⟨_, rfl⟩
  have pre0 : ∀ τ, Steps p.tables e below (s₁.setTop (mkF m 0 #[.val (.ref a), .val (.int xs), .val (.double xv), .second] [])) τ → PS τ := by rw [hPS]; exact fun τ κ => castTop (own_ef8 m a xs xv) κ
  obtain ⟨T662, X662, e662, st662⟩ := getF X0 hx hZ hown (host := "") (Or.inl (own_W15 hw)) Via.refl e0 FH (g := (mkF m 1 #[.val (.ref a), .val (.int xs), .val (.double xv), .second] [(.ref a)])) rfl rfl (Jvm.hb hby d8_1)
  have pre663 := fun (τ : State) kt => pre0 τ (by
    refine XS.aloadN X0.here hx rfl (Jvm.hb hby d8_0) rfl rfl ?_
    exact st662 τ kt)
  obtain ⟨T664, X664, e664, st664⟩ := getF X662 hx hZ hown (host := "") (Or.inl (own_W17 hw)) Via.refl e662 FT (g := (mkF m 5 #[.val (.ref a), .val (.int xs), .val (.double xv), .second] [(.ref a), (.int (2 : Int32))])) rfl rfl (Jvm.hb hby d8_5)
  have pre665 := fun (τ : State) kt => pre663 τ (by
    refine XS.aloadN X662.here hx rfl (Jvm.hb hby d8_4) rfl rfl ?_
    exact st664 τ kt)
  obtain ⟨T666, X666, e666, st666⟩ := getF X664 hx hZ hown (host := "") (Or.inl (own_W13 hw)) Via.refl e664 FV (g := (mkF m 12 #[.val (.ref a), .val (.int xs), .val (.double xv), .second] [(.ref a)])) rfl rfl (Jvm.hb hby d8_12)
  have pre667 := fun (τ : State) kt => pre665 τ (by
    refine XS.icmpNo X664.here hx rfl (Jvm.hb hby d8_8) rfl (tlt (by decide)).2.1 ?_
    refine XS.aloadN X664.here hx rfl (Jvm.hb hby d8_11) rfl rfl ?_
    exact st666 τ kt)
  obtain ⟨T668, X668, e668, st668⟩ := getF X666 hx hZ hown (host := "") (Or.inl (own_W15 hw)) Via.refl e666 FH (g := (mkF m 16 #[.val (.ref a), .val (.int xs), .val (.double xv), .second] [(.ref a), (.ref B)])) rfl rfl (Jvm.hb hby d8_16)
  have pre669 := fun (τ : State) kt => pre667 τ (by
    refine XS.aloadN X666.here hx rfl (Jvm.hb hby d8_15) rfl rfl ?_
    exact st668 τ kt)
  obtain ⟨cl670, Ar670, q670, S670, M670, H670, U670⟩ := id VV
  have in670 : ¬ ((2 : Int32) < 0 ∨ cl670.slots.size ≤ ((2 : Int32)).toNatClampNeg) := inb_of S670 ⟨by decide, by decide⟩
  obtain ⟨T671, X671, e671, st671⟩ := getF X668 hx hZ hown (host := "") (Or.inl (own_W15 hw)) Via.refl e668 FH (g := (mkF m 27 #[.val (.ref a), .val (.int xs), .val (.double xv), .second] [(.ref a), (.ref a)])) rfl rfl (Jvm.hb hby d8_27)
  have pre672 := fun (τ : State) kt => pre669 τ (by
    refine X668.daload hx ((congrArg (fun (HH : Heap) => HH[B]?) (e668 : T668.heap = h0)).trans Ar670.1) (State.isArrayOf_alike hZ.alike Ar670.2.1) Ar670.2.2 in670 (H670.at in670 rfl) (g := (mkF m 19 #[.val (.ref a), .val (.int xs), .val (.double xv), .second] [(.int (2 : Int32)), (.ref B)])) rfl rfl (Jvm.hb hby d8_19) _ ?_
    refine own_dloadN X668.here hx rfl (Jvm.hb hby d8_20) rfl ?_
    refine own_dcmp X668.here hx rfl (Jvm.hb hby d8_21) rfl ?_
    refine XS.ifNo X668.here hx rfl (Jvm.hb hby d8_22) rfl ((if0 _ _).trans (flt pc0).2.2.1) ?_
    refine XS.aloadN X668.here hx rfl (Jvm.hb hby d8_25) rfl rfl ?_
    refine XS.dup X668.here hx rfl (Jvm.hb hby d8_26) rfl rfl ?_
    exact st671 τ kt)
  obtain ⟨T673, h673, X673, e673, W673, st673⟩ := putF X671 hx hZ hown (host := "") (Or.inl (own_W15 hw)) Via.refl e671 FH E7 (Or.inl (own_W16 hw)) (own_W1 hw) (ty := .int) (by decide) rfl rfl (g := (mkF m 32 #[.val (.ref a), .val (.int xs), .val (.double xv), .second] [(.int (3 : Int32)), (.ref a)])) rfl rfl (Jvm.hb hby d8_32)
  have fw673 := Fld.same W673 FH
  have N673 := Fr.snoc X673 N0 ga
  have K673 : Keep h0 h673 [a, A, B] := KK0.wr W673 (Or.inl (by simp))
  have pre674 := fun (τ : State) kt => pre672 τ (by
    refine XS.iconst X671.here hx rfl (Jvm.hb hby d8_30) ?_
    refine XS.iadd X671.here hx rfl (Jvm.hb hby d8_31) rfl ?_
    exact st673 τ kt)
  obtain ⟨T675, X675, e675, st675⟩ := getF X673 hx hZ hown (host := "") (Or.inl (own_W15 hw)) Via.refl e673 fw673 (g := (mkF m 1 #[.val (.ref a), .val (.int xs), .val (.double xv), .second] [(.ref a)])) rfl rfl (Jvm.hb hby d8_1)
  have pre676 := fun (τ : State) kt => pre674 τ (by
    refine XS.goto X673.here hx rfl (pc0 := 35) (pc' := 0) rfl (Jvm.hb hby d8_35) (by decide) (by decide) ?_
    refine XS.aloadN X673.here hx rfl (Jvm.hb hby d8_0) rfl rfl ?_
    exact st675 τ kt)
  have f678 := (FT.other W673 (Or.inr (slot_ne (Or.inl (own_W18 hw)) (Or.inl (own_W16 hw)) (by decide) (t := .int) (t' := .int) (by decide) (by decide))))
  obtain ⟨T677, X677, e677, st677⟩ := getF X675 hx hZ hown (host := "") (Or.inl (own_W17 hw)) Via.refl e675 f678 (g := (mkF m 5 #[.val (.ref a), .val (.int xs), .val (.double xv), .second] [(.ref a), (.int (3 : Int32))])) rfl rfl (Jvm.hb hby d8_5)
  have pre679 := fun (τ : State) kt => pre676 τ (by
    refine XS.aloadN X675.here hx rfl (Jvm.hb hby d8_4) rfl rfl ?_
    exact st677 τ kt)
  obtain ⟨T680, X680, e680, st680⟩ := getF X677 hx hZ hown (host := "") (Or.inl (own_W15 hw)) Via.refl e677 fw673 (g := (mkF m 40 #[.val (.ref a), .val (.int xs), .val (.double xv), .second] [(.ref a), (.ref a)])) rfl rfl (Jvm.hb hby d8_40)
  have pre681 := fun (τ : State) kt => pre679 τ (by
    refine XS.icmpYes X677.here hx rfl (pc0 := 8) (pc' := 38) rfl (Jvm.hb hby d8_8) rfl (flt (by decide)).2.1 (by decide) (by decide) ?_
    refine XS.aloadN X677.here hx rfl (Jvm.hb hby d8_38) rfl rfl ?_
    refine XS.dup X677.here hx rfl (Jvm.hb hby d8_39) rfl rfl ?_
    exact st680 τ kt)
  have f683 := E7.wr W673
  obtain ⟨T682, h682, X682, e682, W682, st682⟩ := putF X680 hx hZ hown (host := "") (Or.inl (own_W15 hw)) Via.refl e680 fw673 f683 (Or.inl (own_W16 hw)) (own_W1 hw) (ty := .int) (by decide) rfl rfl (g := (mkF m 45 #[.val (.ref a), .val (.int xs), .val (.double xv), .second] [(.int (2 : Int32)), (.ref a)])) rfl rfl (Jvm.hb hby d8_45)
  have fw682 := Fld.same W682 fw673
  have N682 := Fr.snoc X682 N673 ga
  have K682 : Keep h0 h682 [a, A, B] := K673.wr W682 (Or.inl (by simp))
  have pre684 := fun (τ : State) kt => pre681 τ (by
    refine XS.iconst X680.here hx rfl (Jvm.hb hby d8_43) ?_
    refine XS.isub X680.here hx rfl (Jvm.hb hby d8_44) rfl ?_
    exact st682 τ kt)
  have f686 := (FS.other W673 (Or.inr (slot_ne (Or.inr (own_W11 hw)) (Or.inl (own_W16 hw)) (by decide) (t := (.array .int)) (t' := .int) (by decide) (by decide))))
  have f687 := (f686.other W682 (Or.inr (slot_ne (Or.inr (own_W11 hw)) (Or.inl (own_W16 hw)) (by decide) (t := (.array .int)) (t' := .int) (by decide) (by decide))))
  obtain ⟨T685, X685, e685, st685⟩ := getF X682 hx hZ hown (host := "") (Or.inl (own_W10 hw)) Via.refl e682 f687 (g := (mkF m 49 #[.val (.ref a), .val (.int xs), .val (.double xv), .second] [(.ref a)])) rfl rfl (Jvm.hb hby d8_49)
  have pre688 := fun (τ : State) kt => pre684 τ (by
    refine XS.aloadN X682.here hx rfl (Jvm.hb hby d8_48) rfl rfl ?_
    exact st685 τ kt)
  obtain ⟨T689, X689, e689, st689⟩ := getF X685 hx hZ hown (host := "") (Or.inl (own_W15 hw)) Via.refl e685 fw682 (g := (mkF m 53 #[.val (.ref a), .val (.int xs), .val (.double xv), .second] [(.ref a), (.ref A)])) rfl rfl (Jvm.hb hby d8_53)
  have pre690 := fun (τ : State) kt => pre688 τ (by
    refine XS.aloadN X685.here hx rfl (Jvm.hb hby d8_52) rfl rfl ?_
    exact st689 τ kt)
  have f691 := VS.other W673 (Ne.symm naA)
  have f692 := f691.other W682 (Ne.symm naA)
  obtain ⟨cl693, Ar693, q693, S693, M693, H693, U693⟩ := id f692
  obtain ⟨T694, h694, X694, e694, W694, st694⟩ := stI X689 hx hZ e689 Ar693 (j := (2 : Int32)) (inb_of S693 ⟨by decide, by decide⟩) (g := (mkF m 57 #[.val (.ref a), .val (.int xs), .val (.double xv), .second] [(.int xs), (.int (2 : Int32)), (.ref A)])) rfl rfl (Jvm.hb hby d8_57)
  have V694 : Arv Z h694 A kA .int (3 : Int32) [(.int s0), (.int s1), (.int xs)] (.int (0 : Int32)) := Arv.set Ar693 q693 S693 M693 H693 U693 rfl W694 2 rfl (Nat.le_of_ble_eq_true rfl)
  have N694 := Fr.snoc X694 N682 gA
  have K694 : Keep h0 h694 [a, A, B] := K682.wr W694 (Or.inl (by simp))
  have pre695 := fun (τ : State) kt => pre690 τ (by
    refine XS.iloadN X689.here hx rfl (Jvm.hb hby d8_56) rfl ?_
    exact st694 τ kt)
  have f697 := (FV.other W673 (Or.inr (slot_ne (Or.inr (own_W14 hw)) (Or.inl (own_W16 hw)) (by decide) (t := (.array .double)) (t' := .int) (by decide) (by decide))))
  have f698 := (f697.other W682 (Or.inr (slot_ne (Or.inr (own_W14 hw)) (Or.inl (own_W16 hw)) (by decide) (t := (.array .double)) (t' := .int) (by decide) (by decide))))
  have f699 := (f698.other W694 (Or.inl naA))
  obtain ⟨T696, X696, e696, st696⟩ := getF X694 hx hZ hown (host := "") (Or.inl (own_W13 hw)) Via.refl e694 f699 (g := (mkF m 59 #[.val (.ref a), .val (.int xs), .val (.double xv), .second] [(.ref a)])) rfl rfl (Jvm.hb hby d8_59)
  have pre700 := fun (τ : State) kt => pre695 τ (by
    refine XS.aloadN X694.here hx rfl (Jvm.hb hby d8_58) rfl rfl ?_
    exact st696 τ kt)
  have f702 := (fw682.other W694 (Or.inl naA))
  obtain ⟨T701, X701, e701, st701⟩ := getF X696 hx hZ hown (host := "") (Or.inl (own_W15 hw)) Via.refl e696 f702 (g := (mkF m 63 #[.val (.ref a), .val (.int xs), .val (.double xv), .second] [(.ref a), (.ref B)])) rfl rfl (Jvm.hb hby d8_63)
  have pre703 := fun (τ : State) kt => pre700 τ (by
    refine XS.aloadN X696.here hx rfl (Jvm.hb hby d8_62) rfl rfl ?_
    exact st701 τ kt)
  have f704 := VV.other W673 (Ne.symm naB)
  have f705 := f704.other W682 (Ne.symm naB)
  have f706 := f705.other W694 (Ne.symm nAB)
  obtain ⟨cl707, Ar707, q707, S707, M707, H707, U707⟩ := id f706
  obtain ⟨T708, h708, X708, e708, W708, st708⟩ := own_stD X701 hx hZ e701 Ar707 (j := (2 : Int32)) (inb_of S707 ⟨by decide, by decide⟩) (g := (mkF m 67 #[.val (.ref a), .val (.int xs), .val (.double xv), .second] [(.double xv), (.int (2 : Int32)), (.ref B)])) rfl rfl (Jvm.hb hby d8_67)
  have V708 : Arv Z h708 B kB .double (3 : Int32) [(.double v0), (.double v1), (.double xv)] (.double (0 : UInt64)) := Arv.set Ar707 q707 S707 M707 H707 U707 rfl W708 2 rfl (Nat.le_of_ble_eq_true rfl)
  have N708 := Fr.snoc X708 N694 gB
  have K708 : Keep h0 h708 [a, A, B] := K694.wr W708 (Or.inl (by simp))
  have pre709 := fun (τ : State) kt => pre703 τ (by
    refine own_dloadN X701.here hx rfl (Jvm.hb hby d8_66) rfl ?_
    exact st708 τ kt)
  have f710 := (f687.other W694 (Or.inl naA))
  have f711 := (f710.other W708 (Or.inl naB))
  have f712 := (f699.other W708 (Or.inl naB))
  have f713 := (f702.other W708 (Or.inl naB))
  have f714 := (f678.other W682 (Or.inr (slot_ne (Or.inl (own_W18 hw)) (Or.inl (own_W16 hw)) (by decide) (t := .int) (t' := .int) (by decide) (by decide))))
  have f715 := (f714.other W694 (Or.inl naA))
  have f716 := (f715.other W708 (Or.inl naB))
  have f717 := V694.other W708 nAB
  obtain ⟨fs, hrL, hrun, hended, hW, hsame⟩ := X708.leave (v := none) (fun _ => rfl)
  refine ⟨_, _, cast (congrFun hPS _) (pre709 _ ?_), hrun, hended, _, _, rfl, ?_, ⟨_, rfl⟩, hW, hsame.mono (by decide) (by decide)⟩
  · show Steps p.tables e below (T708.setTop (mkF m 68 #[.val (.ref a), .val (.int xs), .val (.double xv), .second] [])) _
    exact X708.returnOut hx Bd.returns (Jvm.hb hby d8_68) hrL
  · show QC Z a A B kA kB (2 : Int32) (3 : Int32) [(.int s0), (.int s1), (.int xs)] [(.double v0), (.double v1), (.double xv)] h0 n0 _ T708.heap _
    rw [e708]
    exact ⟨rfl, N708, K708, f711, f712, f713, f716, f717, V708⟩
set_option maxRecDepth 65536 in
set_option maxHeartbeats 40000000 in
theorem rmAdd_13_x (l : Launch) (Z : State) (a0 : Array Value) (hw : ∀ d ∈ tables_1, d.before a0 Z = true) (ws : List Jvm.Cond) (a : Addr) (xs : Int32) (xv : UInt64) (A B : Addr) (kA kB : ClassId) (s0 s1 s2 : Int32) (v0 v1 v2 : UInt64) (h0 : Heap) (n0 : Nat) (Z0 : n0 ≤ h0.size) (E7 : Exa Z h0 a own_CM) (FS : Fld Z h0 a own_CM "samples" "[I" (.ref A)) (FV : Fld Z h0 a own_CM "values" "[D" (.ref B)) (FH : Fld Z h0 a own_CM "head" "I" (.int (1 : Int32))) (FT : Fld Z h0 a own_CM "tail" "I" (.int (3 : Int32))) (VS : Arv Z h0 A kA .int (3 : Int32) [(.int s0), (.int s1), (.int s2)] (.int (0 : Int32))) (VV : Arv Z h0 B kB .double (3 : Int32) [(.double v0), (.double v1), (.double v2)] (.double (0 : UInt64))) (naA : a ≠ A) (naB : a ≠ B) (nAB : A ≠ B) (ga : n0 ≤ a) (gA : n0 ≤ A) (gB : n0 ≤ B) (pc0 : (0 : Int32) < cmpValue (FP.dcmp v1 xv) .g) :
    MetFree l (⟨"com/example/counterpath/counterpath/core/CappedMaximum", "addFirst", "(ID)V"⟩ : MethodName) (head1 (Jvm.Cond.code (⟨"com/example/counterpath/counterpath/core/CappedMaximum", "addFirst", "(ID)V"⟩ : MethodName) prog_3_method_2_code 4 none :: ws) ({ frames := 0, cells := 0, slots := 0, locals := 0 } : Room)) (fun α U => α = #[(.ref a), (.int xs), (.double xv)] ∧ Z.Warmed39 U.vm ∧ U.heap = h0) (fun _ _ _ _ _ => True) (fun _ U ω U' => ∃ ν Λ, ω = .returned ν ∧ QC Z a A B kA kB (0 : Int32) (3 : Int32) [(.int xs), (.int s1), (.int s2)] [(.double xv), (.double v1), (.double v2)] h0 n0 ν U'.heap Λ ∧ FrameEnd U ω U' Λ ({ frames := 0, cells := 0, slots := 0, locals := 0 } : Room).cells ({ frames := 0, cells := 0, slots := 0, locals := 0 } : Room).slots) := by
  refine MetFree.of_bodySF (plainFor_of_name own_pn_com_example_counterpath_counterpath_core_CappedMaximum) hisR ?_
  intro p e s m args below meth c s₁ Bd hml0 hP hK
  obtain ⟨rfl, hZ, hh⟩ := hP
  have hx := Bd.exec
  have hby := Bd.bytes
  have hml : c.maxLocals = 4 := hml0
  have hown : s.vm.findClass "com/example/counterpath/counterpath/core/CappedMaximum" = some m.cls := findClass_of_methodNamed Bd.named
  have hnm := (name_of_methodNamed Bd.named Bd.method).1
  have X0 : Stand p l e ({ frames := 0, cells := 0, slots := 0, locals := 0 } : Room) s m #[(.ref a), (.int xs), (.double xv)] below meth c s₁ [] 0 0 := Stand.of_body Bd
  have e0 : s₁.heap = h0 := by rw [← hh, Bd.state]; rfl
  have N0 := Fr.nil n0
  have KK0 : Keep h0 h0 [a, A, B] := Keep.refl h0 [a, A, B]
  obtain ⟨PS, hPS⟩ : ∃ P : State → Prop, P = fun τ => Steps p.tables e below (s₁.setTop (entryFrame m #[(.ref a), (.int xs), (.double xv)] 4)) τ := ⟨_, rfl⟩
  have pre0 : ∀ τ, Steps p.tables e below (s₁.setTop (mkF m 0 #[.val (.ref a), .val (.int xs), .val (.double xv), .second] [])) τ → PS τ := by rw [hPS]; exact fun τ κ => castTop (own_ef8 m a xs xv) κ
  obtain ⟨T802, X802, e802, st802⟩ := getF X0 hx hZ hown (host := "") (Or.inl (own_W15 hw)) Via.refl e0 FH (g := (mkF m 1 #[.val (.ref a), .val (.int xs), .val (.double xv), .second] [(.ref a)])) rfl rfl (Jvm.hb hby d8_1)
  have pre803 := fun (τ : State) kt => pre0 τ (by
    refine XS.aloadN X0.here hx rfl (Jvm.hb hby d8_0) rfl rfl ?_
    exact st802 τ kt)
  obtain ⟨T804, X804, e804, st804⟩ := getF X802 hx hZ hown (host := "") (Or.inl (own_W17 hw)) Via.refl e802 FT (g := (mkF m 5 #[.val (.ref a), .val (.int xs), .val (.double xv), .second] [(.ref a), (.int (1 : Int32))])) rfl rfl (Jvm.hb hby d8_5)
  have pre805 := fun (τ : State) kt => pre803 τ (by
    refine XS.aloadN X802.here hx rfl (Jvm.hb hby d8_4) rfl rfl ?_
    exact st804 τ kt)
  obtain ⟨T806, X806, e806, st806⟩ := getF X804 hx hZ hown (host := "") (Or.inl (own_W13 hw)) Via.refl e804 FV (g := (mkF m 12 #[.val (.ref a), .val (.int xs), .val (.double xv), .second] [(.ref a)])) rfl rfl (Jvm.hb hby d8_12)
  have pre807 := fun (τ : State) kt => pre805 τ (by
    refine XS.icmpNo X804.here hx rfl (Jvm.hb hby d8_8) rfl (tlt (by decide)).2.1 ?_
    refine XS.aloadN X804.here hx rfl (Jvm.hb hby d8_11) rfl rfl ?_
    exact st806 τ kt)
  obtain ⟨T808, X808, e808, st808⟩ := getF X806 hx hZ hown (host := "") (Or.inl (own_W15 hw)) Via.refl e806 FH (g := (mkF m 16 #[.val (.ref a), .val (.int xs), .val (.double xv), .second] [(.ref a), (.ref B)])) rfl rfl (Jvm.hb hby d8_16)
  have pre809 := fun (τ : State) kt => pre807 τ (by
    refine XS.aloadN X806.here hx rfl (Jvm.hb hby d8_15) rfl rfl ?_
    exact st808 τ kt)
  obtain ⟨cl810, Ar810, q810, S810, M810, H810, U810⟩ := id VV
  have in810 : ¬ ((1 : Int32) < 0 ∨ cl810.slots.size ≤ ((1 : Int32)).toNatClampNeg) := inb_of S810 ⟨by decide, by decide⟩
  obtain ⟨T811, X811, e811, st811⟩ := getF X808 hx hZ hown (host := "") (Or.inl (own_W15 hw)) Via.refl e808 FH (g := (mkF m 40 #[.val (.ref a), .val (.int xs), .val (.double xv), .second] [(.ref a), (.ref a)])) rfl rfl (Jvm.hb hby d8_40)
  have pre812 := fun (τ : State) kt => pre809 τ (by
    refine X808.daload hx ((congrArg (fun (HH : Heap) => HH[B]?) (e808 : T808.heap = h0)).trans Ar810.1) (State.isArrayOf_alike hZ.alike Ar810.2.1) Ar810.2.2 in810 (H810.at in810 rfl) (g := (mkF m 19 #[.val (.ref a), .val (.int xs), .val (.double xv), .second] [(.int (1 : Int32)), (.ref B)])) rfl rfl (Jvm.hb hby d8_19) _ ?_
    refine own_dloadN X808.here hx rfl (Jvm.hb hby d8_20) rfl ?_
    refine own_dcmp X808.here hx rfl (Jvm.hb hby d8_21) rfl ?_
    refine XS.ifYes X808.here hx rfl (pc0 := 22) (pc' := 38) rfl (Jvm.hb hby d8_22) rfl ((if0 _ _).trans (tlt pc0).2.2.1) (by decide) (by decide) ?_
    refine XS.aloadN X808.here hx rfl (Jvm.hb hby d8_38) rfl rfl ?_
    refine XS.dup X808.here hx rfl (Jvm.hb hby d8_39) rfl rfl ?_
    exact st811 τ kt)
  obtain ⟨T813, h813, X813, e813, W813, st813⟩ := putF X811 hx hZ hown (host := "") (Or.inl (own_W15 hw)) Via.refl e811 FH E7 (Or.inl (own_W16 hw)) (own_W1 hw) (ty := .int) (by decide) rfl rfl (g := (mkF m 45 #[.val (.ref a), .val (.int xs), .val (.double xv), .second] [(.int (0 : Int32)), (.ref a)])) rfl rfl (Jvm.hb hby d8_45)
  have fw813 := Fld.same W813 FH
  have N813 := Fr.snoc X813 N0 ga
  have K813 : Keep h0 h813 [a, A, B] := KK0.wr W813 (Or.inl (by simp))
  have pre814 := fun (τ : State) kt => pre812 τ (by
    refine XS.iconst X811.here hx rfl (Jvm.hb hby d8_43) ?_
    refine XS.isub X811.here hx rfl (Jvm.hb hby d8_44) rfl ?_
    exact st813 τ kt)
  have f816 := (FS.other W813 (Or.inr (slot_ne (Or.inr (own_W11 hw)) (Or.inl (own_W16 hw)) (by decide) (t := (.array .int)) (t' := .int) (by decide) (by decide))))
  obtain ⟨T815, X815, e815, st815⟩ := getF X813 hx hZ hown (host := "") (Or.inl (own_W10 hw)) Via.refl e813 f816 (g := (mkF m 49 #[.val (.ref a), .val (.int xs), .val (.double xv), .second] [(.ref a)])) rfl rfl (Jvm.hb hby d8_49)
  have pre817 := fun (τ : State) kt => pre814 τ (by
    refine XS.aloadN X813.here hx rfl (Jvm.hb hby d8_48) rfl rfl ?_
    exact st815 τ kt)
  obtain ⟨T818, X818, e818, st818⟩ := getF X815 hx hZ hown (host := "") (Or.inl (own_W15 hw)) Via.refl e815 fw813 (g := (mkF m 53 #[.val (.ref a), .val (.int xs), .val (.double xv), .second] [(.ref a), (.ref A)])) rfl rfl (Jvm.hb hby d8_53)
  have pre819 := fun (τ : State) kt => pre817 τ (by
    refine XS.aloadN X815.here hx rfl (Jvm.hb hby d8_52) rfl rfl ?_
    exact st818 τ kt)
  have f820 := VS.other W813 (Ne.symm naA)
  obtain ⟨cl821, Ar821, q821, S821, M821, H821, U821⟩ := id f820
  obtain ⟨T822, h822, X822, e822, W822, st822⟩ := stI X818 hx hZ e818 Ar821 (j := (0 : Int32)) (inb_of S821 ⟨by decide, by decide⟩) (g := (mkF m 57 #[.val (.ref a), .val (.int xs), .val (.double xv), .second] [(.int xs), (.int (0 : Int32)), (.ref A)])) rfl rfl (Jvm.hb hby d8_57)
  have V822 : Arv Z h822 A kA .int (3 : Int32) [(.int xs), (.int s1), (.int s2)] (.int (0 : Int32)) := Arv.set Ar821 q821 S821 M821 H821 U821 rfl W822 0 rfl (Nat.le_of_ble_eq_true rfl)
  have N822 := Fr.snoc X822 N813 gA
  have K822 : Keep h0 h822 [a, A, B] := K813.wr W822 (Or.inl (by simp))
  have pre823 := fun (τ : State) kt => pre819 τ (by
    refine XS.iloadN X818.here hx rfl (Jvm.hb hby d8_56) rfl ?_
    exact st822 τ kt)
  have f825 := (FV.other W813 (Or.inr (slot_ne (Or.inr (own_W14 hw)) (Or.inl (own_W16 hw)) (by decide) (t := (.array .double)) (t' := .int) (by decide) (by decide))))
  have f826 := (f825.other W822 (Or.inl naA))
  obtain ⟨T824, X824, e824, st824⟩ := getF X822 hx hZ hown (host := "") (Or.inl (own_W13 hw)) Via.refl e822 f826 (g := (mkF m 59 #[.val (.ref a), .val (.int xs), .val (.double xv), .second] [(.ref a)])) rfl rfl (Jvm.hb hby d8_59)
  have pre827 := fun (τ : State) kt => pre823 τ (by
    refine XS.aloadN X822.here hx rfl (Jvm.hb hby d8_58) rfl rfl ?_
    exact st824 τ kt)
  have f829 := (fw813.other W822 (Or.inl naA))
  obtain ⟨T828, X828, e828, st828⟩ := getF X824 hx hZ hown (host := "") (Or.inl (own_W15 hw)) Via.refl e824 f829 (g := (mkF m 63 #[.val (.ref a), .val (.int xs), .val (.double xv), .second] [(.ref a), (.ref B)])) rfl rfl (Jvm.hb hby d8_63)
  have pre830 := fun (τ : State) kt => pre827 τ (by
    refine XS.aloadN X824.here hx rfl (Jvm.hb hby d8_62) rfl rfl ?_
    exact st828 τ kt)
  have f831 := VV.other W813 (Ne.symm naB)
  have f832 := f831.other W822 (Ne.symm nAB)
  obtain ⟨cl833, Ar833, q833, S833, M833, H833, U833⟩ := id f832
  obtain ⟨T834, h834, X834, e834, W834, st834⟩ := own_stD X828 hx hZ e828 Ar833 (j := (0 : Int32)) (inb_of S833 ⟨by decide, by decide⟩) (g := (mkF m 67 #[.val (.ref a), .val (.int xs), .val (.double xv), .second] [(.double xv), (.int (0 : Int32)), (.ref B)])) rfl rfl (Jvm.hb hby d8_67)
  have V834 : Arv Z h834 B kB .double (3 : Int32) [(.double xv), (.double v1), (.double v2)] (.double (0 : UInt64)) := Arv.set Ar833 q833 S833 M833 H833 U833 rfl W834 0 rfl (Nat.le_of_ble_eq_true rfl)
  have N834 := Fr.snoc X834 N822 gB
  have K834 : Keep h0 h834 [a, A, B] := K822.wr W834 (Or.inl (by simp))
  have pre835 := fun (τ : State) kt => pre830 τ (by
    refine own_dloadN X828.here hx rfl (Jvm.hb hby d8_66) rfl ?_
    exact st834 τ kt)
  have f836 := (f816.other W822 (Or.inl naA))
  have f837 := (f836.other W834 (Or.inl naB))
  have f838 := (f826.other W834 (Or.inl naB))
  have f839 := (f829.other W834 (Or.inl naB))
  have f840 := (FT.other W813 (Or.inr (slot_ne (Or.inl (own_W18 hw)) (Or.inl (own_W16 hw)) (by decide) (t := .int) (t' := .int) (by decide) (by decide))))
  have f841 := (f840.other W822 (Or.inl naA))
  have f842 := (f841.other W834 (Or.inl naB))
  have f843 := V822.other W834 nAB
  obtain ⟨fs, hrL, hrun, hended, hW, hsame⟩ := X834.leave (v := none) (fun _ => rfl)
  refine ⟨_, _, cast (congrFun hPS _) (pre835 _ ?_), hrun, hended, _, _, rfl, ?_, ⟨_, rfl⟩, hW, hsame.mono (by decide) (by decide)⟩
  · show Steps p.tables e below (T834.setTop (mkF m 68 #[.val (.ref a), .val (.int xs), .val (.double xv), .second] [])) _
    exact X834.returnOut hx Bd.returns (Jvm.hb hby d8_68) hrL
  · show QC Z a A B kA kB (0 : Int32) (3 : Int32) [(.int xs), (.int s1), (.int s2)] [(.double xv), (.double v1), (.double v2)] h0 n0 _ T834.heap _
    rw [e834]
    exact ⟨rfl, N834, K834, f837, f838, f839, f842, f843, V834⟩
set_option maxRecDepth 65536 in
set_option maxHeartbeats 40000000 in
theorem rmCap_03_xs (l : Launch) (Z : State) (a0 : Array Value) (hw : ∀ d ∈ tables_1, d.before a0 Z = true) (ws : List Jvm.Cond) (a : Addr) (xv : UInt64) (A B : Addr) (kA kB : ClassId) (s0 s1 s2 : Int32) (v0 v1 v2 : UInt64) (h0 : Heap) (n0 : Nat) (Z0 : n0 ≤ h0.size) (E7 : Exa Z h0 a own_CM) (FS : Fld Z h0 a own_CM "samples" "[I" (.ref A)) (FV : Fld Z h0 a own_CM "values" "[D" (.ref B)) (FH : Fld Z h0 a own_CM "head" "I" (.int (0 : Int32))) (FT : Fld Z h0 a own_CM "tail" "I" (.int (3 : Int32))) (VS : Arv Z h0 A kA .int (3 : Int32) [(.int s0), (.int s1), (.int s2)] (.int (0 : Int32))) (VV : Arv Z h0 B kB .double (3 : Int32) [(.double v0), (.double v1), (.double v2)] (.double (0 : UInt64))) (naA : a ≠ A) (naB : a ≠ B) (nAB : A ≠ B) (ga : n0 ≤ a) (gA : n0 ≤ A) (gB : n0 ≤ B) (pc0 : cmpValue (FP.dcmp v1 xv) .l < 0) (pc1 : (0 : Int32) < cmpValue (FP.dcmp v2 xv) .l) :
    MetFree l (⟨"com/example/counterpath/counterpath/core/CappedMaximum", "cap", "(D)V"⟩ : MethodName) (head1 (Jvm.Cond.code (⟨"com/example/counterpath/counterpath/core/CappedMaximum", "cap", "(D)V"⟩ : MethodName) prog_3_method_3_code 3 none :: ws) ({ frames := 0, cells := 0, slots := 0, locals := 0 } : Room)) (fun α U => α = #[(.ref a), (.double xv)] ∧ Z.Warmed39 U.vm ∧ U.heap = h0) (fun _ _ _ _ _ => True) (fun _ U ω U' => ∃ ν Λ, ω = .returned ν ∧ QC Z a A B kA kB (0 : Int32) (3 : Int32) [(.int s0), (.int s1), (.int s2)] [(.double v0), (.double v1), (.double xv)] h0 n0 ν U'.heap Λ ∧ FrameEnd U ω U' Λ ({ frames := 0, cells := 0, slots := 0, locals := 0 } : Room).cells ({ frames := 0, cells := 0, slots := 0, locals := 0 } : Room).slots) := by
  refine MetFree.of_bodySF (plainFor_of_name own_pn_com_example_counterpath_counterpath_core_CappedMaximum) hisR ?_
  intro p e s m args below meth c s₁ Bd hml0 hP hK
  obtain ⟨rfl, hZ, hh⟩ := hP
  have hx := Bd.exec
  have hby := Bd.bytes
  have hml : c.maxLocals = 3 := hml0
  have hown : s.vm.findClass "com/example/counterpath/counterpath/core/CappedMaximum" = some m.cls := findClass_of_methodNamed Bd.named
  have hnm := (name_of_methodNamed Bd.named Bd.method).1
  have X0 : Stand p l e ({ frames := 0, cells := 0, slots := 0, locals := 0 } : Room) s m #[(.ref a), (.double xv)] below meth c s₁ [] 0 0 := Stand.of_body Bd
  have e0 : s₁.heap = h0 := by rw [← hh, Bd.state]; rfl
  have N0 := Fr.nil n0
  have KK0 : Keep h0 h0 [a, A, B] := Keep.refl h0 [a, A, B]
  obtain ⟨PS, hPS⟩ : ∃ P : State → Prop, P = fun τ => Steps p.tables e below (s₁.setTop (entryFrame m #[(.ref a), (.double xv)] 3)) τ := ⟨_, rfl⟩
  have pre0 : ∀ τ, Steps p.tables e below (s₁.setTop (mkF m 0 #[.val (.ref a), .val (.double xv), .second] [])) τ → PS τ := by rw [hPS]; exact fun τ κ => castTop (own_ef3 m a xv) κ
  obtain ⟨T850, X850, e850, st850⟩ := getF X0 hx hZ hown (host := "") (Or.inl (own_W17 hw)) Via.refl e0 FT (g := (mkF m 1 #[.val (.ref a), .val (.double xv), .second] [(.ref a)])) rfl rfl (Jvm.hb hby d3_1)
  have pre851 := fun (τ : State) kt => pre0 τ (by
    refine XS.aloadN X0.here hx rfl (Jvm.hb hby d3_0) rfl rfl ?_
    exact st850 τ kt)
  obtain ⟨T852, X852, e852, st852⟩ := getF X850 hx hZ hown (host := "") (Or.inl (own_W15 hw)) Via.refl e850 FH (g := (mkF m 5 #[.val (.ref a), .val (.double xv), .second] [(.ref a), (.int (3 : Int32))])) rfl rfl (Jvm.hb hby d3_5)
  have pre853 := fun (τ : State) kt => pre851 τ (by
    refine XS.aloadN X850.here hx rfl (Jvm.hb hby d3_4) rfl rfl ?_
    exact st852 τ kt)
  obtain ⟨T854, X854, e854, st854⟩ := getF X852 hx hZ hown (host := "") (Or.inl (own_W13 hw)) Via.refl e852 FV (g := (mkF m 14 #[.val (.ref a), .val (.double xv), .second] [(.ref a)])) rfl rfl (Jvm.hb hby d3_14)
  have pre855 := fun (τ : State) kt => pre853 τ (by
    refine XS.isub X852.here hx rfl (Jvm.hb hby d3_8) rfl ?_
    refine XS.iconst X852.here hx rfl (Jvm.hb hby d3_9) ?_
    refine XS.icmpNo X852.here hx rfl (Jvm.hb hby d3_10) rfl (flt (by decide)).1 ?_
    refine XS.aloadN X852.here hx rfl (Jvm.hb hby d3_13) rfl rfl ?_
    exact st854 τ kt)
  obtain ⟨T856, X856, e856, st856⟩ := getF X854 hx hZ hown (host := "") (Or.inl (own_W17 hw)) Via.refl e854 FT (g := (mkF m 18 #[.val (.ref a), .val (.double xv), .second] [(.ref a), (.ref B)])) rfl rfl (Jvm.hb hby d3_18)
  have pre857 := fun (τ : State) kt => pre855 τ (by
    refine XS.aloadN X854.here hx rfl (Jvm.hb hby d3_17) rfl rfl ?_
    exact st856 τ kt)
  obtain ⟨cl858, Ar858, q858, S858, M858, H858, U858⟩ := id VV
  have in858 : ¬ ((1 : Int32) < 0 ∨ cl858.slots.size ≤ ((1 : Int32)).toNatClampNeg) := inb_of S858 ⟨by decide, by decide⟩
  obtain ⟨T859, X859, e859, st859⟩ := getF X856 hx hZ hown (host := "") (Or.inl (own_W17 hw)) Via.refl e856 FT (g := (mkF m 43 #[.val (.ref a), .val (.double xv), .second] [(.ref a)])) rfl rfl (Jvm.hb hby d3_43)
  have pre860 := fun (τ : State) kt => pre857 τ (by
    refine XS.iconst X856.here hx rfl (Jvm.hb hby d3_21) ?_
    refine XS.isub X856.here hx rfl (Jvm.hb hby d3_22) rfl ?_
    refine X856.daload hx ((congrArg (fun (HH : Heap) => HH[B]?) (e856 : T856.heap = h0)).trans Ar858.1) (State.isArrayOf_alike hZ.alike Ar858.2.1) Ar858.2.2 in858 (H858.at in858 rfl) (g := (mkF m 23 #[.val (.ref a), .val (.double xv), .second] [(.int (1 : Int32)), (.ref B)])) rfl rfl (Jvm.hb hby d3_23) _ ?_
    refine own_dloadN X856.here hx rfl (Jvm.hb hby d3_24) rfl ?_
    refine own_dcmp X856.here hx rfl (Jvm.hb hby d3_25) rfl ?_
    refine XS.ifYes X856.here hx rfl (pc0 := 26) (pc' := 42) rfl (Jvm.hb hby d3_26) rfl ((if0 _ _).trans (tlt pc0).1) (by decide) (by decide) ?_
    refine XS.aloadN X856.here hx rfl (Jvm.hb hby d3_42) rfl rfl ?_
    exact st859 τ kt)
  obtain ⟨T861, X861, e861, st861⟩ := getF X859 hx hZ hown (host := "") (Or.inl (own_W15 hw)) Via.refl e859 FH (g := (mkF m 47 #[.val (.ref a), .val (.double xv), .second] [(.ref a), (.int (3 : Int32))])) rfl rfl (Jvm.hb hby d3_47)
  have pre862 := fun (τ : State) kt => pre860 τ (by
    refine XS.aloadN X859.here hx rfl (Jvm.hb hby d3_46) rfl rfl ?_
    exact st861 τ kt)
  obtain ⟨T863, X863, e863, st863⟩ := getF X861 hx hZ hown (host := "") (Or.inl (own_W13 hw)) Via.refl e861 FV (g := (mkF m 54 #[.val (.ref a), .val (.double xv), .second] [(.ref a)])) rfl rfl (Jvm.hb hby d3_54)
  have pre864 := fun (τ : State) kt => pre862 τ (by
    refine XS.icmpNo X861.here hx rfl (Jvm.hb hby d3_50) rfl (tlt (by decide)).2.2.2 ?_
    refine XS.aloadN X861.here hx rfl (Jvm.hb hby d3_53) rfl rfl ?_
    exact st863 τ kt)
  obtain ⟨T865, X865, e865, st865⟩ := getF X863 hx hZ hown (host := "") (Or.inl (own_W17 hw)) Via.refl e863 FT (g := (mkF m 58 #[.val (.ref a), .val (.double xv), .second] [(.ref a), (.ref B)])) rfl rfl (Jvm.hb hby d3_58)
  have pre866 := fun (τ : State) kt => pre864 τ (by
    refine XS.aloadN X863.here hx rfl (Jvm.hb hby d3_57) rfl rfl ?_
    exact st865 τ kt)
  obtain ⟨cl867, Ar867, q867, S867, M867, H867, U867⟩ := id VV
  have in867 : ¬ ((2 : Int32) < 0 ∨ cl867.slots.size ≤ ((2 : Int32)).toNatClampNeg) := inb_of S867 ⟨by decide, by decide⟩
  obtain ⟨T868, X868, e868, st868⟩ := getF X865 hx hZ hown (host := "") (Or.inl (own_W13 hw)) Via.refl e865 FV (g := (mkF m 70 #[.val (.ref a), .val (.double xv), .second] [(.ref a)])) rfl rfl (Jvm.hb hby d3_70)
  have pre869 := fun (τ : State) kt => pre866 τ (by
    refine XS.iconst X865.here hx rfl (Jvm.hb hby d3_61) ?_
    refine XS.isub X865.here hx rfl (Jvm.hb hby d3_62) rfl ?_
    refine X865.daload hx ((congrArg (fun (HH : Heap) => HH[B]?) (e865 : T865.heap = h0)).trans Ar867.1) (State.isArrayOf_alike hZ.alike Ar867.2.1) Ar867.2.2 in867 (H867.at in867 rfl) (g := (mkF m 63 #[.val (.ref a), .val (.double xv), .second] [(.int (2 : Int32)), (.ref B)])) rfl rfl (Jvm.hb hby d3_63) _ ?_
    refine own_dloadN X865.here hx rfl (Jvm.hb hby d3_64) rfl ?_
    refine own_dcmp X865.here hx rfl (Jvm.hb hby d3_65) rfl ?_
    refine XS.ifNo X865.here hx rfl (Jvm.hb hby d3_66) rfl ((if0 _ _).trans (tlt pc1).2.2.2) ?_
    refine XS.aloadN X865.here hx rfl (Jvm.hb hby d3_69) rfl rfl ?_
    exact st868 τ kt)
  obtain ⟨T870, X870, e870, st870⟩ := getF X868 hx hZ hown (host := "") (Or.inl (own_W17 hw)) Via.refl e868 FT (g := (mkF m 74 #[.val (.ref a), .val (.double xv), .second] [(.ref a), (.ref B)])) rfl rfl (Jvm.hb hby d3_74)
  have pre871 := fun (τ : State) kt => pre869 τ (by
    refine XS.aloadN X868.here hx rfl (Jvm.hb hby d3_73) rfl rfl ?_
    exact st870 τ kt)
  obtain ⟨cl872, Ar872, q872, S872, M872, H872, U872⟩ := id VV
  obtain ⟨T873, h873, X873, e873, W873, st873⟩ := own_stD X870 hx hZ e870 Ar872 (j := (2 : Int32)) (inb_of S872 ⟨by decide, by decide⟩) (g := (mkF m 80 #[.val (.ref a), .val (.double xv), .second] [(.double xv), (.int (2 : Int32)), (.ref B)])) rfl rfl (Jvm.hb hby d3_80)
  have V873 : Arv Z h873 B kB .double (3 : Int32) [(.double v0), (.double v1), (.double xv)] (.double (0 : UInt64)) := Arv.set Ar872 q872 S872 M872 H872 U872 rfl W873 2 rfl (Nat.le_of_ble_eq_true rfl)
  have N873 := Fr.snoc X873 N0 gB
  have K873 : Keep h0 h873 [a, A, B] := KK0.wr W873 (Or.inl (by simp))
  have pre874 := fun (τ : State) kt => pre871 τ (by
    refine XS.iconst X870.here hx rfl (Jvm.hb hby d3_77) ?_
    refine XS.isub X870.here hx rfl (Jvm.hb hby d3_78) rfl ?_
    refine own_dloadN X870.here hx rfl (Jvm.hb hby d3_79) rfl ?_
    exact st873 τ kt)
  have f875 := (FS.other W873 (Or.inl naB))
  have f876 := (FV.other W873 (Or.inl naB))
  have f877 := (FH.other W873 (Or.inl naB))
  have f878 := (FT.other W873 (Or.inl naB))
  have f879 := VS.other W873 nAB
  obtain ⟨fs, hrL, hrun, hended, hW, hsame⟩ := X873.leave (v := none) (fun _ => rfl)
  refine ⟨_, _, cast (congrFun hPS _) (pre874 _ ?_), hrun, hended, _, _, rfl, ?_, ⟨_, rfl⟩, hW, hsame.mono (by decide) (by decide)⟩
  · show Steps p.tables e below (T873.setTop (mkF m 81 #[.val (.ref a), .val (.double xv), .second] [])) _
    exact X873.returnOut hx Bd.returns (Jvm.hb hby d3_81) hrL
  · show QC Z a A B kA kB (0 : Int32) (3 : Int32) [(.int s0), (.int s1), (.int s2)] [(.double v0), (.double v1), (.double xv)] h0 n0 _ T873.heap _
    rw [e873]
    exact ⟨rfl, N873, K873, f875, f876, f877, f878, f879, V873⟩
set_option maxRecDepth 65536 in
set_option maxHeartbeats 40000000 in
theorem rmMax_03 (l : Launch) (Z : State) (a0 : Array Value) (hw : ∀ d ∈ tables_1, d.before a0 Z = true) (ws : List Jvm.Cond) (a : Addr) (A B : Addr) (kA kB : ClassId) (s0 s1 s2 : Int32) (v0 v1 v2 : UInt64) (h0 : Heap) (n0 : Nat) (Z0 : n0 ≤ h0.size) (E7 : Exa Z h0 a own_CM) (FS : Fld Z h0 a own_CM "samples" "[I" (.ref A)) (FV : Fld Z h0 a own_CM "values" "[D" (.ref B)) (FH : Fld Z h0 a own_CM "head" "I" (.int (0 : Int32))) (FT : Fld Z h0 a own_CM "tail" "I" (.int (3 : Int32))) (VS : Arv Z h0 A kA .int (3 : Int32) [(.int s0), (.int s1), (.int s2)] (.int (0 : Int32))) (VV : Arv Z h0 B kB .double (3 : Int32) [(.double v0), (.double v1), (.double v2)] (.double (0 : UInt64))) (naA : a ≠ A) (naB : a ≠ B) (nAB : A ≠ B) (ga : n0 ≤ a) (gA : n0 ≤ A) (gB : n0 ≤ B)  :
    MetFree l (⟨"com/example/counterpath/counterpath/core/CappedMaximum", "maximum", "()D"⟩ : MethodName) (head1 (Jvm.Cond.code (⟨"com/example/counterpath/counterpath/core/CappedMaximum", "maximum", "()D"⟩ : MethodName) prog_3_method_5_code 1 (some .double) :: ws) ({ frames := 0, cells := 0, slots := 0, locals := 0 } : Room)) (fun α U => α = #[(.ref a)] ∧ Z.Warmed39 U.vm ∧ U.heap = h0) (fun _ _ _ _ _ => True) (fun _ U ω U' => ∃ ν Λ, ω = .returned ν ∧ QD v2 h0 n0 ν U'.heap Λ ∧ FrameEnd U ω U' Λ ({ frames := 0, cells := 0, slots := 0, locals := 0 } : Room).cells ({ frames := 0, cells := 0, slots := 0, locals := 0 } : Room).slots) := by
  refine MetFree.of_bodySF (plainFor_of_name own_pn_com_example_counterpath_counterpath_core_CappedMaximum) hisR ?_
  intro p e s m args below meth c s₁ Bd hml0 hP hK
  obtain ⟨rfl, hZ, hh⟩ := hP
  have hx := Bd.exec
  have hby := Bd.bytes
  have hml : c.maxLocals = 1 := hml0
  have hown : s.vm.findClass "com/example/counterpath/counterpath/core/CappedMaximum" = some m.cls := findClass_of_methodNamed Bd.named
  have hnm := (name_of_methodNamed Bd.named Bd.method).1
  have X0 : Stand p l e ({ frames := 0, cells := 0, slots := 0, locals := 0 } : Room) s m #[(.ref a)] below meth c s₁ [] 0 0 := Stand.of_body Bd
  have e0 : s₁.heap = h0 := by rw [← hh, Bd.state]; rfl
  have N0 := Fr.nil n0
  have KK0 : Keep h0 h0 [] := Keep.refl h0 []
  obtain ⟨PS, hPS⟩ : ∃ P : State → Prop, P = fun τ => Steps p.tables e below (s₁.setTop (entryFrame m #[(.ref a)] 1)) τ := ⟨_, rfl⟩
  have pre0 : ∀ τ, Steps p.tables e below (s₁.setTop (mkF m 0 #[.val (.ref a)] [])) τ → PS τ := by rw [hPS]; exact fun τ κ => castTop (own_ef4 m a) κ
  obtain ⟨T883, X883, e883, st883⟩ := getF X0 hx hZ hown (host := "") (Or.inl (own_W17 hw)) Via.refl e0 FT (g := (mkF m 1 #[.val (.ref a)] [(.ref a)])) rfl rfl (Jvm.hb hby d4_1)
  have pre884 := fun (τ : State) kt => pre0 τ (by
    refine XS.aloadN X0.here hx rfl (Jvm.hb hby d4_0) rfl rfl ?_
    exact st883 τ kt)
  obtain ⟨T885, X885, e885, st885⟩ := getF X883 hx hZ hown (host := "") (Or.inl (own_W15 hw)) Via.refl e883 FH (g := (mkF m 5 #[.val (.ref a)] [(.ref a), (.int (3 : Int32))])) rfl rfl (Jvm.hb hby d4_5)
  have pre886 := fun (τ : State) kt => pre884 τ (by
    refine XS.aloadN X883.here hx rfl (Jvm.hb hby d4_4) rfl rfl ?_
    exact st885 τ kt)
  obtain ⟨T887, X887, e887, st887⟩ := getF X885 hx hZ hown (host := "") (Or.inl (own_W13 hw)) Via.refl e885 FV (g := (mkF m 12 #[.val (.ref a)] [(.ref a)])) rfl rfl (Jvm.hb hby d4_12)
  have pre888 := fun (τ : State) kt => pre886 τ (by
    refine XS.icmpNo X885.here hx rfl (Jvm.hb hby d4_8) rfl (tlt (by decide)).2.2.2 ?_
    refine XS.aloadN X885.here hx rfl (Jvm.hb hby d4_11) rfl rfl ?_
    exact st887 τ kt)
  obtain ⟨T889, X889, e889, st889⟩ := getF X887 hx hZ hown (host := "") (Or.inl (own_W17 hw)) Via.refl e887 FT (g := (mkF m 16 #[.val (.ref a)] [(.ref a), (.ref B)])) rfl rfl (Jvm.hb hby d4_16)
  have pre890 := fun (τ : State) kt => pre888 τ (by
    refine XS.aloadN X887.here hx rfl (Jvm.hb hby d4_15) rfl rfl ?_
    exact st889 τ kt)
  obtain ⟨cl891, Ar891, q891, S891, M891, H891, U891⟩ := id VV
  have in891 : ¬ ((2 : Int32) < 0 ∨ cl891.slots.size ≤ ((2 : Int32)).toNatClampNeg) := inb_of S891 ⟨by decide, by decide⟩
  have pre892 := fun (τ : State) kt => pre890 τ (by
    refine XS.iconst X889.here hx rfl (Jvm.hb hby d4_19) ?_
    refine XS.isub X889.here hx rfl (Jvm.hb hby d4_20) rfl ?_
    refine X889.daload hx ((congrArg (fun (HH : Heap) => HH[B]?) (e889 : T889.heap = h0)).trans Ar891.1) (State.isArrayOf_alike hZ.alike Ar891.2.1) Ar891.2.2 in891 (H891.at in891 rfl) (g := (mkF m 21 #[.val (.ref a)] [(.int (2 : Int32)), (.ref B)])) rfl rfl (Jvm.hb hby d4_21) _ ?_
    refine XS.goto X889.here hx rfl (pc0 := 22) (pc' := 28) rfl (Jvm.hb hby d4_22) (by decide) (by decide) ?_
    exact kt)
  obtain ⟨fs, hrL, hrun, hended, hW, hsame⟩ := X889.leave (v := some (.double v2)) (fun h => by rw [Bd.returns] at h; cases h)
  refine ⟨_, _, cast (congrFun hPS _) (pre892 _ ?_), hrun, hended, _, _, rfl, ?_, ⟨_, rfl⟩, hW, hsame.mono (by decide) (by decide)⟩
  · show Steps p.tables e below (T889.setTop (mkF m 28 #[.val (.ref a)] [(.double v2)])) _
    exact own_retD X889 hx Bd.returns (Jvm.hb hby d4_28) hrL
  · show QD v2 h0 n0 _ T889.heap _
    rw [e889]
    exact ⟨rfl, N0, rfl⟩
set_option maxRecDepth 65536 in
set_option maxHeartbeats 40000000 in
theorem rmRem_03_cx (l : Launch) (Z : State) (a0 : Array Value) (hw : ∀ d ∈ tables_1, d.before a0 Z = true) (ws : List Jvm.Cond) (a : Addr) (xs : Int32) (A B : Addr) (kA kB : ClassId) (s0 s1 s2 : Int32) (v0 v1 v2 : UInt64) (h0 : Heap) (n0 : Nat) (Z0 : n0 ≤ h0.size) (E7 : Exa Z h0 a own_CM) (FS : Fld Z h0 a own_CM "samples" "[I" (.ref A)) (FV : Fld Z h0 a own_CM "values" "[D" (.ref B)) (FH : Fld Z h0 a own_CM "head" "I" (.int (0 : Int32))) (FT : Fld Z h0 a own_CM "tail" "I" (.int (3 : Int32))) (VS : Arv Z h0 A kA .int (3 : Int32) [(.int s0), (.int s1), (.int s2)] (.int (0 : Int32))) (VV : Arv Z h0 B kB .double (3 : Int32) [(.double v0), (.double v1), (.double v2)] (.double (0 : UInt64))) (naA : a ≠ A) (naB : a ≠ B) (nAB : A ≠ B) (ga : n0 ≤ a) (gA : n0 ≤ A) (gB : n0 ≤ B) (pc0 : xs < s2) (pc1 : ¬ (xs < s1)) :
    MetFree l (⟨"com/example/counterpath/counterpath/core/CappedMaximum", "removeAfter", "(I)V"⟩ : MethodName) (head1 (Jvm.Cond.code (⟨"com/example/counterpath/counterpath/core/CappedMaximum", "removeAfter", "(I)V"⟩ : MethodName) prog_3_method_4_code 2 none :: ws) ({ frames := 0, cells := 0, slots := 0, locals := 0 } : Room)) (fun α U => α = #[(.ref a), (.int xs)] ∧ Z.Warmed39 U.vm ∧ U.heap = h0) (fun _ _ _ _ _ => True) (fun _ U ω U' => ∃ ν Λ, ω = .returned ν ∧ QC Z a A B kA kB (0 : Int32) (2 : Int32) [(.int s0), (.int s1), (.int s2)] [(.double v0), (.double v1), (.double v2)] h0 n0 ν U'.heap Λ ∧ FrameEnd U ω U' Λ ({ frames := 0, cells := 0, slots := 0, locals := 0 } : Room).cells ({ frames := 0, cells := 0, slots := 0, locals := 0 } : Room).slots) := by
  refine MetFree.of_bodySF (plainFor_of_name own_pn_com_example_counterpath_counterpath_core_CappedMaximum) hisR ?_
  intro p e s m args below meth c s₁ Bd hml0 hP hK
  obtain ⟨rfl, hZ, hh⟩ := hP
  have hx := Bd.exec
  have hby := Bd.bytes
  have hml : c.maxLocals = 2 := hml0
  have hown : s.vm.findClass "com/example/counterpath/counterpath/core/CappedMaximum" = some m.cls := findClass_of_methodNamed Bd.named
  have hnm := (name_of_methodNamed Bd.named Bd.method).1
  have X0 : Stand p l e ({ frames := 0, cells := 0, slots := 0, locals := 0 } : Room) s m #[(.ref a), (.int xs)] below meth c s₁ [] 0 0 := Stand.of_body Bd
  have e0 : s₁.heap = h0 := by rw [← hh, Bd.state]; rfl
  have N0 := Fr.nil n0
  have KK0 : Keep h0 h0 [a, A, B] := Keep.refl h0 [a, A, B]
  obtain ⟨PS, hPS⟩ : ∃ P : State → Prop, P = fun τ => Steps p.tables e below (s₁.setTop (entryFrame m #[(.ref a), (.int xs)] 2)) τ := ⟨_, rfl⟩
  have pre0 : ∀ τ, Steps p.tables e below (s₁.setTop (mkF m 0 #[.val (.ref a), .val (.int xs)] [])) τ → PS τ := by rw [hPS]; exact fun τ κ => castTop (own_ef7 m a xs) κ
  obtain ⟨T902, X902, e902, st902⟩ := getF X0 hx hZ hown (host := "") (Or.inl (own_W17 hw)) Via.refl e0 FT (g := (mkF m 1 #[.val (.ref a), .val (.int xs)] [(.ref a)])) rfl rfl (Jvm.hb hby d7_1)
  have pre903 := fun (τ : State) kt => pre0 τ (by
    refine XS.aloadN X0.here hx rfl (Jvm.hb hby d7_0) rfl rfl ?_
    exact st902 τ kt)
  obtain ⟨T904, X904, e904, st904⟩ := getF X902 hx hZ hown (host := "") (Or.inl (own_W15 hw)) Via.refl e902 FH (g := (mkF m 5 #[.val (.ref a), .val (.int xs)] [(.ref a), (.int (3 : Int32))])) rfl rfl (Jvm.hb hby d7_5)
  have pre905 := fun (τ : State) kt => pre903 τ (by
    refine XS.aloadN X902.here hx rfl (Jvm.hb hby d7_4) rfl rfl ?_
    exact st904 τ kt)
  obtain ⟨T906, X906, e906, st906⟩ := getF X904 hx hZ hown (host := "") (Or.inl (own_W10 hw)) Via.refl e904 FS (g := (mkF m 12 #[.val (.ref a), .val (.int xs)] [(.ref a)])) rfl rfl (Jvm.hb hby d7_12)
  have pre907 := fun (τ : State) kt => pre905 τ (by
    refine XS.icmpNo X904.here hx rfl (Jvm.hb hby d7_8) rfl (tlt (by decide)).2.2.2 ?_
    refine XS.aloadN X904.here hx rfl (Jvm.hb hby d7_11) rfl rfl ?_
    exact st906 τ kt)
  obtain ⟨T908, X908, e908, st908⟩ := getF X906 hx hZ hown (host := "") (Or.inl (own_W17 hw)) Via.refl e906 FT (g := (mkF m 16 #[.val (.ref a), .val (.int xs)] [(.ref a), (.ref A)])) rfl rfl (Jvm.hb hby d7_16)
  have pre909 := fun (τ : State) kt => pre907 τ (by
    refine XS.aloadN X906.here hx rfl (Jvm.hb hby d7_15) rfl rfl ?_
    exact st908 τ kt)
  obtain ⟨cl910, Ar910, q910, S910, M910, H910, U910⟩ := id VS
  have in910 : ¬ ((2 : Int32) < 0 ∨ cl910.slots.size ≤ ((2 : Int32)).toNatClampNeg) := inb_of S910 ⟨by decide, by decide⟩
  obtain ⟨T911, X911, e911, st911⟩ := getF X908 hx hZ hown (host := "") (Or.inl (own_W17 hw)) Via.refl e908 FT (g := (mkF m 28 #[.val (.ref a), .val (.int xs)] [(.ref a), (.ref a)])) rfl rfl (Jvm.hb hby d7_28)
  have pre912 := fun (τ : State) kt => pre909 τ (by
    refine XS.iconst X908.here hx rfl (Jvm.hb hby d7_19) ?_
    refine XS.isub X908.here hx rfl (Jvm.hb hby d7_20) rfl ?_
    refine X908.iaload hx ((congrArg (fun (HH : Heap) => HH[A]?) (e908 : T908.heap = h0)).trans Ar910.1) (State.isArrayOf_alike hZ.alike Ar910.2.1) Ar910.2.2 in910 (H910.at in910 rfl) (g := (mkF m 21 #[.val (.ref a), .val (.int xs)] [(.int (2 : Int32)), (.ref A)])) rfl rfl (Jvm.hb hby d7_21) _ ?_
    refine XS.iloadN X908.here hx rfl (Jvm.hb hby d7_22) rfl ?_
    refine XS.icmpNo X908.here hx rfl (Jvm.hb hby d7_23) rfl (tlt pc0).2.2.2 ?_
    refine XS.aloadN X908.here hx rfl (Jvm.hb hby d7_26) rfl rfl ?_
    refine XS.dup X908.here hx rfl (Jvm.hb hby d7_27) rfl rfl ?_
    exact st911 τ kt)
  obtain ⟨T913, h913, X913, e913, W913, st913⟩ := putF X911 hx hZ hown (host := "") (Or.inl (own_W17 hw)) Via.refl e911 FT E7 (Or.inl (own_W18 hw)) (own_W1 hw) (ty := .int) (by decide) rfl rfl (g := (mkF m 33 #[.val (.ref a), .val (.int xs)] [(.int (2 : Int32)), (.ref a)])) rfl rfl (Jvm.hb hby d7_33)
  have fw913 := Fld.same W913 FT
  have N913 := Fr.snoc X913 N0 ga
  have K913 : Keep h0 h913 [a, A, B] := KK0.wr W913 (Or.inl (by simp))
  have pre914 := fun (τ : State) kt => pre912 τ (by
    refine XS.iconst X911.here hx rfl (Jvm.hb hby d7_31) ?_
    refine XS.isub X911.here hx rfl (Jvm.hb hby d7_32) rfl ?_
    exact st913 τ kt)
  obtain ⟨T915, X915, e915, st915⟩ := getF X913 hx hZ hown (host := "") (Or.inl (own_W17 hw)) Via.refl e913 fw913 (g := (mkF m 1 #[.val (.ref a), .val (.int xs)] [(.ref a)])) rfl rfl (Jvm.hb hby d7_1)
  have pre916 := fun (τ : State) kt => pre914 τ (by
    refine XS.goto X913.here hx rfl (pc0 := 36) (pc' := 0) rfl (Jvm.hb hby d7_36) (by decide) (by decide) ?_
    refine XS.aloadN X913.here hx rfl (Jvm.hb hby d7_0) rfl rfl ?_
    exact st915 τ kt)
  have f918 := (FH.other W913 (Or.inr (slot_ne (Or.inl (own_W16 hw)) (Or.inl (own_W18 hw)) (by decide) (t := .int) (t' := .int) (by decide) (by decide))))
  obtain ⟨T917, X917, e917, st917⟩ := getF X915 hx hZ hown (host := "") (Or.inl (own_W15 hw)) Via.refl e915 f918 (g := (mkF m 5 #[.val (.ref a), .val (.int xs)] [(.ref a), (.int (2 : Int32))])) rfl rfl (Jvm.hb hby d7_5)
  have pre919 := fun (τ : State) kt => pre916 τ (by
    refine XS.aloadN X915.here hx rfl (Jvm.hb hby d7_4) rfl rfl ?_
    exact st917 τ kt)
  have f921 := (FS.other W913 (Or.inr (slot_ne (Or.inr (own_W11 hw)) (Or.inl (own_W18 hw)) (by decide) (t := (.array .int)) (t' := .int) (by decide) (by decide))))
  obtain ⟨T920, X920, e920, st920⟩ := getF X917 hx hZ hown (host := "") (Or.inl (own_W10 hw)) Via.refl e917 f921 (g := (mkF m 12 #[.val (.ref a), .val (.int xs)] [(.ref a)])) rfl rfl (Jvm.hb hby d7_12)
  have pre922 := fun (τ : State) kt => pre919 τ (by
    refine XS.icmpNo X917.here hx rfl (Jvm.hb hby d7_8) rfl (tlt (by decide)).2.2.2 ?_
    refine XS.aloadN X917.here hx rfl (Jvm.hb hby d7_11) rfl rfl ?_
    exact st920 τ kt)
  obtain ⟨T923, X923, e923, st923⟩ := getF X920 hx hZ hown (host := "") (Or.inl (own_W17 hw)) Via.refl e920 fw913 (g := (mkF m 16 #[.val (.ref a), .val (.int xs)] [(.ref a), (.ref A)])) rfl rfl (Jvm.hb hby d7_16)
  have pre924 := fun (τ : State) kt => pre922 τ (by
    refine XS.aloadN X920.here hx rfl (Jvm.hb hby d7_15) rfl rfl ?_
    exact st923 τ kt)
  have f925 := VS.other W913 (Ne.symm naA)
  obtain ⟨cl926, Ar926, q926, S926, M926, H926, U926⟩ := id f925
  have in926 : ¬ ((1 : Int32) < 0 ∨ cl926.slots.size ≤ ((1 : Int32)).toNatClampNeg) := inb_of S926 ⟨by decide, by decide⟩
  have f927 := (FV.other W913 (Or.inr (slot_ne (Or.inr (own_W14 hw)) (Or.inl (own_W18 hw)) (by decide) (t := (.array .double)) (t' := .int) (by decide) (by decide))))
  have f928 := VV.other W913 (Ne.symm naB)
  have pre929 := fun (τ : State) kt => pre924 τ (by
    refine XS.iconst X923.here hx rfl (Jvm.hb hby d7_19) ?_
    refine XS.isub X923.here hx rfl (Jvm.hb hby d7_20) rfl ?_
    refine X923.iaload hx ((congrArg (fun (HH : Heap) => HH[A]?) (e923 : T923.heap = h913)).trans Ar926.1) (State.isArrayOf_alike hZ.alike Ar926.2.1) Ar926.2.2 in926 (H926.at in926 rfl) (g := (mkF m 21 #[.val (.ref a), .val (.int xs)] [(.int (1 : Int32)), (.ref A)])) rfl rfl (Jvm.hb hby d7_21) _ ?_
    refine XS.iloadN X923.here hx rfl (Jvm.hb hby d7_22) rfl ?_
    refine XS.icmpYes X923.here hx rfl (pc0 := 23) (pc' := 39) rfl (Jvm.hb hby d7_23) rfl (flt pc1).2.2.2 (by decide) (by decide) ?_
    exact kt)
  obtain ⟨fs, hrL, hrun, hended, hW, hsame⟩ := X923.leave (v := none) (fun _ => rfl)
  refine ⟨_, _, cast (congrFun hPS _) (pre929 _ ?_), hrun, hended, _, _, rfl, ?_, ⟨_, rfl⟩, hW, hsame.mono (by decide) (by decide)⟩
  · show Steps p.tables e below (T923.setTop (mkF m 39 #[.val (.ref a), .val (.int xs)] [])) _
    exact X923.returnOut hx Bd.returns (Jvm.hb hby d7_39) hrL
  · show QC Z a A B kA kB (0 : Int32) (2 : Int32) [(.int s0), (.int s1), (.int s2)] [(.double v0), (.double v1), (.double v2)] h0 n0 _ T923.heap _
    rw [e923]
    exact ⟨rfl, N913, K913, f921, f927, f918, fw913, f925, f928⟩
set_option maxRecDepth 65536 in
set_option maxHeartbeats 40000000 in
theorem rmMax_02 (l : Launch) (Z : State) (a0 : Array Value) (hw : ∀ d ∈ tables_1, d.before a0 Z = true) (ws : List Jvm.Cond) (a : Addr) (A B : Addr) (kA kB : ClassId) (s0 s1 s2 : Int32) (v0 v1 v2 : UInt64) (h0 : Heap) (n0 : Nat) (Z0 : n0 ≤ h0.size) (E7 : Exa Z h0 a own_CM) (FS : Fld Z h0 a own_CM "samples" "[I" (.ref A)) (FV : Fld Z h0 a own_CM "values" "[D" (.ref B)) (FH : Fld Z h0 a own_CM "head" "I" (.int (0 : Int32))) (FT : Fld Z h0 a own_CM "tail" "I" (.int (2 : Int32))) (VS : Arv Z h0 A kA .int (3 : Int32) [(.int s0), (.int s1), (.int s2)] (.int (0 : Int32))) (VV : Arv Z h0 B kB .double (3 : Int32) [(.double v0), (.double v1), (.double v2)] (.double (0 : UInt64))) (naA : a ≠ A) (naB : a ≠ B) (nAB : A ≠ B) (ga : n0 ≤ a) (gA : n0 ≤ A) (gB : n0 ≤ B)  :
    MetFree l (⟨"com/example/counterpath/counterpath/core/CappedMaximum", "maximum", "()D"⟩ : MethodName) (head1 (Jvm.Cond.code (⟨"com/example/counterpath/counterpath/core/CappedMaximum", "maximum", "()D"⟩ : MethodName) prog_3_method_5_code 1 (some .double) :: ws) ({ frames := 0, cells := 0, slots := 0, locals := 0 } : Room)) (fun α U => α = #[(.ref a)] ∧ Z.Warmed39 U.vm ∧ U.heap = h0) (fun _ _ _ _ _ => True) (fun _ U ω U' => ∃ ν Λ, ω = .returned ν ∧ QD v1 h0 n0 ν U'.heap Λ ∧ FrameEnd U ω U' Λ ({ frames := 0, cells := 0, slots := 0, locals := 0 } : Room).cells ({ frames := 0, cells := 0, slots := 0, locals := 0 } : Room).slots) := by
  refine MetFree.of_bodySF (plainFor_of_name own_pn_com_example_counterpath_counterpath_core_CappedMaximum) hisR ?_
  intro p e s m args below meth c s₁ Bd hml0 hP hK
  obtain ⟨rfl, hZ, hh⟩ := hP
  have hx := Bd.exec
  have hby := Bd.bytes
  have hml : c.maxLocals = 1 := hml0
  have hown : s.vm.findClass "com/example/counterpath/counterpath/core/CappedMaximum" = some m.cls := findClass_of_methodNamed Bd.named
  have hnm := (name_of_methodNamed Bd.named Bd.method).1
  have X0 : Stand p l e ({ frames := 0, cells := 0, slots := 0, locals := 0 } : Room) s m #[(.ref a)] below meth c s₁ [] 0 0 := Stand.of_body Bd
  have e0 : s₁.heap = h0 := by rw [← hh, Bd.state]; rfl
  have N0 := Fr.nil n0
  have KK0 : Keep h0 h0 [] := Keep.refl h0 []
  obtain ⟨PS, hPS⟩ : ∃ P : State → Prop, P = fun τ => Steps p.tables e below (s₁.setTop (entryFrame m #[(.ref a)] 1)) τ := ⟨_, rfl⟩
  have pre0 : ∀ τ, Steps p.tables e below (s₁.setTop (mkF m 0 #[.val (.ref a)] [])) τ → PS τ := by rw [hPS]; exact fun τ κ => castTop (own_ef4 m a) κ
  obtain ⟨T932, X932, e932, st932⟩ := getF X0 hx hZ hown (host := "") (Or.inl (own_W17 hw)) Via.refl e0 FT (g := (mkF m 1 #[.val (.ref a)] [(.ref a)])) rfl rfl (Jvm.hb hby d4_1)
  have pre933 := fun (τ : State) kt => pre0 τ (by
    refine XS.aloadN X0.here hx rfl (Jvm.hb hby d4_0) rfl rfl ?_
    exact st932 τ kt)
  obtain ⟨T934, X934, e934, st934⟩ := getF X932 hx hZ hown (host := "") (Or.inl (own_W15 hw)) Via.refl e932 FH (g := (mkF m 5 #[.val (.ref a)] [(.ref a), (.int (2 : Int32))])) rfl rfl (Jvm.hb hby d4_5)
  have pre935 := fun (τ : State) kt => pre933 τ (by
    refine XS.aloadN X932.here hx rfl (Jvm.hb hby d4_4) rfl rfl ?_
    exact st934 τ kt)
  obtain ⟨T936, X936, e936, st936⟩ := getF X934 hx hZ hown (host := "") (Or.inl (own_W13 hw)) Via.refl e934 FV (g := (mkF m 12 #[.val (.ref a)] [(.ref a)])) rfl rfl (Jvm.hb hby d4_12)
  have pre937 := fun (τ : State) kt => pre935 τ (by
    refine XS.icmpNo X934.here hx rfl (Jvm.hb hby d4_8) rfl (tlt (by decide)).2.2.2 ?_
    refine XS.aloadN X934.here hx rfl (Jvm.hb hby d4_11) rfl rfl ?_
    exact st936 τ kt)
  obtain ⟨T938, X938, e938, st938⟩ := getF X936 hx hZ hown (host := "") (Or.inl (own_W17 hw)) Via.refl e936 FT (g := (mkF m 16 #[.val (.ref a)] [(.ref a), (.ref B)])) rfl rfl (Jvm.hb hby d4_16)
  have pre939 := fun (τ : State) kt => pre937 τ (by
    refine XS.aloadN X936.here hx rfl (Jvm.hb hby d4_15) rfl rfl ?_
    exact st938 τ kt)
  obtain ⟨cl940, Ar940, q940, S940, M940, H940, U940⟩ := id VV
  have in940 : ¬ ((1 : Int32) < 0 ∨ cl940.slots.size ≤ ((1 : Int32)).toNatClampNeg) := inb_of S940 ⟨by decide, by decide⟩
  have pre941 := fun (τ : State) kt => pre939 τ (by
    refine XS.iconst X938.here hx rfl (Jvm.hb hby d4_19) ?_
    refine XS.isub X938.here hx rfl (Jvm.hb hby d4_20) rfl ?_
    refine X938.daload hx ((congrArg (fun (HH : Heap) => HH[B]?) (e938 : T938.heap = h0)).trans Ar940.1) (State.isArrayOf_alike hZ.alike Ar940.2.1) Ar940.2.2 in940 (H940.at in940 rfl) (g := (mkF m 21 #[.val (.ref a)] [(.int (1 : Int32)), (.ref B)])) rfl rfl (Jvm.hb hby d4_21) _ ?_
    refine XS.goto X938.here hx rfl (pc0 := 22) (pc' := 28) rfl (Jvm.hb hby d4_22) (by decide) (by decide) ?_
    exact kt)
  obtain ⟨fs, hrL, hrun, hended, hW, hsame⟩ := X938.leave (v := some (.double v1)) (fun h => by rw [Bd.returns] at h; cases h)
  refine ⟨_, _, cast (congrFun hPS _) (pre941 _ ?_), hrun, hended, _, _, rfl, ?_, ⟨_, rfl⟩, hW, hsame.mono (by decide) (by decide)⟩
  · show Steps p.tables e below (T938.setTop (mkF m 28 #[.val (.ref a)] [(.double v1)])) _
    exact own_retD X938 hx Bd.returns (Jvm.hb hby d4_28) hrL
  · show QD v1 h0 n0 _ T938.heap _
    rw [e938]
    exact ⟨rfl, N0, rfl⟩
set_option maxRecDepth 65536 in
set_option maxHeartbeats 40000000 in
theorem rmRem_02_cx (l : Launch) (Z : State) (a0 : Array Value) (hw : ∀ d ∈ tables_1, d.before a0 Z = true) (ws : List Jvm.Cond) (a : Addr) (xs : Int32) (A B : Addr) (kA kB : ClassId) (s0 s1 s2 : Int32) (v0 v1 v2 : UInt64) (h0 : Heap) (n0 : Nat) (Z0 : n0 ≤ h0.size) (E7 : Exa Z h0 a own_CM) (FS : Fld Z h0 a own_CM "samples" "[I" (.ref A)) (FV : Fld Z h0 a own_CM "values" "[D" (.ref B)) (FH : Fld Z h0 a own_CM "head" "I" (.int (0 : Int32))) (FT : Fld Z h0 a own_CM "tail" "I" (.int (2 : Int32))) (VS : Arv Z h0 A kA .int (3 : Int32) [(.int s0), (.int s1), (.int s2)] (.int (0 : Int32))) (VV : Arv Z h0 B kB .double (3 : Int32) [(.double v0), (.double v1), (.double v2)] (.double (0 : UInt64))) (naA : a ≠ A) (naB : a ≠ B) (nAB : A ≠ B) (ga : n0 ≤ a) (gA : n0 ≤ A) (gB : n0 ≤ B) (pc0 : xs < s1) (pc1 : ¬ (xs < s0)) :
    MetFree l (⟨"com/example/counterpath/counterpath/core/CappedMaximum", "removeAfter", "(I)V"⟩ : MethodName) (head1 (Jvm.Cond.code (⟨"com/example/counterpath/counterpath/core/CappedMaximum", "removeAfter", "(I)V"⟩ : MethodName) prog_3_method_4_code 2 none :: ws) ({ frames := 0, cells := 0, slots := 0, locals := 0 } : Room)) (fun α U => α = #[(.ref a), (.int xs)] ∧ Z.Warmed39 U.vm ∧ U.heap = h0) (fun _ _ _ _ _ => True) (fun _ U ω U' => ∃ ν Λ, ω = .returned ν ∧ QC Z a A B kA kB (0 : Int32) (1 : Int32) [(.int s0), (.int s1), (.int s2)] [(.double v0), (.double v1), (.double v2)] h0 n0 ν U'.heap Λ ∧ FrameEnd U ω U' Λ ({ frames := 0, cells := 0, slots := 0, locals := 0 } : Room).cells ({ frames := 0, cells := 0, slots := 0, locals := 0 } : Room).slots) := by
  refine MetFree.of_bodySF (plainFor_of_name own_pn_com_example_counterpath_counterpath_core_CappedMaximum) hisR ?_
  intro p e s m args below meth c s₁ Bd hml0 hP hK
  obtain ⟨rfl, hZ, hh⟩ := hP
  have hx := Bd.exec
  have hby := Bd.bytes
  have hml : c.maxLocals = 2 := hml0
  have hown : s.vm.findClass "com/example/counterpath/counterpath/core/CappedMaximum" = some m.cls := findClass_of_methodNamed Bd.named
  have hnm := (name_of_methodNamed Bd.named Bd.method).1
  have X0 : Stand p l e ({ frames := 0, cells := 0, slots := 0, locals := 0 } : Room) s m #[(.ref a), (.int xs)] below meth c s₁ [] 0 0 := Stand.of_body Bd
  have e0 : s₁.heap = h0 := by rw [← hh, Bd.state]; rfl
  have N0 := Fr.nil n0
  have KK0 : Keep h0 h0 [a, A, B] := Keep.refl h0 [a, A, B]
  obtain ⟨PS, hPS⟩ : ∃ P : State → Prop, P = fun τ => Steps p.tables e below (s₁.setTop (entryFrame m #[(.ref a), (.int xs)] 2)) τ := ⟨_, rfl⟩
  have pre0 : ∀ τ, Steps p.tables e below (s₁.setTop (mkF m 0 #[.val (.ref a), .val (.int xs)] [])) τ → PS τ := by rw [hPS]; exact fun τ κ => castTop (own_ef7 m a xs) κ
  obtain ⟨T949, X949, e949, st949⟩ := getF X0 hx hZ hown (host := "") (Or.inl (own_W17 hw)) Via.refl e0 FT (g := (mkF m 1 #[.val (.ref a), .val (.int xs)] [(.ref a)])) rfl rfl (Jvm.hb hby d7_1)
  have pre950 := fun (τ : State) kt => pre0 τ (by
    refine XS.aloadN X0.here hx rfl (Jvm.hb hby d7_0) rfl rfl ?_
    exact st949 τ kt)
  obtain ⟨T951, X951, e951, st951⟩ := getF X949 hx hZ hown (host := "") (Or.inl (own_W15 hw)) Via.refl e949 FH (g := (mkF m 5 #[.val (.ref a), .val (.int xs)] [(.ref a), (.int (2 : Int32))])) rfl rfl (Jvm.hb hby d7_5)
  have pre952 := fun (τ : State) kt => pre950 τ (by
    refine XS.aloadN X949.here hx rfl (Jvm.hb hby d7_4) rfl rfl ?_
    exact st951 τ kt)
  obtain ⟨T953, X953, e953, st953⟩ := getF X951 hx hZ hown (host := "") (Or.inl (own_W10 hw)) Via.refl e951 FS (g := (mkF m 12 #[.val (.ref a), .val (.int xs)] [(.ref a)])) rfl rfl (Jvm.hb hby d7_12)
  have pre954 := fun (τ : State) kt => pre952 τ (by
    refine XS.icmpNo X951.here hx rfl (Jvm.hb hby d7_8) rfl (tlt (by decide)).2.2.2 ?_
    refine XS.aloadN X951.here hx rfl (Jvm.hb hby d7_11) rfl rfl ?_
    exact st953 τ kt)
  obtain ⟨T955, X955, e955, st955⟩ := getF X953 hx hZ hown (host := "") (Or.inl (own_W17 hw)) Via.refl e953 FT (g := (mkF m 16 #[.val (.ref a), .val (.int xs)] [(.ref a), (.ref A)])) rfl rfl (Jvm.hb hby d7_16)
  have pre956 := fun (τ : State) kt => pre954 τ (by
    refine XS.aloadN X953.here hx rfl (Jvm.hb hby d7_15) rfl rfl ?_
    exact st955 τ kt)
  obtain ⟨cl957, Ar957, q957, S957, M957, H957, U957⟩ := id VS
  have in957 : ¬ ((1 : Int32) < 0 ∨ cl957.slots.size ≤ ((1 : Int32)).toNatClampNeg) := inb_of S957 ⟨by decide, by decide⟩
  obtain ⟨T958, X958, e958, st958⟩ := getF X955 hx hZ hown (host := "") (Or.inl (own_W17 hw)) Via.refl e955 FT (g := (mkF m 28 #[.val (.ref a), .val (.int xs)] [(.ref a), (.ref a)])) rfl rfl (Jvm.hb hby d7_28)
  have pre959 := fun (τ : State) kt => pre956 τ (by
    refine XS.iconst X955.here hx rfl (Jvm.hb hby d7_19) ?_
    refine XS.isub X955.here hx rfl (Jvm.hb hby d7_20) rfl ?_
    refine X955.iaload hx ((congrArg (fun (HH : Heap) => HH[A]?) (e955 : T955.heap = h0)).trans Ar957.1) (State.isArrayOf_alike hZ.alike Ar957.2.1) Ar957.2.2 in957 (H957.at in957 rfl) (g := (mkF m 21 #[.val (.ref a), .val (.int xs)] [(.int (1 : Int32)), (.ref A)])) rfl rfl (Jvm.hb hby d7_21) _ ?_
    refine XS.iloadN X955.here hx rfl (Jvm.hb hby d7_22) rfl ?_
    refine XS.icmpNo X955.here hx rfl (Jvm.hb hby d7_23) rfl (tlt pc0).2.2.2 ?_
    refine XS.aloadN X955.here hx rfl (Jvm.hb hby d7_26) rfl rfl ?_
    refine XS.dup X955.here hx rfl (Jvm.hb hby d7_27) rfl rfl ?_
    exact st958 τ kt)
  obtain ⟨T960, h960, X960, e960, W960, st960⟩ := putF X958 hx hZ hown (host := "") (Or.inl (own_W17 hw)) Via.refl e958 FT E7 (Or.inl (own_W18 hw)) (own_W1 hw) (ty := .int) (by decide) rfl rfl (g := (mkF m 33 #[.val (.ref a), .val (.int xs)] [(.int (1 : Int32)), (.ref a)])) rfl rfl (Jvm.hb hby d7_33)
  have fw960 := Fld.same W960 FT
  have N960 := Fr.snoc X960 N0 ga
  have K960 : Keep h0 h960 [a, A, B] := KK0.wr W960 (Or.inl (by simp))
  have pre961 := fun (τ : State) kt => pre959 τ (by
    refine XS.iconst X958.here hx rfl (Jvm.hb hby d7_31) ?_
    refine XS.isub X958.here hx rfl (Jvm.hb hby d7_32) rfl ?_
    exact st960 τ kt)
  obtain ⟨T962, X962, e962, st962⟩ := getF X960 hx hZ hown (host := "") (Or.inl (own_W17 hw)) Via.refl e960 fw960 (g := (mkF m 1 #[.val (.ref a), .val (.int xs)] [(.ref a)])) rfl rfl (Jvm.hb hby d7_1)
  have pre963 := fun (τ : State) kt => pre961 τ (by
    refine XS.goto X960.here hx rfl (pc0 := 36) (pc' := 0) rfl (Jvm.hb hby d7_36) (by decide) (by decide) ?_
    refine XS.aloadN X960.here hx rfl (Jvm.hb hby d7_0) rfl rfl ?_
    exact st962 τ kt)
  have f965 := (FH.other W960 (Or.inr (slot_ne (Or.inl (own_W16 hw)) (Or.inl (own_W18 hw)) (by decide) (t := .int) (t' := .int) (by decide) (by decide))))
  obtain ⟨T964, X964, e964, st964⟩ := getF X962 hx hZ hown (host := "") (Or.inl (own_W15 hw)) Via.refl e962 f965 (g := (mkF m 5 #[.val (.ref a), .val (.int xs)] [(.ref a), (.int (1 : Int32))])) rfl rfl (Jvm.hb hby d7_5)
  have pre966 := fun (τ : State) kt => pre963 τ (by
    refine XS.aloadN X962.here hx rfl (Jvm.hb hby d7_4) rfl rfl ?_
    exact st964 τ kt)
  have f968 := (FS.other W960 (Or.inr (slot_ne (Or.inr (own_W11 hw)) (Or.inl (own_W18 hw)) (by decide) (t := (.array .int)) (t' := .int) (by decide) (by decide))))
  obtain ⟨T967, X967, e967, st967⟩ := getF X964 hx hZ hown (host := "") (Or.inl (own_W10 hw)) Via.refl e964 f968 (g := (mkF m 12 #[.val (.ref a), .val (.int xs)] [(.ref a)])) rfl rfl (Jvm.hb hby d7_12)
  have pre969 := fun (τ : State) kt => pre966 τ (by
    refine XS.icmpNo X964.here hx rfl (Jvm.hb hby d7_8) rfl (tlt (by decide)).2.2.2 ?_
    refine XS.aloadN X964.here hx rfl (Jvm.hb hby d7_11) rfl rfl ?_
    exact st967 τ kt)
  obtain ⟨T970, X970, e970, st970⟩ := getF X967 hx hZ hown (host := "") (Or.inl (own_W17 hw)) Via.refl e967 fw960 (g := (mkF m 16 #[.val (.ref a), .val (.int xs)] [(.ref a), (.ref A)])) rfl rfl (Jvm.hb hby d7_16)
  have pre971 := fun (τ : State) kt => pre969 τ (by
    refine XS.aloadN X967.here hx rfl (Jvm.hb hby d7_15) rfl rfl ?_
    exact st970 τ kt)
  have f972 := VS.other W960 (Ne.symm naA)
  obtain ⟨cl973, Ar973, q973, S973, M973, H973, U973⟩ := id f972
  have in973 : ¬ ((0 : Int32) < 0 ∨ cl973.slots.size ≤ ((0 : Int32)).toNatClampNeg) := inb_of S973 ⟨by decide, by decide⟩
  have f974 := (FV.other W960 (Or.inr (slot_ne (Or.inr (own_W14 hw)) (Or.inl (own_W18 hw)) (by decide) (t := (.array .double)) (t' := .int) (by decide) (by decide))))
  have f975 := VV.other W960 (Ne.symm naB)
  have pre976 := fun (τ : State) kt => pre971 τ (by
    refine XS.iconst X970.here hx rfl (Jvm.hb hby d7_19) ?_
    refine XS.isub X970.here hx rfl (Jvm.hb hby d7_20) rfl ?_
    refine X970.iaload hx ((congrArg (fun (HH : Heap) => HH[A]?) (e970 : T970.heap = h960)).trans Ar973.1) (State.isArrayOf_alike hZ.alike Ar973.2.1) Ar973.2.2 in973 (H973.at in973 rfl) (g := (mkF m 21 #[.val (.ref a), .val (.int xs)] [(.int (0 : Int32)), (.ref A)])) rfl rfl (Jvm.hb hby d7_21) _ ?_
    refine XS.iloadN X970.here hx rfl (Jvm.hb hby d7_22) rfl ?_
    refine XS.icmpYes X970.here hx rfl (pc0 := 23) (pc' := 39) rfl (Jvm.hb hby d7_23) rfl (flt pc1).2.2.2 (by decide) (by decide) ?_
    exact kt)
  obtain ⟨fs, hrL, hrun, hended, hW, hsame⟩ := X970.leave (v := none) (fun _ => rfl)
  refine ⟨_, _, cast (congrFun hPS _) (pre976 _ ?_), hrun, hended, _, _, rfl, ?_, ⟨_, rfl⟩, hW, hsame.mono (by decide) (by decide)⟩
  · show Steps p.tables e below (T970.setTop (mkF m 39 #[.val (.ref a), .val (.int xs)] [])) _
    exact X970.returnOut hx Bd.returns (Jvm.hb hby d7_39) hrL
  · show QC Z a A B kA kB (0 : Int32) (1 : Int32) [(.int s0), (.int s1), (.int s2)] [(.double v0), (.double v1), (.double v2)] h0 n0 _ T970.heap _
    rw [e970]
    exact ⟨rfl, N960, K960, f968, f974, f965, fw960, f972, f975⟩
set_option maxRecDepth 65536 in
set_option maxHeartbeats 40000000 in
theorem rmMax_01 (l : Launch) (Z : State) (a0 : Array Value) (hw : ∀ d ∈ tables_1, d.before a0 Z = true) (ws : List Jvm.Cond) (a : Addr) (A B : Addr) (kA kB : ClassId) (s0 s1 s2 : Int32) (v0 v1 v2 : UInt64) (h0 : Heap) (n0 : Nat) (Z0 : n0 ≤ h0.size) (E7 : Exa Z h0 a own_CM) (FS : Fld Z h0 a own_CM "samples" "[I" (.ref A)) (FV : Fld Z h0 a own_CM "values" "[D" (.ref B)) (FH : Fld Z h0 a own_CM "head" "I" (.int (0 : Int32))) (FT : Fld Z h0 a own_CM "tail" "I" (.int (1 : Int32))) (VS : Arv Z h0 A kA .int (3 : Int32) [(.int s0), (.int s1), (.int s2)] (.int (0 : Int32))) (VV : Arv Z h0 B kB .double (3 : Int32) [(.double v0), (.double v1), (.double v2)] (.double (0 : UInt64))) (naA : a ≠ A) (naB : a ≠ B) (nAB : A ≠ B) (ga : n0 ≤ a) (gA : n0 ≤ A) (gB : n0 ≤ B)  :
    MetFree l (⟨"com/example/counterpath/counterpath/core/CappedMaximum", "maximum", "()D"⟩ : MethodName) (head1 (Jvm.Cond.code (⟨"com/example/counterpath/counterpath/core/CappedMaximum", "maximum", "()D"⟩ : MethodName) prog_3_method_5_code 1 (some .double) :: ws) ({ frames := 0, cells := 0, slots := 0, locals := 0 } : Room)) (fun α U => α = #[(.ref a)] ∧ Z.Warmed39 U.vm ∧ U.heap = h0) (fun _ _ _ _ _ => True) (fun _ U ω U' => ∃ ν Λ, ω = .returned ν ∧ QD v0 h0 n0 ν U'.heap Λ ∧ FrameEnd U ω U' Λ ({ frames := 0, cells := 0, slots := 0, locals := 0 } : Room).cells ({ frames := 0, cells := 0, slots := 0, locals := 0 } : Room).slots) := by
  refine MetFree.of_bodySF (plainFor_of_name own_pn_com_example_counterpath_counterpath_core_CappedMaximum) hisR ?_
  intro p e s m args below meth c s₁ Bd hml0 hP hK
  obtain ⟨rfl, hZ, hh⟩ := hP
  have hx := Bd.exec
  have hby := Bd.bytes
  have hml : c.maxLocals = 1 := hml0
  have hown : s.vm.findClass "com/example/counterpath/counterpath/core/CappedMaximum" = some m.cls := findClass_of_methodNamed Bd.named
  have hnm := (name_of_methodNamed Bd.named Bd.method).1
  have X0 : Stand p l e ({ frames := 0, cells := 0, slots := 0, locals := 0 } : Room) s m #[(.ref a)] below meth c s₁ [] 0 0 := Stand.of_body Bd
  have e0 : s₁.heap = h0 := by rw [← hh, Bd.state]; rfl
  have N0 := Fr.nil n0
  have KK0 : Keep h0 h0 [] := Keep.refl h0 []
  obtain ⟨PS, hPS⟩ : ∃ P : State → Prop, P = fun τ => Steps p.tables e below (s₁.setTop (entryFrame m #[(.ref a)] 1)) τ := ⟨_, rfl⟩
  have pre0 : ∀ τ, Steps p.tables e below (s₁.setTop (mkF m 0 #[.val (.ref a)] [])) τ → PS τ := by rw [hPS]; exact fun τ κ => castTop (own_ef4 m a) κ
  obtain ⟨T979, X979, e979, st979⟩ := getF X0 hx hZ hown (host := "") (Or.inl (own_W17 hw)) Via.refl e0 FT (g := (mkF m 1 #[.val (.ref a)] [(.ref a)])) rfl rfl (Jvm.hb hby d4_1)
  have pre980 := fun (τ : State) kt => pre0 τ (by
    refine XS.aloadN X0.here hx rfl (Jvm.hb hby d4_0) rfl rfl ?_
    exact st979 τ kt)
  obtain ⟨T981, X981, e981, st981⟩ := getF X979 hx hZ hown (host := "") (Or.inl (own_W15 hw)) Via.refl e979 FH (g := (mkF m 5 #[.val (.ref a)] [(.ref a), (.int (1 : Int32))])) rfl rfl (Jvm.hb hby d4_5)
  have pre982 := fun (τ : State) kt => pre980 τ (by
    refine XS.aloadN X979.here hx rfl (Jvm.hb hby d4_4) rfl rfl ?_
    exact st981 τ kt)
  obtain ⟨T983, X983, e983, st983⟩ := getF X981 hx hZ hown (host := "") (Or.inl (own_W13 hw)) Via.refl e981 FV (g := (mkF m 12 #[.val (.ref a)] [(.ref a)])) rfl rfl (Jvm.hb hby d4_12)
  have pre984 := fun (τ : State) kt => pre982 τ (by
    refine XS.icmpNo X981.here hx rfl (Jvm.hb hby d4_8) rfl (tlt (by decide)).2.2.2 ?_
    refine XS.aloadN X981.here hx rfl (Jvm.hb hby d4_11) rfl rfl ?_
    exact st983 τ kt)
  obtain ⟨T985, X985, e985, st985⟩ := getF X983 hx hZ hown (host := "") (Or.inl (own_W17 hw)) Via.refl e983 FT (g := (mkF m 16 #[.val (.ref a)] [(.ref a), (.ref B)])) rfl rfl (Jvm.hb hby d4_16)
  have pre986 := fun (τ : State) kt => pre984 τ (by
    refine XS.aloadN X983.here hx rfl (Jvm.hb hby d4_15) rfl rfl ?_
    exact st985 τ kt)
  obtain ⟨cl987, Ar987, q987, S987, M987, H987, U987⟩ := id VV
  have in987 : ¬ ((0 : Int32) < 0 ∨ cl987.slots.size ≤ ((0 : Int32)).toNatClampNeg) := inb_of S987 ⟨by decide, by decide⟩
  have pre988 := fun (τ : State) kt => pre986 τ (by
    refine XS.iconst X985.here hx rfl (Jvm.hb hby d4_19) ?_
    refine XS.isub X985.here hx rfl (Jvm.hb hby d4_20) rfl ?_
    refine X985.daload hx ((congrArg (fun (HH : Heap) => HH[B]?) (e985 : T985.heap = h0)).trans Ar987.1) (State.isArrayOf_alike hZ.alike Ar987.2.1) Ar987.2.2 in987 (H987.at in987 rfl) (g := (mkF m 21 #[.val (.ref a)] [(.int (0 : Int32)), (.ref B)])) rfl rfl (Jvm.hb hby d4_21) _ ?_
    refine XS.goto X985.here hx rfl (pc0 := 22) (pc' := 28) rfl (Jvm.hb hby d4_22) (by decide) (by decide) ?_
    exact kt)
  obtain ⟨fs, hrL, hrun, hended, hW, hsame⟩ := X985.leave (v := some (.double v0)) (fun h => by rw [Bd.returns] at h; cases h)
  refine ⟨_, _, cast (congrFun hPS _) (pre988 _ ?_), hrun, hended, _, _, rfl, ?_, ⟨_, rfl⟩, hW, hsame.mono (by decide) (by decide)⟩
  · show Steps p.tables e below (T985.setTop (mkF m 28 #[.val (.ref a)] [(.double v0)])) _
    exact own_retD X985 hx Bd.returns (Jvm.hb hby d4_28) hrL
  · show QD v0 h0 n0 _ T985.heap _
    rw [e985]
    exact ⟨rfl, N0, rfl⟩
set_option maxRecDepth 65536 in
set_option maxHeartbeats 40000000 in
theorem rmCap_03_xk (l : Launch) (Z : State) (a0 : Array Value) (hw : ∀ d ∈ tables_1, d.before a0 Z = true) (ws : List Jvm.Cond) (a : Addr) (xv : UInt64) (A B : Addr) (kA kB : ClassId) (s0 s1 s2 : Int32) (v0 v1 v2 : UInt64) (h0 : Heap) (n0 : Nat) (Z0 : n0 ≤ h0.size) (E7 : Exa Z h0 a own_CM) (FS : Fld Z h0 a own_CM "samples" "[I" (.ref A)) (FV : Fld Z h0 a own_CM "values" "[D" (.ref B)) (FH : Fld Z h0 a own_CM "head" "I" (.int (0 : Int32))) (FT : Fld Z h0 a own_CM "tail" "I" (.int (3 : Int32))) (VS : Arv Z h0 A kA .int (3 : Int32) [(.int s0), (.int s1), (.int s2)] (.int (0 : Int32))) (VV : Arv Z h0 B kB .double (3 : Int32) [(.double v0), (.double v1), (.double v2)] (.double (0 : UInt64))) (naA : a ≠ A) (naB : a ≠ B) (nAB : A ≠ B) (ga : n0 ≤ a) (gA : n0 ≤ A) (gB : n0 ≤ B) (pc0 : cmpValue (FP.dcmp v1 xv) .l < 0) (pc1 : ¬ ((0 : Int32) < cmpValue (FP.dcmp v2 xv) .l)) :
    MetFree l (⟨"com/example/counterpath/counterpath/core/CappedMaximum", "cap", "(D)V"⟩ : MethodName) (head1 (Jvm.Cond.code (⟨"com/example/counterpath/counterpath/core/CappedMaximum", "cap", "(D)V"⟩ : MethodName) prog_3_method_3_code 3 none :: ws) ({ frames := 0, cells := 0, slots := 0, locals := 0 } : Room)) (fun α U => α = #[(.ref a), (.double xv)] ∧ Z.Warmed39 U.vm ∧ U.heap = h0) (fun _ _ _ _ _ => True) (fun _ U ω U' => ∃ ν Λ, ω = .returned ν ∧ QC Z a A B kA kB (0 : Int32) (3 : Int32) [(.int s0), (.int s1), (.int s2)] [(.double v0), (.double v1), (.double v2)] h0 n0 ν U'.heap Λ ∧ FrameEnd U ω U' Λ ({ frames := 0, cells := 0, slots := 0, locals := 0 } : Room).cells ({ frames := 0, cells := 0, slots := 0, locals := 0 } : Room).slots) := by
  refine MetFree.of_bodySF (plainFor_of_name own_pn_com_example_counterpath_counterpath_core_CappedMaximum) hisR ?_
  intro p e s m args below meth c s₁ Bd hml0 hP hK
  obtain ⟨rfl, hZ, hh⟩ := hP
  have hx := Bd.exec
  have hby := Bd.bytes
  have hml : c.maxLocals = 3 := hml0
  have hown : s.vm.findClass "com/example/counterpath/counterpath/core/CappedMaximum" = some m.cls := findClass_of_methodNamed Bd.named
  have hnm := (name_of_methodNamed Bd.named Bd.method).1
  have X0 : Stand p l e ({ frames := 0, cells := 0, slots := 0, locals := 0 } : Room) s m #[(.ref a), (.double xv)] below meth c s₁ [] 0 0 := Stand.of_body Bd
  have e0 : s₁.heap = h0 := by rw [← hh, Bd.state]; rfl
  have N0 := Fr.nil n0
  have KK0 : Keep h0 h0 [a, A, B] := Keep.refl h0 [a, A, B]
  obtain ⟨PS, hPS⟩ : ∃ P : State → Prop, P = fun τ => Steps p.tables e below (s₁.setTop (entryFrame m #[(.ref a), (.double xv)] 3)) τ := ⟨_, rfl⟩
  have pre0 : ∀ τ, Steps p.tables e below (s₁.setTop (mkF m 0 #[.val (.ref a), .val (.double xv), .second] [])) τ → PS τ := by rw [hPS]; exact fun τ κ => castTop (own_ef3 m a xv) κ
  obtain ⟨T995, X995, e995, st995⟩ := getF X0 hx hZ hown (host := "") (Or.inl (own_W17 hw)) Via.refl e0 FT (g := (mkF m 1 #[.val (.ref a), .val (.double xv), .second] [(.ref a)])) rfl rfl (Jvm.hb hby d3_1)
  have pre996 := fun (τ : State) kt => pre0 τ (by
    refine XS.aloadN X0.here hx rfl (Jvm.hb hby d3_0) rfl rfl ?_
    exact st995 τ kt)
  obtain ⟨T997, X997, e997, st997⟩ := getF X995 hx hZ hown (host := "") (Or.inl (own_W15 hw)) Via.refl e995 FH (g := (mkF m 5 #[.val (.ref a), .val (.double xv), .second] [(.ref a), (.int (3 : Int32))])) rfl rfl (Jvm.hb hby d3_5)
  have pre998 := fun (τ : State) kt => pre996 τ (by
    refine XS.aloadN X995.here hx rfl (Jvm.hb hby d3_4) rfl rfl ?_
    exact st997 τ kt)
  obtain ⟨T999, X999, e999, st999⟩ := getF X997 hx hZ hown (host := "") (Or.inl (own_W13 hw)) Via.refl e997 FV (g := (mkF m 14 #[.val (.ref a), .val (.double xv), .second] [(.ref a)])) rfl rfl (Jvm.hb hby d3_14)
  have pre1000 := fun (τ : State) kt => pre998 τ (by
    refine XS.isub X997.here hx rfl (Jvm.hb hby d3_8) rfl ?_
    refine XS.iconst X997.here hx rfl (Jvm.hb hby d3_9) ?_
    refine XS.icmpNo X997.here hx rfl (Jvm.hb hby d3_10) rfl (flt (by decide)).1 ?_
    refine XS.aloadN X997.here hx rfl (Jvm.hb hby d3_13) rfl rfl ?_
    exact st999 τ kt)
  obtain ⟨T1001, X1001, e1001, st1001⟩ := getF X999 hx hZ hown (host := "") (Or.inl (own_W17 hw)) Via.refl e999 FT (g := (mkF m 18 #[.val (.ref a), .val (.double xv), .second] [(.ref a), (.ref B)])) rfl rfl (Jvm.hb hby d3_18)
  have pre1002 := fun (τ : State) kt => pre1000 τ (by
    refine XS.aloadN X999.here hx rfl (Jvm.hb hby d3_17) rfl rfl ?_
    exact st1001 τ kt)
  obtain ⟨cl1003, Ar1003, q1003, S1003, M1003, H1003, U1003⟩ := id VV
  have in1003 : ¬ ((1 : Int32) < 0 ∨ cl1003.slots.size ≤ ((1 : Int32)).toNatClampNeg) := inb_of S1003 ⟨by decide, by decide⟩
  obtain ⟨T1004, X1004, e1004, st1004⟩ := getF X1001 hx hZ hown (host := "") (Or.inl (own_W17 hw)) Via.refl e1001 FT (g := (mkF m 43 #[.val (.ref a), .val (.double xv), .second] [(.ref a)])) rfl rfl (Jvm.hb hby d3_43)
  have pre1005 := fun (τ : State) kt => pre1002 τ (by
    refine XS.iconst X1001.here hx rfl (Jvm.hb hby d3_21) ?_
    refine XS.isub X1001.here hx rfl (Jvm.hb hby d3_22) rfl ?_
    refine X1001.daload hx ((congrArg (fun (HH : Heap) => HH[B]?) (e1001 : T1001.heap = h0)).trans Ar1003.1) (State.isArrayOf_alike hZ.alike Ar1003.2.1) Ar1003.2.2 in1003 (H1003.at in1003 rfl) (g := (mkF m 23 #[.val (.ref a), .val (.double xv), .second] [(.int (1 : Int32)), (.ref B)])) rfl rfl (Jvm.hb hby d3_23) _ ?_
    refine own_dloadN X1001.here hx rfl (Jvm.hb hby d3_24) rfl ?_
    refine own_dcmp X1001.here hx rfl (Jvm.hb hby d3_25) rfl ?_
    refine XS.ifYes X1001.here hx rfl (pc0 := 26) (pc' := 42) rfl (Jvm.hb hby d3_26) rfl ((if0 _ _).trans (tlt pc0).1) (by decide) (by decide) ?_
    refine XS.aloadN X1001.here hx rfl (Jvm.hb hby d3_42) rfl rfl ?_
    exact st1004 τ kt)
  obtain ⟨T1006, X1006, e1006, st1006⟩ := getF X1004 hx hZ hown (host := "") (Or.inl (own_W15 hw)) Via.refl e1004 FH (g := (mkF m 47 #[.val (.ref a), .val (.double xv), .second] [(.ref a), (.int (3 : Int32))])) rfl rfl (Jvm.hb hby d3_47)
  have pre1007 := fun (τ : State) kt => pre1005 τ (by
    refine XS.aloadN X1004.here hx rfl (Jvm.hb hby d3_46) rfl rfl ?_
    exact st1006 τ kt)
  obtain ⟨T1008, X1008, e1008, st1008⟩ := getF X1006 hx hZ hown (host := "") (Or.inl (own_W13 hw)) Via.refl e1006 FV (g := (mkF m 54 #[.val (.ref a), .val (.double xv), .second] [(.ref a)])) rfl rfl (Jvm.hb hby d3_54)
  have pre1009 := fun (τ : State) kt => pre1007 τ (by
    refine XS.icmpNo X1006.here hx rfl (Jvm.hb hby d3_50) rfl (tlt (by decide)).2.2.2 ?_
    refine XS.aloadN X1006.here hx rfl (Jvm.hb hby d3_53) rfl rfl ?_
    exact st1008 τ kt)
  obtain ⟨T1010, X1010, e1010, st1010⟩ := getF X1008 hx hZ hown (host := "") (Or.inl (own_W17 hw)) Via.refl e1008 FT (g := (mkF m 58 #[.val (.ref a), .val (.double xv), .second] [(.ref a), (.ref B)])) rfl rfl (Jvm.hb hby d3_58)
  have pre1011 := fun (τ : State) kt => pre1009 τ (by
    refine XS.aloadN X1008.here hx rfl (Jvm.hb hby d3_57) rfl rfl ?_
    exact st1010 τ kt)
  obtain ⟨cl1012, Ar1012, q1012, S1012, M1012, H1012, U1012⟩ := id VV
  have in1012 : ¬ ((2 : Int32) < 0 ∨ cl1012.slots.size ≤ ((2 : Int32)).toNatClampNeg) := inb_of S1012 ⟨by decide, by decide⟩
  have pre1013 := fun (τ : State) kt => pre1011 τ (by
    refine XS.iconst X1010.here hx rfl (Jvm.hb hby d3_61) ?_
    refine XS.isub X1010.here hx rfl (Jvm.hb hby d3_62) rfl ?_
    refine X1010.daload hx ((congrArg (fun (HH : Heap) => HH[B]?) (e1010 : T1010.heap = h0)).trans Ar1012.1) (State.isArrayOf_alike hZ.alike Ar1012.2.1) Ar1012.2.2 in1012 (H1012.at in1012 rfl) (g := (mkF m 63 #[.val (.ref a), .val (.double xv), .second] [(.int (2 : Int32)), (.ref B)])) rfl rfl (Jvm.hb hby d3_63) _ ?_
    refine own_dloadN X1010.here hx rfl (Jvm.hb hby d3_64) rfl ?_
    refine own_dcmp X1010.here hx rfl (Jvm.hb hby d3_65) rfl ?_
    refine XS.ifYes X1010.here hx rfl (pc0 := 66) (pc' := 81) rfl (Jvm.hb hby d3_66) rfl ((if0 _ _).trans (flt pc1).2.2.2) (by decide) (by decide) ?_
    exact kt)
  obtain ⟨fs, hrL, hrun, hended, hW, hsame⟩ := X1010.leave (v := none) (fun _ => rfl)
  refine ⟨_, _, cast (congrFun hPS _) (pre1013 _ ?_), hrun, hended, _, _, rfl, ?_, ⟨_, rfl⟩, hW, hsame.mono (by decide) (by decide)⟩
  · show Steps p.tables e below (T1010.setTop (mkF m 81 #[.val (.ref a), .val (.double xv), .second] [])) _
    exact X1010.returnOut hx Bd.returns (Jvm.hb hby d3_81) hrL
  · show QC Z a A B kA kB (0 : Int32) (3 : Int32) [(.int s0), (.int s1), (.int s2)] [(.double v0), (.double v1), (.double v2)] h0 n0 _ T1010.heap _
    rw [e1010]
    exact ⟨rfl, N0, KK0, FS, FV, FH, FT, VS, VV⟩
set_option maxRecDepth 65536 in
set_option maxHeartbeats 40000000 in
theorem rmCap_03_cxs (l : Launch) (Z : State) (a0 : Array Value) (hw : ∀ d ∈ tables_1, d.before a0 Z = true) (ws : List Jvm.Cond) (a : Addr) (xv : UInt64) (A B : Addr) (kA kB : ClassId) (s0 s1 s2 : Int32) (v0 v1 v2 : UInt64) (h0 : Heap) (n0 : Nat) (Z0 : n0 ≤ h0.size) (E7 : Exa Z h0 a own_CM) (FS : Fld Z h0 a own_CM "samples" "[I" (.ref A)) (FV : Fld Z h0 a own_CM "values" "[D" (.ref B)) (FH : Fld Z h0 a own_CM "head" "I" (.int (0 : Int32))) (FT : Fld Z h0 a own_CM "tail" "I" (.int (3 : Int32))) (VS : Arv Z h0 A kA .int (3 : Int32) [(.int s0), (.int s1), (.int s2)] (.int (0 : Int32))) (VV : Arv Z h0 B kB .double (3 : Int32) [(.double v0), (.double v1), (.double v2)] (.double (0 : UInt64))) (naA : a ≠ A) (naB : a ≠ B) (nAB : A ≠ B) (ga : n0 ≤ a) (gA : n0 ≤ A) (gB : n0 ≤ B) (pc0 : ¬ (cmpValue (FP.dcmp v1 xv) .l < 0)) (pc1 : cmpValue (FP.dcmp v0 xv) .l < 0) (pc2 : (0 : Int32) < cmpValue (FP.dcmp v1 xv) .l) :
    MetFree l (⟨"com/example/counterpath/counterpath/core/CappedMaximum", "cap", "(D)V"⟩ : MethodName) (head1 (Jvm.Cond.code (⟨"com/example/counterpath/counterpath/core/CappedMaximum", "cap", "(D)V"⟩ : MethodName) prog_3_method_3_code 3 none :: ws) ({ frames := 0, cells := 0, slots := 0, locals := 0 } : Room)) (fun α U => α = #[(.ref a), (.double xv)] ∧ Z.Warmed39 U.vm ∧ U.heap = h0) (fun _ _ _ _ _ => True) (fun _ U ω U' => ∃ ν Λ, ω = .returned ν ∧ QC Z a A B kA kB (0 : Int32) (2 : Int32) [(.int s0), (.int s1), (.int s2)] [(.double v0), (.double xv), (.double v2)] h0 n0 ν U'.heap Λ ∧ FrameEnd U ω U' Λ ({ frames := 0, cells := 0, slots := 0, locals := 0 } : Room).cells ({ frames := 0, cells := 0, slots := 0, locals := 0 } : Room).slots) := by
  refine MetFree.of_bodySF (plainFor_of_name own_pn_com_example_counterpath_counterpath_core_CappedMaximum) hisR ?_
  intro p e s m args below meth c s₁ Bd hml0 hP hK
  obtain ⟨rfl, hZ, hh⟩ := hP
  have hx := Bd.exec
  have hby := Bd.bytes
  have hml : c.maxLocals = 3 := hml0
  have hown : s.vm.findClass "com/example/counterpath/counterpath/core/CappedMaximum" = some m.cls := findClass_of_methodNamed Bd.named
  have hnm := (name_of_methodNamed Bd.named Bd.method).1
  have X0 : Stand p l e ({ frames := 0, cells := 0, slots := 0, locals := 0 } : Room) s m #[(.ref a), (.double xv)] below meth c s₁ [] 0 0 := Stand.of_body Bd
  have e0 : s₁.heap = h0 := by rw [← hh, Bd.state]; rfl
  have N0 := Fr.nil n0
  have KK0 : Keep h0 h0 [a, A, B] := Keep.refl h0 [a, A, B]
  obtain ⟨PS, hPS⟩ : ∃ P : State → Prop, P = fun τ => Steps p.tables e below (s₁.setTop (entryFrame m #[(.ref a), (.double xv)] 3)) τ := ⟨_, rfl⟩
  have pre0 : ∀ τ, Steps p.tables e below (s₁.setTop (mkF m 0 #[.val (.ref a), .val (.double xv), .second] [])) τ → PS τ := by rw [hPS]; exact fun τ κ => castTop (own_ef3 m a xv) κ
  obtain ⟨T1045, X1045, e1045, st1045⟩ := getF X0 hx hZ hown (host := "") (Or.inl (own_W17 hw)) Via.refl e0 FT (g := (mkF m 1 #[.val (.ref a), .val (.double xv), .second] [(.ref a)])) rfl rfl (Jvm.hb hby d3_1)
  have pre1046 := fun (τ : State) kt => pre0 τ (by
    refine XS.aloadN X0.here hx rfl (Jvm.hb hby d3_0) rfl rfl ?_
    exact st1045 τ kt)
  obtain ⟨T1047, X1047, e1047, st1047⟩ := getF X1045 hx hZ hown (host := "") (Or.inl (own_W15 hw)) Via.refl e1045 FH (g := (mkF m 5 #[.val (.ref a), .val (.double xv), .second] [(.ref a), (.int (3 : Int32))])) rfl rfl (Jvm.hb hby d3_5)
  have pre1048 := fun (τ : State) kt => pre1046 τ (by
    refine XS.aloadN X1045.here hx rfl (Jvm.hb hby d3_4) rfl rfl ?_
    exact st1047 τ kt)
  obtain ⟨T1049, X1049, e1049, st1049⟩ := getF X1047 hx hZ hown (host := "") (Or.inl (own_W13 hw)) Via.refl e1047 FV (g := (mkF m 14 #[.val (.ref a), .val (.double xv), .second] [(.ref a)])) rfl rfl (Jvm.hb hby d3_14)
  have pre1050 := fun (τ : State) kt => pre1048 τ (by
    refine XS.isub X1047.here hx rfl (Jvm.hb hby d3_8) rfl ?_
    refine XS.iconst X1047.here hx rfl (Jvm.hb hby d3_9) ?_
    refine XS.icmpNo X1047.here hx rfl (Jvm.hb hby d3_10) rfl (flt (by decide)).1 ?_
    refine XS.aloadN X1047.here hx rfl (Jvm.hb hby d3_13) rfl rfl ?_
    exact st1049 τ kt)
  obtain ⟨T1051, X1051, e1051, st1051⟩ := getF X1049 hx hZ hown (host := "") (Or.inl (own_W17 hw)) Via.refl e1049 FT (g := (mkF m 18 #[.val (.ref a), .val (.double xv), .second] [(.ref a), (.ref B)])) rfl rfl (Jvm.hb hby d3_18)
  have pre1052 := fun (τ : State) kt => pre1050 τ (by
    refine XS.aloadN X1049.here hx rfl (Jvm.hb hby d3_17) rfl rfl ?_
    exact st1051 τ kt)
  obtain ⟨cl1053, Ar1053, q1053, S1053, M1053, H1053, U1053⟩ := id VV
  have in1053 : ¬ ((1 : Int32) < 0 ∨ cl1053.slots.size ≤ ((1 : Int32)).toNatClampNeg) := inb_of S1053 ⟨by decide, by decide⟩
  obtain ⟨T1054, X1054, e1054, st1054⟩ := getF X1051 hx hZ hown (host := "") (Or.inl (own_W17 hw)) Via.refl e1051 FT (g := (mkF m 31 #[.val (.ref a), .val (.double xv), .second] [(.ref a), (.ref a)])) rfl rfl (Jvm.hb hby d3_31)
  have pre1055 := fun (τ : State) kt => pre1052 τ (by
    refine XS.iconst X1051.here hx rfl (Jvm.hb hby d3_21) ?_
    refine XS.isub X1051.here hx rfl (Jvm.hb hby d3_22) rfl ?_
    refine X1051.daload hx ((congrArg (fun (HH : Heap) => HH[B]?) (e1051 : T1051.heap = h0)).trans Ar1053.1) (State.isArrayOf_alike hZ.alike Ar1053.2.1) Ar1053.2.2 in1053 (H1053.at in1053 rfl) (g := (mkF m 23 #[.val (.ref a), .val (.double xv), .second] [(.int (1 : Int32)), (.ref B)])) rfl rfl (Jvm.hb hby d3_23) _ ?_
    refine own_dloadN X1051.here hx rfl (Jvm.hb hby d3_24) rfl ?_
    refine own_dcmp X1051.here hx rfl (Jvm.hb hby d3_25) rfl ?_
    refine XS.ifNo X1051.here hx rfl (Jvm.hb hby d3_26) rfl ((if0 _ _).trans (flt pc0).1) ?_
    refine XS.aloadN X1051.here hx rfl (Jvm.hb hby d3_29) rfl rfl ?_
    refine XS.dup X1051.here hx rfl (Jvm.hb hby d3_30) rfl rfl ?_
    exact st1054 τ kt)
  obtain ⟨T1056, h1056, X1056, e1056, W1056, st1056⟩ := putF X1054 hx hZ hown (host := "") (Or.inl (own_W17 hw)) Via.refl e1054 FT E7 (Or.inl (own_W18 hw)) (own_W1 hw) (ty := .int) (by decide) rfl rfl (g := (mkF m 36 #[.val (.ref a), .val (.double xv), .second] [(.int (2 : Int32)), (.ref a)])) rfl rfl (Jvm.hb hby d3_36)
  have fw1056 := Fld.same W1056 FT
  have N1056 := Fr.snoc X1056 N0 ga
  have K1056 : Keep h0 h1056 [a, A, B] := KK0.wr W1056 (Or.inl (by simp))
  have pre1057 := fun (τ : State) kt => pre1055 τ (by
    refine XS.iconst X1054.here hx rfl (Jvm.hb hby d3_34) ?_
    refine XS.isub X1054.here hx rfl (Jvm.hb hby d3_35) rfl ?_
    exact st1056 τ kt)
  obtain ⟨T1058, X1058, e1058, st1058⟩ := getF X1056 hx hZ hown (host := "") (Or.inl (own_W17 hw)) Via.refl e1056 fw1056 (g := (mkF m 1 #[.val (.ref a), .val (.double xv), .second] [(.ref a)])) rfl rfl (Jvm.hb hby d3_1)
  have pre1059 := fun (τ : State) kt => pre1057 τ (by
    refine XS.goto X1056.here hx rfl (pc0 := 39) (pc' := 0) rfl (Jvm.hb hby d3_39) (by decide) (by decide) ?_
    refine XS.aloadN X1056.here hx rfl (Jvm.hb hby d3_0) rfl rfl ?_
    exact st1058 τ kt)
  have f1061 := (FH.other W1056 (Or.inr (slot_ne (Or.inl (own_W16 hw)) (Or.inl (own_W18 hw)) (by decide) (t := .int) (t' := .int) (by decide) (by decide))))
  obtain ⟨T1060, X1060, e1060, st1060⟩ := getF X1058 hx hZ hown (host := "") (Or.inl (own_W15 hw)) Via.refl e1058 f1061 (g := (mkF m 5 #[.val (.ref a), .val (.double xv), .second] [(.ref a), (.int (2 : Int32))])) rfl rfl (Jvm.hb hby d3_5)
  have pre1062 := fun (τ : State) kt => pre1059 τ (by
    refine XS.aloadN X1058.here hx rfl (Jvm.hb hby d3_4) rfl rfl ?_
    exact st1060 τ kt)
  have f1064 := (FV.other W1056 (Or.inr (slot_ne (Or.inr (own_W14 hw)) (Or.inl (own_W18 hw)) (by decide) (t := (.array .double)) (t' := .int) (by decide) (by decide))))
  obtain ⟨T1063, X1063, e1063, st1063⟩ := getF X1060 hx hZ hown (host := "") (Or.inl (own_W13 hw)) Via.refl e1060 f1064 (g := (mkF m 14 #[.val (.ref a), .val (.double xv), .second] [(.ref a)])) rfl rfl (Jvm.hb hby d3_14)
  have pre1065 := fun (τ : State) kt => pre1062 τ (by
    refine XS.isub X1060.here hx rfl (Jvm.hb hby d3_8) rfl ?_
    refine XS.iconst X1060.here hx rfl (Jvm.hb hby d3_9) ?_
    refine XS.icmpNo X1060.here hx rfl (Jvm.hb hby d3_10) rfl (flt (by decide)).1 ?_
    refine XS.aloadN X1060.here hx rfl (Jvm.hb hby d3_13) rfl rfl ?_
    exact st1063 τ kt)
  obtain ⟨T1066, X1066, e1066, st1066⟩ := getF X1063 hx hZ hown (host := "") (Or.inl (own_W17 hw)) Via.refl e1063 fw1056 (g := (mkF m 18 #[.val (.ref a), .val (.double xv), .second] [(.ref a), (.ref B)])) rfl rfl (Jvm.hb hby d3_18)
  have pre1067 := fun (τ : State) kt => pre1065 τ (by
    refine XS.aloadN X1063.here hx rfl (Jvm.hb hby d3_17) rfl rfl ?_
    exact st1066 τ kt)
  have f1068 := VV.other W1056 (Ne.symm naB)
  obtain ⟨cl1069, Ar1069, q1069, S1069, M1069, H1069, U1069⟩ := id f1068
  have in1069 : ¬ ((0 : Int32) < 0 ∨ cl1069.slots.size ≤ ((0 : Int32)).toNatClampNeg) := inb_of S1069 ⟨by decide, by decide⟩
  obtain ⟨T1070, X1070, e1070, st1070⟩ := getF X1066 hx hZ hown (host := "") (Or.inl (own_W17 hw)) Via.refl e1066 fw1056 (g := (mkF m 43 #[.val (.ref a), .val (.double xv), .second] [(.ref a)])) rfl rfl (Jvm.hb hby d3_43)
  have pre1071 := fun (τ : State) kt => pre1067 τ (by
    refine XS.iconst X1066.here hx rfl (Jvm.hb hby d3_21) ?_
    refine XS.isub X1066.here hx rfl (Jvm.hb hby d3_22) rfl ?_
    refine X1066.daload hx ((congrArg (fun (HH : Heap) => HH[B]?) (e1066 : T1066.heap = h1056)).trans Ar1069.1) (State.isArrayOf_alike hZ.alike Ar1069.2.1) Ar1069.2.2 in1069 (H1069.at in1069 rfl) (g := (mkF m 23 #[.val (.ref a), .val (.double xv), .second] [(.int (0 : Int32)), (.ref B)])) rfl rfl (Jvm.hb hby d3_23) _ ?_
    refine own_dloadN X1066.here hx rfl (Jvm.hb hby d3_24) rfl ?_
    refine own_dcmp X1066.here hx rfl (Jvm.hb hby d3_25) rfl ?_
    refine XS.ifYes X1066.here hx rfl (pc0 := 26) (pc' := 42) rfl (Jvm.hb hby d3_26) rfl ((if0 _ _).trans (tlt pc1).1) (by decide) (by decide) ?_
    refine XS.aloadN X1066.here hx rfl (Jvm.hb hby d3_42) rfl rfl ?_
    exact st1070 τ kt)
  obtain ⟨T1072, X1072, e1072, st1072⟩ := getF X1070 hx hZ hown (host := "") (Or.inl (own_W15 hw)) Via.refl e1070 f1061 (g := (mkF m 47 #[.val (.ref a), .val (.double xv), .second] [(.ref a), (.int (2 : Int32))])) rfl rfl (Jvm.hb hby d3_47)
  have pre1073 := fun (τ : State) kt => pre1071 τ (by
    refine XS.aloadN X1070.here hx rfl (Jvm.hb hby d3_46) rfl rfl ?_
    exact st1072 τ kt)
  obtain ⟨T1074, X1074, e1074, st1074⟩ := getF X1072 hx hZ hown (host := "") (Or.inl (own_W13 hw)) Via.refl e1072 f1064 (g := (mkF m 54 #[.val (.ref a), .val (.double xv), .second] [(.ref a)])) rfl rfl (Jvm.hb hby d3_54)
  have pre1075 := fun (τ : State) kt => pre1073 τ (by
    refine XS.icmpNo X1072.here hx rfl (Jvm.hb hby d3_50) rfl (tlt (by decide)).2.2.2 ?_
    refine XS.aloadN X1072.here hx rfl (Jvm.hb hby d3_53) rfl rfl ?_
    exact st1074 τ kt)
  obtain ⟨T1076, X1076, e1076, st1076⟩ := getF X1074 hx hZ hown (host := "") (Or.inl (own_W17 hw)) Via.refl e1074 fw1056 (g := (mkF m 58 #[.val (.ref a), .val (.double xv), .second] [(.ref a), (.ref B)])) rfl rfl (Jvm.hb hby d3_58)
  have pre1077 := fun (τ : State) kt => pre1075 τ (by
    refine XS.aloadN X1074.here hx rfl (Jvm.hb hby d3_57) rfl rfl ?_
    exact st1076 τ kt)
  obtain ⟨cl1078, Ar1078, q1078, S1078, M1078, H1078, U1078⟩ := id f1068
  have in1078 : ¬ ((1 : Int32) < 0 ∨ cl1078.slots.size ≤ ((1 : Int32)).toNatClampNeg) := inb_of S1078 ⟨by decide, by decide⟩
  obtain ⟨T1079, X1079, e1079, st1079⟩ := getF X1076 hx hZ hown (host := "") (Or.inl (own_W13 hw)) Via.refl e1076 f1064 (g := (mkF m 70 #[.val (.ref a), .val (.double xv), .second] [(.ref a)])) rfl rfl (Jvm.hb hby d3_70)
  have pre1080 := fun (τ : State) kt => pre1077 τ (by
    refine XS.iconst X1076.here hx rfl (Jvm.hb hby d3_61) ?_
    refine XS.isub X1076.here hx rfl (Jvm.hb hby d3_62) rfl ?_
    refine X1076.daload hx ((congrArg (fun (HH : Heap) => HH[B]?) (e1076 : T1076.heap = h1056)).trans Ar1078.1) (State.isArrayOf_alike hZ.alike Ar1078.2.1) Ar1078.2.2 in1078 (H1078.at in1078 rfl) (g := (mkF m 63 #[.val (.ref a), .val (.double xv), .second] [(.int (1 : Int32)), (.ref B)])) rfl rfl (Jvm.hb hby d3_63) _ ?_
    refine own_dloadN X1076.here hx rfl (Jvm.hb hby d3_64) rfl ?_
    refine own_dcmp X1076.here hx rfl (Jvm.hb hby d3_65) rfl ?_
    refine XS.ifNo X1076.here hx rfl (Jvm.hb hby d3_66) rfl ((if0 _ _).trans (tlt pc2).2.2.2) ?_
    refine XS.aloadN X1076.here hx rfl (Jvm.hb hby d3_69) rfl rfl ?_
    exact st1079 τ kt)
  obtain ⟨T1081, X1081, e1081, st1081⟩ := getF X1079 hx hZ hown (host := "") (Or.inl (own_W17 hw)) Via.refl e1079 fw1056 (g := (mkF m 74 #[.val (.ref a), .val (.double xv), .second] [(.ref a), (.ref B)])) rfl rfl (Jvm.hb hby d3_74)
  have pre1082 := fun (τ : State) kt => pre1080 τ (by
    refine XS.aloadN X1079.here hx rfl (Jvm.hb hby d3_73) rfl rfl ?_
    exact st1081 τ kt)
  obtain ⟨cl1083, Ar1083, q1083, S1083, M1083, H1083, U1083⟩ := id f1068
  obtain ⟨T1084, h1084, X1084, e1084, W1084, st1084⟩ := own_stD X1081 hx hZ e1081 Ar1083 (j := (1 : Int32)) (inb_of S1083 ⟨by decide, by decide⟩) (g := (mkF m 80 #[.val (.ref a), .val (.double xv), .second] [(.double xv), (.int (1 : Int32)), (.ref B)])) rfl rfl (Jvm.hb hby d3_80)
  have V1084 : Arv Z h1084 B kB .double (3 : Int32) [(.double v0), (.double xv), (.double v2)] (.double (0 : UInt64)) := Arv.set Ar1083 q1083 S1083 M1083 H1083 U1083 rfl W1084 1 rfl (Nat.le_of_ble_eq_true rfl)
  have N1084 := Fr.snoc X1084 N1056 gB
  have K1084 : Keep h0 h1084 [a, A, B] := K1056.wr W1084 (Or.inl (by simp))
  have pre1085 := fun (τ : State) kt => pre1082 τ (by
    refine XS.iconst X1081.here hx rfl (Jvm.hb hby d3_77) ?_
    refine XS.isub X1081.here hx rfl (Jvm.hb hby d3_78) rfl ?_
    refine own_dloadN X1081.here hx rfl (Jvm.hb hby d3_79) rfl ?_
    exact st1084 τ kt)
  have f1086 := (FS.other W1056 (Or.inr (slot_ne (Or.inr (own_W11 hw)) (Or.inl (own_W18 hw)) (by decide) (t := (.array .int)) (t' := .int) (by decide) (by decide))))
  have f1087 := (f1086.other W1084 (Or.inl naB))
  have f1088 := (f1064.other W1084 (Or.inl naB))
  have f1089 := (f1061.other W1084 (Or.inl naB))
  have f1090 := (fw1056.other W1084 (Or.inl naB))
  have f1091 := VS.other W1056 (Ne.symm naA)
  have f1092 := f1091.other W1084 nAB
  obtain ⟨fs, hrL, hrun, hended, hW, hsame⟩ := X1084.leave (v := none) (fun _ => rfl)
  refine ⟨_, _, cast (congrFun hPS _) (pre1085 _ ?_), hrun, hended, _, _, rfl, ?_, ⟨_, rfl⟩, hW, hsame.mono (by decide) (by decide)⟩
  · show Steps p.tables e below (T1084.setTop (mkF m 81 #[.val (.ref a), .val (.double xv), .second] [])) _
    exact X1084.returnOut hx Bd.returns (Jvm.hb hby d3_81) hrL
  · show QC Z a A B kA kB (0 : Int32) (2 : Int32) [(.int s0), (.int s1), (.int s2)] [(.double v0), (.double xv), (.double v2)] h0 n0 _ T1084.heap _
    rw [e1084]
    exact ⟨rfl, N1084, K1084, f1087, f1088, f1089, f1090, f1092, V1084⟩
set_option maxRecDepth 65536 in
set_option maxHeartbeats 40000000 in
theorem rmRem_02_x (l : Launch) (Z : State) (a0 : Array Value) (hw : ∀ d ∈ tables_1, d.before a0 Z = true) (ws : List Jvm.Cond) (a : Addr) (xs : Int32) (A B : Addr) (kA kB : ClassId) (s0 s1 s2 : Int32) (v0 v1 v2 : UInt64) (h0 : Heap) (n0 : Nat) (Z0 : n0 ≤ h0.size) (E7 : Exa Z h0 a own_CM) (FS : Fld Z h0 a own_CM "samples" "[I" (.ref A)) (FV : Fld Z h0 a own_CM "values" "[D" (.ref B)) (FH : Fld Z h0 a own_CM "head" "I" (.int (0 : Int32))) (FT : Fld Z h0 a own_CM "tail" "I" (.int (2 : Int32))) (VS : Arv Z h0 A kA .int (3 : Int32) [(.int s0), (.int s1), (.int s2)] (.int (0 : Int32))) (VV : Arv Z h0 B kB .double (3 : Int32) [(.double v0), (.double v1), (.double v2)] (.double (0 : UInt64))) (naA : a ≠ A) (naB : a ≠ B) (nAB : A ≠ B) (ga : n0 ≤ a) (gA : n0 ≤ A) (gB : n0 ≤ B) (pc0 : ¬ (xs < s1)) :
    MetFree l (⟨"com/example/counterpath/counterpath/core/CappedMaximum", "removeAfter", "(I)V"⟩ : MethodName) (head1 (Jvm.Cond.code (⟨"com/example/counterpath/counterpath/core/CappedMaximum", "removeAfter", "(I)V"⟩ : MethodName) prog_3_method_4_code 2 none :: ws) ({ frames := 0, cells := 0, slots := 0, locals := 0 } : Room)) (fun α U => α = #[(.ref a), (.int xs)] ∧ Z.Warmed39 U.vm ∧ U.heap = h0) (fun _ _ _ _ _ => True) (fun _ U ω U' => ∃ ν Λ, ω = .returned ν ∧ QC Z a A B kA kB (0 : Int32) (2 : Int32) [(.int s0), (.int s1), (.int s2)] [(.double v0), (.double v1), (.double v2)] h0 n0 ν U'.heap Λ ∧ FrameEnd U ω U' Λ ({ frames := 0, cells := 0, slots := 0, locals := 0 } : Room).cells ({ frames := 0, cells := 0, slots := 0, locals := 0 } : Room).slots) := by
  refine MetFree.of_bodySF (plainFor_of_name own_pn_com_example_counterpath_counterpath_core_CappedMaximum) hisR ?_
  intro p e s m args below meth c s₁ Bd hml0 hP hK
  obtain ⟨rfl, hZ, hh⟩ := hP
  have hx := Bd.exec
  have hby := Bd.bytes
  have hml : c.maxLocals = 2 := hml0
  have hown : s.vm.findClass "com/example/counterpath/counterpath/core/CappedMaximum" = some m.cls := findClass_of_methodNamed Bd.named
  have hnm := (name_of_methodNamed Bd.named Bd.method).1
  have X0 : Stand p l e ({ frames := 0, cells := 0, slots := 0, locals := 0 } : Room) s m #[(.ref a), (.int xs)] below meth c s₁ [] 0 0 := Stand.of_body Bd
  have e0 : s₁.heap = h0 := by rw [← hh, Bd.state]; rfl
  have N0 := Fr.nil n0
  have KK0 : Keep h0 h0 [a, A, B] := Keep.refl h0 [a, A, B]
  obtain ⟨PS, hPS⟩ : ∃ P : State → Prop, P = fun τ => Steps p.tables e below (s₁.setTop (entryFrame m #[(.ref a), (.int xs)] 2)) τ := ⟨_, rfl⟩
  have pre0 : ∀ τ, Steps p.tables e below (s₁.setTop (mkF m 0 #[.val (.ref a), .val (.int xs)] [])) τ → PS τ := by rw [hPS]; exact fun τ κ => castTop (own_ef7 m a xs) κ
  obtain ⟨T1105, X1105, e1105, st1105⟩ := getF X0 hx hZ hown (host := "") (Or.inl (own_W17 hw)) Via.refl e0 FT (g := (mkF m 1 #[.val (.ref a), .val (.int xs)] [(.ref a)])) rfl rfl (Jvm.hb hby d7_1)
  have pre1106 := fun (τ : State) kt => pre0 τ (by
    refine XS.aloadN X0.here hx rfl (Jvm.hb hby d7_0) rfl rfl ?_
    exact st1105 τ kt)
  obtain ⟨T1107, X1107, e1107, st1107⟩ := getF X1105 hx hZ hown (host := "") (Or.inl (own_W15 hw)) Via.refl e1105 FH (g := (mkF m 5 #[.val (.ref a), .val (.int xs)] [(.ref a), (.int (2 : Int32))])) rfl rfl (Jvm.hb hby d7_5)
  have pre1108 := fun (τ : State) kt => pre1106 τ (by
    refine XS.aloadN X1105.here hx rfl (Jvm.hb hby d7_4) rfl rfl ?_
    exact st1107 τ kt)
  obtain ⟨T1109, X1109, e1109, st1109⟩ := getF X1107 hx hZ hown (host := "") (Or.inl (own_W10 hw)) Via.refl e1107 FS (g := (mkF m 12 #[.val (.ref a), .val (.int xs)] [(.ref a)])) rfl rfl (Jvm.hb hby d7_12)
  have pre1110 := fun (τ : State) kt => pre1108 τ (by
    refine XS.icmpNo X1107.here hx rfl (Jvm.hb hby d7_8) rfl (tlt (by decide)).2.2.2 ?_
    refine XS.aloadN X1107.here hx rfl (Jvm.hb hby d7_11) rfl rfl ?_
    exact st1109 τ kt)
  obtain ⟨T1111, X1111, e1111, st1111⟩ := getF X1109 hx hZ hown (host := "") (Or.inl (own_W17 hw)) Via.refl e1109 FT (g := (mkF m 16 #[.val (.ref a), .val (.int xs)] [(.ref a), (.ref A)])) rfl rfl (Jvm.hb hby d7_16)
  have pre1112 := fun (τ : State) kt => pre1110 τ (by
    refine XS.aloadN X1109.here hx rfl (Jvm.hb hby d7_15) rfl rfl ?_
    exact st1111 τ kt)
  obtain ⟨cl1113, Ar1113, q1113, S1113, M1113, H1113, U1113⟩ := id VS
  have in1113 : ¬ ((1 : Int32) < 0 ∨ cl1113.slots.size ≤ ((1 : Int32)).toNatClampNeg) := inb_of S1113 ⟨by decide, by decide⟩
  have pre1114 := fun (τ : State) kt => pre1112 τ (by
    refine XS.iconst X1111.here hx rfl (Jvm.hb hby d7_19) ?_
    refine XS.isub X1111.here hx rfl (Jvm.hb hby d7_20) rfl ?_
    refine X1111.iaload hx ((congrArg (fun (HH : Heap) => HH[A]?) (e1111 : T1111.heap = h0)).trans Ar1113.1) (State.isArrayOf_alike hZ.alike Ar1113.2.1) Ar1113.2.2 in1113 (H1113.at in1113 rfl) (g := (mkF m 21 #[.val (.ref a), .val (.int xs)] [(.int (1 : Int32)), (.ref A)])) rfl rfl (Jvm.hb hby d7_21) _ ?_
    refine XS.iloadN X1111.here hx rfl (Jvm.hb hby d7_22) rfl ?_
    refine XS.icmpYes X1111.here hx rfl (pc0 := 23) (pc' := 39) rfl (Jvm.hb hby d7_23) rfl (flt pc0).2.2.2 (by decide) (by decide) ?_
    exact kt)
  obtain ⟨fs, hrL, hrun, hended, hW, hsame⟩ := X1111.leave (v := none) (fun _ => rfl)
  refine ⟨_, _, cast (congrFun hPS _) (pre1114 _ ?_), hrun, hended, _, _, rfl, ?_, ⟨_, rfl⟩, hW, hsame.mono (by decide) (by decide)⟩
  · show Steps p.tables e below (T1111.setTop (mkF m 39 #[.val (.ref a), .val (.int xs)] [])) _
    exact X1111.returnOut hx Bd.returns (Jvm.hb hby d7_39) hrL
  · show QC Z a A B kA kB (0 : Int32) (2 : Int32) [(.int s0), (.int s1), (.int s2)] [(.double v0), (.double v1), (.double v2)] h0 n0 _ T1111.heap _
    rw [e1111]
    exact ⟨rfl, N0, KK0, FS, FV, FH, FT, VS, VV⟩
set_option maxRecDepth 65536 in
set_option maxHeartbeats 40000000 in
theorem rmCap_03_cxk (l : Launch) (Z : State) (a0 : Array Value) (hw : ∀ d ∈ tables_1, d.before a0 Z = true) (ws : List Jvm.Cond) (a : Addr) (xv : UInt64) (A B : Addr) (kA kB : ClassId) (s0 s1 s2 : Int32) (v0 v1 v2 : UInt64) (h0 : Heap) (n0 : Nat) (Z0 : n0 ≤ h0.size) (E7 : Exa Z h0 a own_CM) (FS : Fld Z h0 a own_CM "samples" "[I" (.ref A)) (FV : Fld Z h0 a own_CM "values" "[D" (.ref B)) (FH : Fld Z h0 a own_CM "head" "I" (.int (0 : Int32))) (FT : Fld Z h0 a own_CM "tail" "I" (.int (3 : Int32))) (VS : Arv Z h0 A kA .int (3 : Int32) [(.int s0), (.int s1), (.int s2)] (.int (0 : Int32))) (VV : Arv Z h0 B kB .double (3 : Int32) [(.double v0), (.double v1), (.double v2)] (.double (0 : UInt64))) (naA : a ≠ A) (naB : a ≠ B) (nAB : A ≠ B) (ga : n0 ≤ a) (gA : n0 ≤ A) (gB : n0 ≤ B) (pc0 : ¬ (cmpValue (FP.dcmp v1 xv) .l < 0)) (pc1 : cmpValue (FP.dcmp v0 xv) .l < 0) (pc2 : ¬ ((0 : Int32) < cmpValue (FP.dcmp v1 xv) .l)) :
    MetFree l (⟨"com/example/counterpath/counterpath/core/CappedMaximum", "cap", "(D)V"⟩ : MethodName) (head1 (Jvm.Cond.code (⟨"com/example/counterpath/counterpath/core/CappedMaximum", "cap", "(D)V"⟩ : MethodName) prog_3_method_3_code 3 none :: ws) ({ frames := 0, cells := 0, slots := 0, locals := 0 } : Room)) (fun α U => α = #[(.ref a), (.double xv)] ∧ Z.Warmed39 U.vm ∧ U.heap = h0) (fun _ _ _ _ _ => True) (fun _ U ω U' => ∃ ν Λ, ω = .returned ν ∧ QC Z a A B kA kB (0 : Int32) (2 : Int32) [(.int s0), (.int s1), (.int s2)] [(.double v0), (.double v1), (.double v2)] h0 n0 ν U'.heap Λ ∧ FrameEnd U ω U' Λ ({ frames := 0, cells := 0, slots := 0, locals := 0 } : Room).cells ({ frames := 0, cells := 0, slots := 0, locals := 0 } : Room).slots) := by
  refine MetFree.of_bodySF (plainFor_of_name own_pn_com_example_counterpath_counterpath_core_CappedMaximum) hisR ?_
  intro p e s m args below meth c s₁ Bd hml0 hP hK
  obtain ⟨rfl, hZ, hh⟩ := hP
  have hx := Bd.exec
  have hby := Bd.bytes
  have hml : c.maxLocals = 3 := hml0
  have hown : s.vm.findClass "com/example/counterpath/counterpath/core/CappedMaximum" = some m.cls := findClass_of_methodNamed Bd.named
  have hnm := (name_of_methodNamed Bd.named Bd.method).1
  have X0 : Stand p l e ({ frames := 0, cells := 0, slots := 0, locals := 0 } : Room) s m #[(.ref a), (.double xv)] below meth c s₁ [] 0 0 := Stand.of_body Bd
  have e0 : s₁.heap = h0 := by rw [← hh, Bd.state]; rfl
  have N0 := Fr.nil n0
  have KK0 : Keep h0 h0 [a, A, B] := Keep.refl h0 [a, A, B]
  obtain ⟨PS, hPS⟩ : ∃ P : State → Prop, P = fun τ => Steps p.tables e below (s₁.setTop (entryFrame m #[(.ref a), (.double xv)] 3)) τ := ⟨_, rfl⟩
  have pre0 : ∀ τ, Steps p.tables e below (s₁.setTop (mkF m 0 #[.val (.ref a), .val (.double xv), .second] [])) τ → PS τ := by rw [hPS]; exact fun τ κ => castTop (own_ef3 m a xv) κ
  obtain ⟨T1132, X1132, e1132, st1132⟩ := getF X0 hx hZ hown (host := "") (Or.inl (own_W17 hw)) Via.refl e0 FT (g := (mkF m 1 #[.val (.ref a), .val (.double xv), .second] [(.ref a)])) rfl rfl (Jvm.hb hby d3_1)
  have pre1133 := fun (τ : State) kt => pre0 τ (by
    refine XS.aloadN X0.here hx rfl (Jvm.hb hby d3_0) rfl rfl ?_
    exact st1132 τ kt)
  obtain ⟨T1134, X1134, e1134, st1134⟩ := getF X1132 hx hZ hown (host := "") (Or.inl (own_W15 hw)) Via.refl e1132 FH (g := (mkF m 5 #[.val (.ref a), .val (.double xv), .second] [(.ref a), (.int (3 : Int32))])) rfl rfl (Jvm.hb hby d3_5)
  have pre1135 := fun (τ : State) kt => pre1133 τ (by
    refine XS.aloadN X1132.here hx rfl (Jvm.hb hby d3_4) rfl rfl ?_
    exact st1134 τ kt)
  obtain ⟨T1136, X1136, e1136, st1136⟩ := getF X1134 hx hZ hown (host := "") (Or.inl (own_W13 hw)) Via.refl e1134 FV (g := (mkF m 14 #[.val (.ref a), .val (.double xv), .second] [(.ref a)])) rfl rfl (Jvm.hb hby d3_14)
  have pre1137 := fun (τ : State) kt => pre1135 τ (by
    refine XS.isub X1134.here hx rfl (Jvm.hb hby d3_8) rfl ?_
    refine XS.iconst X1134.here hx rfl (Jvm.hb hby d3_9) ?_
    refine XS.icmpNo X1134.here hx rfl (Jvm.hb hby d3_10) rfl (flt (by decide)).1 ?_
    refine XS.aloadN X1134.here hx rfl (Jvm.hb hby d3_13) rfl rfl ?_
    exact st1136 τ kt)
  obtain ⟨T1138, X1138, e1138, st1138⟩ := getF X1136 hx hZ hown (host := "") (Or.inl (own_W17 hw)) Via.refl e1136 FT (g := (mkF m 18 #[.val (.ref a), .val (.double xv), .second] [(.ref a), (.ref B)])) rfl rfl (Jvm.hb hby d3_18)
  have pre1139 := fun (τ : State) kt => pre1137 τ (by
    refine XS.aloadN X1136.here hx rfl (Jvm.hb hby d3_17) rfl rfl ?_
    exact st1138 τ kt)
  obtain ⟨cl1140, Ar1140, q1140, S1140, M1140, H1140, U1140⟩ := id VV
  have in1140 : ¬ ((1 : Int32) < 0 ∨ cl1140.slots.size ≤ ((1 : Int32)).toNatClampNeg) := inb_of S1140 ⟨by decide, by decide⟩
  obtain ⟨T1141, X1141, e1141, st1141⟩ := getF X1138 hx hZ hown (host := "") (Or.inl (own_W17 hw)) Via.refl e1138 FT (g := (mkF m 31 #[.val (.ref a), .val (.double xv), .second] [(.ref a), (.ref a)])) rfl rfl (Jvm.hb hby d3_31)
  have pre1142 := fun (τ : State) kt => pre1139 τ (by
    refine XS.iconst X1138.here hx rfl (Jvm.hb hby d3_21) ?_
    refine XS.isub X1138.here hx rfl (Jvm.hb hby d3_22) rfl ?_
    refine X1138.daload hx ((congrArg (fun (HH : Heap) => HH[B]?) (e1138 : T1138.heap = h0)).trans Ar1140.1) (State.isArrayOf_alike hZ.alike Ar1140.2.1) Ar1140.2.2 in1140 (H1140.at in1140 rfl) (g := (mkF m 23 #[.val (.ref a), .val (.double xv), .second] [(.int (1 : Int32)), (.ref B)])) rfl rfl (Jvm.hb hby d3_23) _ ?_
    refine own_dloadN X1138.here hx rfl (Jvm.hb hby d3_24) rfl ?_
    refine own_dcmp X1138.here hx rfl (Jvm.hb hby d3_25) rfl ?_
    refine XS.ifNo X1138.here hx rfl (Jvm.hb hby d3_26) rfl ((if0 _ _).trans (flt pc0).1) ?_
    refine XS.aloadN X1138.here hx rfl (Jvm.hb hby d3_29) rfl rfl ?_
    refine XS.dup X1138.here hx rfl (Jvm.hb hby d3_30) rfl rfl ?_
    exact st1141 τ kt)
  obtain ⟨T1143, h1143, X1143, e1143, W1143, st1143⟩ := putF X1141 hx hZ hown (host := "") (Or.inl (own_W17 hw)) Via.refl e1141 FT E7 (Or.inl (own_W18 hw)) (own_W1 hw) (ty := .int) (by decide) rfl rfl (g := (mkF m 36 #[.val (.ref a), .val (.double xv), .second] [(.int (2 : Int32)), (.ref a)])) rfl rfl (Jvm.hb hby d3_36)
  have fw1143 := Fld.same W1143 FT
  have N1143 := Fr.snoc X1143 N0 ga
  have K1143 : Keep h0 h1143 [a, A, B] := KK0.wr W1143 (Or.inl (by simp))
  have pre1144 := fun (τ : State) kt => pre1142 τ (by
    refine XS.iconst X1141.here hx rfl (Jvm.hb hby d3_34) ?_
    refine XS.isub X1141.here hx rfl (Jvm.hb hby d3_35) rfl ?_
    exact st1143 τ kt)
  obtain ⟨T1145, X1145, e1145, st1145⟩ := getF X1143 hx hZ hown (host := "") (Or.inl (own_W17 hw)) Via.refl e1143 fw1143 (g := (mkF m 1 #[.val (.ref a), .val (.double xv), .second] [(.ref a)])) rfl rfl (Jvm.hb hby d3_1)
  have pre1146 := fun (τ : State) kt => pre1144 τ (by
    refine XS.goto X1143.here hx rfl (pc0 := 39) (pc' := 0) rfl (Jvm.hb hby d3_39) (by decide) (by decide) ?_
    refine XS.aloadN X1143.here hx rfl (Jvm.hb hby d3_0) rfl rfl ?_
    exact st1145 τ kt)
  have f1148 := (FH.other W1143 (Or.inr (slot_ne (Or.inl (own_W16 hw)) (Or.inl (own_W18 hw)) (by decide) (t := .int) (t' := .int) (by decide) (by decide))))
  obtain ⟨T1147, X1147, e1147, st1147⟩ := getF X1145 hx hZ hown (host := "") (Or.inl (own_W15 hw)) Via.refl e1145 f1148 (g := (mkF m 5 #[.val (.ref a), .val (.double xv), .second] [(.ref a), (.int (2 : Int32))])) rfl rfl (Jvm.hb hby d3_5)
  have pre1149 := fun (τ : State) kt => pre1146 τ (by
    refine XS.aloadN X1145.here hx rfl (Jvm.hb hby d3_4) rfl rfl ?_
    exact st1147 τ kt)
  have f1151 := (FV.other W1143 (Or.inr (slot_ne (Or.inr (own_W14 hw)) (Or.inl (own_W18 hw)) (by decide) (t := (.array .double)) (t' := .int) (by decide) (by decide))))
  obtain ⟨T1150, X1150, e1150, st1150⟩ := getF X1147 hx hZ hown (host := "") (Or.inl (own_W13 hw)) Via.refl e1147 f1151 (g := (mkF m 14 #[.val (.ref a), .val (.double xv), .second] [(.ref a)])) rfl rfl (Jvm.hb hby d3_14)
  have pre1152 := fun (τ : State) kt => pre1149 τ (by
    refine XS.isub X1147.here hx rfl (Jvm.hb hby d3_8) rfl ?_
    refine XS.iconst X1147.here hx rfl (Jvm.hb hby d3_9) ?_
    refine XS.icmpNo X1147.here hx rfl (Jvm.hb hby d3_10) rfl (flt (by decide)).1 ?_
    refine XS.aloadN X1147.here hx rfl (Jvm.hb hby d3_13) rfl rfl ?_
    exact st1150 τ kt)
  obtain ⟨T1153, X1153, e1153, st1153⟩ := getF X1150 hx hZ hown (host := "") (Or.inl (own_W17 hw)) Via.refl e1150 fw1143 (g := (mkF m 18 #[.val (.ref a), .val (.double xv), .second] [(.ref a), (.ref B)])) rfl rfl (Jvm.hb hby d3_18)
  have pre1154 := fun (τ : State) kt => pre1152 τ (by
    refine XS.aloadN X1150.here hx rfl (Jvm.hb hby d3_17) rfl rfl ?_
    exact st1153 τ kt)
  have f1155 := VV.other W1143 (Ne.symm naB)
  obtain ⟨cl1156, Ar1156, q1156, S1156, M1156, H1156, U1156⟩ := id f1155
  have in1156 : ¬ ((0 : Int32) < 0 ∨ cl1156.slots.size ≤ ((0 : Int32)).toNatClampNeg) := inb_of S1156 ⟨by decide, by decide⟩
  obtain ⟨T1157, X1157, e1157, st1157⟩ := getF X1153 hx hZ hown (host := "") (Or.inl (own_W17 hw)) Via.refl e1153 fw1143 (g := (mkF m 43 #[.val (.ref a), .val (.double xv), .second] [(.ref a)])) rfl rfl (Jvm.hb hby d3_43)
  have pre1158 := fun (τ : State) kt => pre1154 τ (by
    refine XS.iconst X1153.here hx rfl (Jvm.hb hby d3_21) ?_
    refine XS.isub X1153.here hx rfl (Jvm.hb hby d3_22) rfl ?_
    refine X1153.daload hx ((congrArg (fun (HH : Heap) => HH[B]?) (e1153 : T1153.heap = h1143)).trans Ar1156.1) (State.isArrayOf_alike hZ.alike Ar1156.2.1) Ar1156.2.2 in1156 (H1156.at in1156 rfl) (g := (mkF m 23 #[.val (.ref a), .val (.double xv), .second] [(.int (0 : Int32)), (.ref B)])) rfl rfl (Jvm.hb hby d3_23) _ ?_
    refine own_dloadN X1153.here hx rfl (Jvm.hb hby d3_24) rfl ?_
    refine own_dcmp X1153.here hx rfl (Jvm.hb hby d3_25) rfl ?_
    refine XS.ifYes X1153.here hx rfl (pc0 := 26) (pc' := 42) rfl (Jvm.hb hby d3_26) rfl ((if0 _ _).trans (tlt pc1).1) (by decide) (by decide) ?_
    refine XS.aloadN X1153.here hx rfl (Jvm.hb hby d3_42) rfl rfl ?_
    exact st1157 τ kt)
  obtain ⟨T1159, X1159, e1159, st1159⟩ := getF X1157 hx hZ hown (host := "") (Or.inl (own_W15 hw)) Via.refl e1157 f1148 (g := (mkF m 47 #[.val (.ref a), .val (.double xv), .second] [(.ref a), (.int (2 : Int32))])) rfl rfl (Jvm.hb hby d3_47)
  have pre1160 := fun (τ : State) kt => pre1158 τ (by
    refine XS.aloadN X1157.here hx rfl (Jvm.hb hby d3_46) rfl rfl ?_
    exact st1159 τ kt)
  obtain ⟨T1161, X1161, e1161, st1161⟩ := getF X1159 hx hZ hown (host := "") (Or.inl (own_W13 hw)) Via.refl e1159 f1151 (g := (mkF m 54 #[.val (.ref a), .val (.double xv), .second] [(.ref a)])) rfl rfl (Jvm.hb hby d3_54)
  have pre1162 := fun (τ : State) kt => pre1160 τ (by
    refine XS.icmpNo X1159.here hx rfl (Jvm.hb hby d3_50) rfl (tlt (by decide)).2.2.2 ?_
    refine XS.aloadN X1159.here hx rfl (Jvm.hb hby d3_53) rfl rfl ?_
    exact st1161 τ kt)
  obtain ⟨T1163, X1163, e1163, st1163⟩ := getF X1161 hx hZ hown (host := "") (Or.inl (own_W17 hw)) Via.refl e1161 fw1143 (g := (mkF m 58 #[.val (.ref a), .val (.double xv), .second] [(.ref a), (.ref B)])) rfl rfl (Jvm.hb hby d3_58)
  have pre1164 := fun (τ : State) kt => pre1162 τ (by
    refine XS.aloadN X1161.here hx rfl (Jvm.hb hby d3_57) rfl rfl ?_
    exact st1163 τ kt)
  obtain ⟨cl1165, Ar1165, q1165, S1165, M1165, H1165, U1165⟩ := id f1155
  have in1165 : ¬ ((1 : Int32) < 0 ∨ cl1165.slots.size ≤ ((1 : Int32)).toNatClampNeg) := inb_of S1165 ⟨by decide, by decide⟩
  have f1166 := (FS.other W1143 (Or.inr (slot_ne (Or.inr (own_W11 hw)) (Or.inl (own_W18 hw)) (by decide) (t := (.array .int)) (t' := .int) (by decide) (by decide))))
  have f1167 := VS.other W1143 (Ne.symm naA)
  have pre1168 := fun (τ : State) kt => pre1164 τ (by
    refine XS.iconst X1163.here hx rfl (Jvm.hb hby d3_61) ?_
    refine XS.isub X1163.here hx rfl (Jvm.hb hby d3_62) rfl ?_
    refine X1163.daload hx ((congrArg (fun (HH : Heap) => HH[B]?) (e1163 : T1163.heap = h1143)).trans Ar1165.1) (State.isArrayOf_alike hZ.alike Ar1165.2.1) Ar1165.2.2 in1165 (H1165.at in1165 rfl) (g := (mkF m 63 #[.val (.ref a), .val (.double xv), .second] [(.int (1 : Int32)), (.ref B)])) rfl rfl (Jvm.hb hby d3_63) _ ?_
    refine own_dloadN X1163.here hx rfl (Jvm.hb hby d3_64) rfl ?_
    refine own_dcmp X1163.here hx rfl (Jvm.hb hby d3_65) rfl ?_
    refine XS.ifYes X1163.here hx rfl (pc0 := 66) (pc' := 81) rfl (Jvm.hb hby d3_66) rfl ((if0 _ _).trans (flt pc2).2.2.2) (by decide) (by decide) ?_
    exact kt)
  obtain ⟨fs, hrL, hrun, hended, hW, hsame⟩ := X1163.leave (v := none) (fun _ => rfl)
  refine ⟨_, _, cast (congrFun hPS _) (pre1168 _ ?_), hrun, hended, _, _, rfl, ?_, ⟨_, rfl⟩, hW, hsame.mono (by decide) (by decide)⟩
  · show Steps p.tables e below (T1163.setTop (mkF m 81 #[.val (.ref a), .val (.double xv), .second] [])) _
    exact X1163.returnOut hx Bd.returns (Jvm.hb hby d3_81) hrL
  · show QC Z a A B kA kB (0 : Int32) (2 : Int32) [(.int s0), (.int s1), (.int s2)] [(.double v0), (.double v1), (.double v2)] h0 n0 _ T1163.heap _
    rw [e1163]
    exact ⟨rfl, N1143, K1143, f1166, f1151, f1148, fw1143, f1167, f1155⟩
set_option maxRecDepth 65536 in
set_option maxHeartbeats 40000000 in
theorem rmCap_03_ccos (l : Launch) (Z : State) (a0 : Array Value) (hw : ∀ d ∈ tables_1, d.before a0 Z = true) (ws : List Jvm.Cond) (a : Addr) (xv : UInt64) (A B : Addr) (kA kB : ClassId) (s0 s1 s2 : Int32) (v0 v1 v2 : UInt64) (h0 : Heap) (n0 : Nat) (Z0 : n0 ≤ h0.size) (E7 : Exa Z h0 a own_CM) (FS : Fld Z h0 a own_CM "samples" "[I" (.ref A)) (FV : Fld Z h0 a own_CM "values" "[D" (.ref B)) (FH : Fld Z h0 a own_CM "head" "I" (.int (0 : Int32))) (FT : Fld Z h0 a own_CM "tail" "I" (.int (3 : Int32))) (VS : Arv Z h0 A kA .int (3 : Int32) [(.int s0), (.int s1), (.int s2)] (.int (0 : Int32))) (VV : Arv Z h0 B kB .double (3 : Int32) [(.double v0), (.double v1), (.double v2)] (.double (0 : UInt64))) (naA : a ≠ A) (naB : a ≠ B) (nAB : A ≠ B) (ga : n0 ≤ a) (gA : n0 ≤ A) (gB : n0 ≤ B) (pc0 : ¬ (cmpValue (FP.dcmp v1 xv) .l < 0)) (pc1 : ¬ (cmpValue (FP.dcmp v0 xv) .l < 0)) (pc3 : (0 : Int32) < cmpValue (FP.dcmp v0 xv) .l) :
    MetFree l (⟨"com/example/counterpath/counterpath/core/CappedMaximum", "cap", "(D)V"⟩ : MethodName) (head1 (Jvm.Cond.code (⟨"com/example/counterpath/counterpath/core/CappedMaximum", "cap", "(D)V"⟩ : MethodName) prog_3_method_3_code 3 none :: ws) ({ frames := 0, cells := 0, slots := 0, locals := 0 } : Room)) (fun α U => α = #[(.ref a), (.double xv)] ∧ Z.Warmed39 U.vm ∧ U.heap = h0) (fun _ _ _ _ _ => True) (fun _ U ω U' => ∃ ν Λ, ω = .returned ν ∧ QC Z a A B kA kB (0 : Int32) (1 : Int32) [(.int s0), (.int s1), (.int s2)] [(.double xv), (.double v1), (.double v2)] h0 n0 ν U'.heap Λ ∧ FrameEnd U ω U' Λ ({ frames := 0, cells := 0, slots := 0, locals := 0 } : Room).cells ({ frames := 0, cells := 0, slots := 0, locals := 0 } : Room).slots) := by
  refine MetFree.of_bodySF (plainFor_of_name own_pn_com_example_counterpath_counterpath_core_CappedMaximum) hisR ?_
  intro p e s m args below meth c s₁ Bd hml0 hP hK
  obtain ⟨rfl, hZ, hh⟩ := hP
  have hx := Bd.exec
  have hby := Bd.bytes
  have hml : c.maxLocals = 3 := hml0
  have hown : s.vm.findClass "com/example/counterpath/counterpath/core/CappedMaximum" = some m.cls := findClass_of_methodNamed Bd.named
  have hnm := (name_of_methodNamed Bd.named Bd.method).1
  have X0 : Stand p l e ({ frames := 0, cells := 0, slots := 0, locals := 0 } : Room) s m #[(.ref a), (.double xv)] below meth c s₁ [] 0 0 := Stand.of_body Bd
  have e0 : s₁.heap = h0 := by rw [← hh, Bd.state]; rfl
  have N0 := Fr.nil n0
  have KK0 : Keep h0 h0 [a, A, B] := Keep.refl h0 [a, A, B]
  obtain ⟨PS, hPS⟩ : ∃ P : State → Prop, P = fun τ => Steps p.tables e below (s₁.setTop (entryFrame m #[(.ref a), (.double xv)] 3)) τ := ⟨_, rfl⟩
  have pre0 : ∀ τ, Steps p.tables e below (s₁.setTop (mkF m 0 #[.val (.ref a), .val (.double xv), .second] [])) τ → PS τ := by rw [hPS]; exact fun τ κ => castTop (own_ef3 m a xv) κ
  obtain ⟨T1199, X1199, e1199, st1199⟩ := getF X0 hx hZ hown (host := "") (Or.inl (own_W17 hw)) Via.refl e0 FT (g := (mkF m 1 #[.val (.ref a), .val (.double xv), .second] [(.ref a)])) rfl rfl (Jvm.hb hby d3_1)
  have pre1200 := fun (τ : State) kt => pre0 τ (by
    refine XS.aloadN X0.here hx rfl (Jvm.hb hby d3_0) rfl rfl ?_
    exact st1199 τ kt)
  obtain ⟨T1201, X1201, e1201, st1201⟩ := getF X1199 hx hZ hown (host := "") (Or.inl (own_W15 hw)) Via.refl e1199 FH (g := (mkF m 5 #[.val (.ref a), .val (.double xv), .second] [(.ref a), (.int (3 : Int32))])) rfl rfl (Jvm.hb hby d3_5)
  have pre1202 := fun (τ : State) kt => pre1200 τ (by
    refine XS.aloadN X1199.here hx rfl (Jvm.hb hby d3_4) rfl rfl ?_
    exact st1201 τ kt)
  obtain ⟨T1203, X1203, e1203, st1203⟩ := getF X1201 hx hZ hown (host := "") (Or.inl (own_W13 hw)) Via.refl e1201 FV (g := (mkF m 14 #[.val (.ref a), .val (.double xv), .second] [(.ref a)])) rfl rfl (Jvm.hb hby d3_14)
  have pre1204 := fun (τ : State) kt => pre1202 τ (by
    refine XS.isub X1201.here hx rfl (Jvm.hb hby d3_8) rfl ?_
    refine XS.iconst X1201.here hx rfl (Jvm.hb hby d3_9) ?_
    refine XS.icmpNo X1201.here hx rfl (Jvm.hb hby d3_10) rfl (flt (by decide)).1 ?_
    refine XS.aloadN X1201.here hx rfl (Jvm.hb hby d3_13) rfl rfl ?_
    exact st1203 τ kt)
  obtain ⟨T1205, X1205, e1205, st1205⟩ := getF X1203 hx hZ hown (host := "") (Or.inl (own_W17 hw)) Via.refl e1203 FT (g := (mkF m 18 #[.val (.ref a), .val (.double xv), .second] [(.ref a), (.ref B)])) rfl rfl (Jvm.hb hby d3_18)
  have pre1206 := fun (τ : State) kt => pre1204 τ (by
    refine XS.aloadN X1203.here hx rfl (Jvm.hb hby d3_17) rfl rfl ?_
    exact st1205 τ kt)
  obtain ⟨cl1207, Ar1207, q1207, S1207, M1207, H1207, U1207⟩ := id VV
  have in1207 : ¬ ((1 : Int32) < 0 ∨ cl1207.slots.size ≤ ((1 : Int32)).toNatClampNeg) := inb_of S1207 ⟨by decide, by decide⟩
  obtain ⟨T1208, X1208, e1208, st1208⟩ := getF X1205 hx hZ hown (host := "") (Or.inl (own_W17 hw)) Via.refl e1205 FT (g := (mkF m 31 #[.val (.ref a), .val (.double xv), .second] [(.ref a), (.ref a)])) rfl rfl (Jvm.hb hby d3_31)
  have pre1209 := fun (τ : State) kt => pre1206 τ (by
    refine XS.iconst X1205.here hx rfl (Jvm.hb hby d3_21) ?_
    refine XS.isub X1205.here hx rfl (Jvm.hb hby d3_22) rfl ?_
    refine X1205.daload hx ((congrArg (fun (HH : Heap) => HH[B]?) (e1205 : T1205.heap = h0)).trans Ar1207.1) (State.isArrayOf_alike hZ.alike Ar1207.2.1) Ar1207.2.2 in1207 (H1207.at in1207 rfl) (g := (mkF m 23 #[.val (.ref a), .val (.double xv), .second] [(.int (1 : Int32)), (.ref B)])) rfl rfl (Jvm.hb hby d3_23) _ ?_
    refine own_dloadN X1205.here hx rfl (Jvm.hb hby d3_24) rfl ?_
    refine own_dcmp X1205.here hx rfl (Jvm.hb hby d3_25) rfl ?_
    refine XS.ifNo X1205.here hx rfl (Jvm.hb hby d3_26) rfl ((if0 _ _).trans (flt pc0).1) ?_
    refine XS.aloadN X1205.here hx rfl (Jvm.hb hby d3_29) rfl rfl ?_
    refine XS.dup X1205.here hx rfl (Jvm.hb hby d3_30) rfl rfl ?_
    exact st1208 τ kt)
  obtain ⟨T1210, h1210, X1210, e1210, W1210, st1210⟩ := putF X1208 hx hZ hown (host := "") (Or.inl (own_W17 hw)) Via.refl e1208 FT E7 (Or.inl (own_W18 hw)) (own_W1 hw) (ty := .int) (by decide) rfl rfl (g := (mkF m 36 #[.val (.ref a), .val (.double xv), .second] [(.int (2 : Int32)), (.ref a)])) rfl rfl (Jvm.hb hby d3_36)
  have fw1210 := Fld.same W1210 FT
  have N1210 := Fr.snoc X1210 N0 ga
  have K1210 : Keep h0 h1210 [a, A, B] := KK0.wr W1210 (Or.inl (by simp))
  have pre1211 := fun (τ : State) kt => pre1209 τ (by
    refine XS.iconst X1208.here hx rfl (Jvm.hb hby d3_34) ?_
    refine XS.isub X1208.here hx rfl (Jvm.hb hby d3_35) rfl ?_
    exact st1210 τ kt)
  obtain ⟨T1212, X1212, e1212, st1212⟩ := getF X1210 hx hZ hown (host := "") (Or.inl (own_W17 hw)) Via.refl e1210 fw1210 (g := (mkF m 1 #[.val (.ref a), .val (.double xv), .second] [(.ref a)])) rfl rfl (Jvm.hb hby d3_1)
  have pre1213 := fun (τ : State) kt => pre1211 τ (by
    refine XS.goto X1210.here hx rfl (pc0 := 39) (pc' := 0) rfl (Jvm.hb hby d3_39) (by decide) (by decide) ?_
    refine XS.aloadN X1210.here hx rfl (Jvm.hb hby d3_0) rfl rfl ?_
    exact st1212 τ kt)
  have f1215 := (FH.other W1210 (Or.inr (slot_ne (Or.inl (own_W16 hw)) (Or.inl (own_W18 hw)) (by decide) (t := .int) (t' := .int) (by decide) (by decide))))
  obtain ⟨T1214, X1214, e1214, st1214⟩ := getF X1212 hx hZ hown (host := "") (Or.inl (own_W15 hw)) Via.refl e1212 f1215 (g := (mkF m 5 #[.val (.ref a), .val (.double xv), .second] [(.ref a), (.int (2 : Int32))])) rfl rfl (Jvm.hb hby d3_5)
  have pre1216 := fun (τ : State) kt => pre1213 τ (by
    refine XS.aloadN X1212.here hx rfl (Jvm.hb hby d3_4) rfl rfl ?_
    exact st1214 τ kt)
  have f1218 := (FV.other W1210 (Or.inr (slot_ne (Or.inr (own_W14 hw)) (Or.inl (own_W18 hw)) (by decide) (t := (.array .double)) (t' := .int) (by decide) (by decide))))
  obtain ⟨T1217, X1217, e1217, st1217⟩ := getF X1214 hx hZ hown (host := "") (Or.inl (own_W13 hw)) Via.refl e1214 f1218 (g := (mkF m 14 #[.val (.ref a), .val (.double xv), .second] [(.ref a)])) rfl rfl (Jvm.hb hby d3_14)
  have pre1219 := fun (τ : State) kt => pre1216 τ (by
    refine XS.isub X1214.here hx rfl (Jvm.hb hby d3_8) rfl ?_
    refine XS.iconst X1214.here hx rfl (Jvm.hb hby d3_9) ?_
    refine XS.icmpNo X1214.here hx rfl (Jvm.hb hby d3_10) rfl (flt (by decide)).1 ?_
    refine XS.aloadN X1214.here hx rfl (Jvm.hb hby d3_13) rfl rfl ?_
    exact st1217 τ kt)
  obtain ⟨T1220, X1220, e1220, st1220⟩ := getF X1217 hx hZ hown (host := "") (Or.inl (own_W17 hw)) Via.refl e1217 fw1210 (g := (mkF m 18 #[.val (.ref a), .val (.double xv), .second] [(.ref a), (.ref B)])) rfl rfl (Jvm.hb hby d3_18)
  have pre1221 := fun (τ : State) kt => pre1219 τ (by
    refine XS.aloadN X1217.here hx rfl (Jvm.hb hby d3_17) rfl rfl ?_
    exact st1220 τ kt)
  have f1222 := VV.other W1210 (Ne.symm naB)
  obtain ⟨cl1223, Ar1223, q1223, S1223, M1223, H1223, U1223⟩ := id f1222
  have in1223 : ¬ ((0 : Int32) < 0 ∨ cl1223.slots.size ≤ ((0 : Int32)).toNatClampNeg) := inb_of S1223 ⟨by decide, by decide⟩
  obtain ⟨T1224, X1224, e1224, st1224⟩ := getF X1220 hx hZ hown (host := "") (Or.inl (own_W17 hw)) Via.refl e1220 fw1210 (g := (mkF m 31 #[.val (.ref a), .val (.double xv), .second] [(.ref a), (.ref a)])) rfl rfl (Jvm.hb hby d3_31)
  have pre1225 := fun (τ : State) kt => pre1221 τ (by
    refine XS.iconst X1220.here hx rfl (Jvm.hb hby d3_21) ?_
    refine XS.isub X1220.here hx rfl (Jvm.hb hby d3_22) rfl ?_
    refine X1220.daload hx ((congrArg (fun (HH : Heap) => HH[B]?) (e1220 : T1220.heap = h1210)).trans Ar1223.1) (State.isArrayOf_alike hZ.alike Ar1223.2.1) Ar1223.2.2 in1223 (H1223.at in1223 rfl) (g := (mkF m 23 #[.val (.ref a), .val (.double xv), .second] [(.int (0 : Int32)), (.ref B)])) rfl rfl (Jvm.hb hby d3_23) _ ?_
    refine own_dloadN X1220.here hx rfl (Jvm.hb hby d3_24) rfl ?_
    refine own_dcmp X1220.here hx rfl (Jvm.hb hby d3_25) rfl ?_
    refine XS.ifNo X1220.here hx rfl (Jvm.hb hby d3_26) rfl ((if0 _ _).trans (flt pc1).1) ?_
    refine XS.aloadN X1220.here hx rfl (Jvm.hb hby d3_29) rfl rfl ?_
    refine XS.dup X1220.here hx rfl (Jvm.hb hby d3_30) rfl rfl ?_
    exact st1224 τ kt)
  have f1227 := E7.wr W1210
  obtain ⟨T1226, h1226, X1226, e1226, W1226, st1226⟩ := putF X1224 hx hZ hown (host := "") (Or.inl (own_W17 hw)) Via.refl e1224 fw1210 f1227 (Or.inl (own_W18 hw)) (own_W1 hw) (ty := .int) (by decide) rfl rfl (g := (mkF m 36 #[.val (.ref a), .val (.double xv), .second] [(.int (1 : Int32)), (.ref a)])) rfl rfl (Jvm.hb hby d3_36)
  have fw1226 := Fld.same W1226 fw1210
  have N1226 := Fr.snoc X1226 N1210 ga
  have K1226 : Keep h0 h1226 [a, A, B] := K1210.wr W1226 (Or.inl (by simp))
  have pre1228 := fun (τ : State) kt => pre1225 τ (by
    refine XS.iconst X1224.here hx rfl (Jvm.hb hby d3_34) ?_
    refine XS.isub X1224.here hx rfl (Jvm.hb hby d3_35) rfl ?_
    exact st1226 τ kt)
  obtain ⟨T1229, X1229, e1229, st1229⟩ := getF X1226 hx hZ hown (host := "") (Or.inl (own_W17 hw)) Via.refl e1226 fw1226 (g := (mkF m 1 #[.val (.ref a), .val (.double xv), .second] [(.ref a)])) rfl rfl (Jvm.hb hby d3_1)
  have pre1230 := fun (τ : State) kt => pre1228 τ (by
    refine XS.goto X1226.here hx rfl (pc0 := 39) (pc' := 0) rfl (Jvm.hb hby d3_39) (by decide) (by decide) ?_
    refine XS.aloadN X1226.here hx rfl (Jvm.hb hby d3_0) rfl rfl ?_
    exact st1229 τ kt)
  have f1232 := (f1215.other W1226 (Or.inr (slot_ne (Or.inl (own_W16 hw)) (Or.inl (own_W18 hw)) (by decide) (t := .int) (t' := .int) (by decide) (by decide))))
  obtain ⟨T1231, X1231, e1231, st1231⟩ := getF X1229 hx hZ hown (host := "") (Or.inl (own_W15 hw)) Via.refl e1229 f1232 (g := (mkF m 5 #[.val (.ref a), .val (.double xv), .second] [(.ref a), (.int (1 : Int32))])) rfl rfl (Jvm.hb hby d3_5)
  have pre1233 := fun (τ : State) kt => pre1230 τ (by
    refine XS.aloadN X1229.here hx rfl (Jvm.hb hby d3_4) rfl rfl ?_
    exact st1231 τ kt)
  obtain ⟨T1234, X1234, e1234, st1234⟩ := getF X1231 hx hZ hown (host := "") (Or.inl (own_W17 hw)) Via.refl e1231 fw1226 (g := (mkF m 43 #[.val (.ref a), .val (.double xv), .second] [(.ref a)])) rfl rfl (Jvm.hb hby d3_43)
  have pre1235 := fun (τ : State) kt => pre1233 τ (by
    refine XS.isub X1231.here hx rfl (Jvm.hb hby d3_8) rfl ?_
    refine XS.iconst X1231.here hx rfl (Jvm.hb hby d3_9) ?_
    refine XS.icmpYes X1231.here hx rfl (pc0 := 10) (pc' := 42) rfl (Jvm.hb hby d3_10) rfl (tlt (by decide)).1 (by decide) (by decide) ?_
    refine XS.aloadN X1231.here hx rfl (Jvm.hb hby d3_42) rfl rfl ?_
    exact st1234 τ kt)
  obtain ⟨T1236, X1236, e1236, st1236⟩ := getF X1234 hx hZ hown (host := "") (Or.inl (own_W15 hw)) Via.refl e1234 f1232 (g := (mkF m 47 #[.val (.ref a), .val (.double xv), .second] [(.ref a), (.int (1 : Int32))])) rfl rfl (Jvm.hb hby d3_47)
  have pre1237 := fun (τ : State) kt => pre1235 τ (by
    refine XS.aloadN X1234.here hx rfl (Jvm.hb hby d3_46) rfl rfl ?_
    exact st1236 τ kt)
  have f1239 := (f1218.other W1226 (Or.inr (slot_ne (Or.inr (own_W14 hw)) (Or.inl (own_W18 hw)) (by decide) (t := (.array .double)) (t' := .int) (by decide) (by decide))))
  obtain ⟨T1238, X1238, e1238, st1238⟩ := getF X1236 hx hZ hown (host := "") (Or.inl (own_W13 hw)) Via.refl e1236 f1239 (g := (mkF m 54 #[.val (.ref a), .val (.double xv), .second] [(.ref a)])) rfl rfl (Jvm.hb hby d3_54)
  have pre1240 := fun (τ : State) kt => pre1237 τ (by
    refine XS.icmpNo X1236.here hx rfl (Jvm.hb hby d3_50) rfl (tlt (by decide)).2.2.2 ?_
    refine XS.aloadN X1236.here hx rfl (Jvm.hb hby d3_53) rfl rfl ?_
    exact st1238 τ kt)
  obtain ⟨T1241, X1241, e1241, st1241⟩ := getF X1238 hx hZ hown (host := "") (Or.inl (own_W17 hw)) Via.refl e1238 fw1226 (g := (mkF m 58 #[.val (.ref a), .val (.double xv), .second] [(.ref a), (.ref B)])) rfl rfl (Jvm.hb hby d3_58)
  have pre1242 := fun (τ : State) kt => pre1240 τ (by
    refine XS.aloadN X1238.here hx rfl (Jvm.hb hby d3_57) rfl rfl ?_
    exact st1241 τ kt)
  have f1243 := f1222.other W1226 (Ne.symm naB)
  obtain ⟨cl1244, Ar1244, q1244, S1244, M1244, H1244, U1244⟩ := id f1243
  have in1244 : ¬ ((0 : Int32) < 0 ∨ cl1244.slots.size ≤ ((0 : Int32)).toNatClampNeg) := inb_of S1244 ⟨by decide, by decide⟩
  obtain ⟨T1245, X1245, e1245, st1245⟩ := getF X1241 hx hZ hown (host := "") (Or.inl (own_W13 hw)) Via.refl e1241 f1239 (g := (mkF m 70 #[.val (.ref a), .val (.double xv), .second] [(.ref a)])) rfl rfl (Jvm.hb hby d3_70)
  have pre1246 := fun (τ : State) kt => pre1242 τ (by
    refine XS.iconst X1241.here hx rfl (Jvm.hb hby d3_61) ?_
    refine XS.isub X1241.here hx rfl (Jvm.hb hby d3_62) rfl ?_
    refine X1241.daload hx ((congrArg (fun (HH : Heap) => HH[B]?) (e1241 : T1241.heap = h1226)).trans Ar1244.1) (State.isArrayOf_alike hZ.alike Ar1244.2.1) Ar1244.2.2 in1244 (H1244.at in1244 rfl) (g := (mkF m 63 #[.val (.ref a), .val (.double xv), .second] [(.int (0 : Int32)), (.ref B)])) rfl rfl (Jvm.hb hby d3_63) _ ?_
    refine own_dloadN X1241.here hx rfl (Jvm.hb hby d3_64) rfl ?_
    refine own_dcmp X1241.here hx rfl (Jvm.hb hby d3_65) rfl ?_
    refine XS.ifNo X1241.here hx rfl (Jvm.hb hby d3_66) rfl ((if0 _ _).trans (tlt pc3).2.2.2) ?_
    refine XS.aloadN X1241.here hx rfl (Jvm.hb hby d3_69) rfl rfl ?_
    exact st1245 τ kt)
  obtain ⟨T1247, X1247, e1247, st1247⟩ := getF X1245 hx hZ hown (host := "") (Or.inl (own_W17 hw)) Via.refl e1245 fw1226 (g := (mkF m 74 #[.val (.ref a), .val (.double xv), .second] [(.ref a), (.ref B)])) rfl rfl (Jvm.hb hby d3_74)
  have pre1248 := fun (τ : State) kt => pre1246 τ (by
    refine XS.aloadN X1245.here hx rfl (Jvm.hb hby d3_73) rfl rfl ?_
    exact st1247 τ kt)
  obtain ⟨cl1249, Ar1249, q1249, S1249, M1249, H1249, U1249⟩ := id f1243
  obtain ⟨T1250, h1250, X1250, e1250, W1250, st1250⟩ := own_stD X1247 hx hZ e1247 Ar1249 (j := (0 : Int32)) (inb_of S1249 ⟨by decide, by decide⟩) (g := (mkF m 80 #[.val (.ref a), .val (.double xv), .second] [(.double xv), (.int (0 : Int32)), (.ref B)])) rfl rfl (Jvm.hb hby d3_80)
  have V1250 : Arv Z h1250 B kB .double (3 : Int32) [(.double xv), (.double v1), (.double v2)] (.double (0 : UInt64)) := Arv.set Ar1249 q1249 S1249 M1249 H1249 U1249 rfl W1250 0 rfl (Nat.le_of_ble_eq_true rfl)
  have N1250 := Fr.snoc X1250 N1226 gB
  have K1250 : Keep h0 h1250 [a, A, B] := K1226.wr W1250 (Or.inl (by simp))
  have pre1251 := fun (τ : State) kt => pre1248 τ (by
    refine XS.iconst X1247.here hx rfl (Jvm.hb hby d3_77) ?_
    refine XS.isub X1247.here hx rfl (Jvm.hb hby d3_78) rfl ?_
    refine own_dloadN X1247.here hx rfl (Jvm.hb hby d3_79) rfl ?_
    exact st1250 τ kt)
  have f1252 := (FS.other W1210 (Or.inr (slot_ne (Or.inr (own_W11 hw)) (Or.inl (own_W18 hw)) (by decide) (t := (.array .int)) (t' := .int) (by decide) (by decide))))
  have f1253 := (f1252.other W1226 (Or.inr (slot_ne (Or.inr (own_W11 hw)) (Or.inl (own_W18 hw)) (by decide) (t := (.array .int)) (t' := .int) (by decide) (by decide))))
  have f1254 := (f1253.other W1250 (Or.inl naB))
  have f1255 := (f1239.other W1250 (Or.inl naB))
  have f1256 := (f1232.other W1250 (Or.inl naB))
  have f1257 := (fw1226.other W1250 (Or.inl naB))
  have f1258 := VS.other W1210 (Ne.symm naA)
  have f1259 := f1258.other W1226 (Ne.symm naA)
  have f1260 := f1259.other W1250 nAB
  obtain ⟨fs, hrL, hrun, hended, hW, hsame⟩ := X1250.leave (v := none) (fun _ => rfl)
  refine ⟨_, _, cast (congrFun hPS _) (pre1251 _ ?_), hrun, hended, _, _, rfl, ?_, ⟨_, rfl⟩, hW, hsame.mono (by decide) (by decide)⟩
  · show Steps p.tables e below (T1250.setTop (mkF m 81 #[.val (.ref a), .val (.double xv), .second] [])) _
    exact X1250.returnOut hx Bd.returns (Jvm.hb hby d3_81) hrL
  · show QC Z a A B kA kB (0 : Int32) (1 : Int32) [(.int s0), (.int s1), (.int s2)] [(.double xv), (.double v1), (.double v2)] h0 n0 _ T1250.heap _
    rw [e1250]
    exact ⟨rfl, N1250, K1250, f1254, f1255, f1256, f1257, f1260, V1250⟩
set_option maxRecDepth 65536 in
set_option maxHeartbeats 40000000 in
theorem rmRem_01_x (l : Launch) (Z : State) (a0 : Array Value) (hw : ∀ d ∈ tables_1, d.before a0 Z = true) (ws : List Jvm.Cond) (a : Addr) (xs : Int32) (A B : Addr) (kA kB : ClassId) (s0 s1 s2 : Int32) (v0 v1 v2 : UInt64) (h0 : Heap) (n0 : Nat) (Z0 : n0 ≤ h0.size) (E7 : Exa Z h0 a own_CM) (FS : Fld Z h0 a own_CM "samples" "[I" (.ref A)) (FV : Fld Z h0 a own_CM "values" "[D" (.ref B)) (FH : Fld Z h0 a own_CM "head" "I" (.int (0 : Int32))) (FT : Fld Z h0 a own_CM "tail" "I" (.int (1 : Int32))) (VS : Arv Z h0 A kA .int (3 : Int32) [(.int s0), (.int s1), (.int s2)] (.int (0 : Int32))) (VV : Arv Z h0 B kB .double (3 : Int32) [(.double v0), (.double v1), (.double v2)] (.double (0 : UInt64))) (naA : a ≠ A) (naB : a ≠ B) (nAB : A ≠ B) (ga : n0 ≤ a) (gA : n0 ≤ A) (gB : n0 ≤ B) (pc0 : ¬ (xs < s0)) :
    MetFree l (⟨"com/example/counterpath/counterpath/core/CappedMaximum", "removeAfter", "(I)V"⟩ : MethodName) (head1 (Jvm.Cond.code (⟨"com/example/counterpath/counterpath/core/CappedMaximum", "removeAfter", "(I)V"⟩ : MethodName) prog_3_method_4_code 2 none :: ws) ({ frames := 0, cells := 0, slots := 0, locals := 0 } : Room)) (fun α U => α = #[(.ref a), (.int xs)] ∧ Z.Warmed39 U.vm ∧ U.heap = h0) (fun _ _ _ _ _ => True) (fun _ U ω U' => ∃ ν Λ, ω = .returned ν ∧ QC Z a A B kA kB (0 : Int32) (1 : Int32) [(.int s0), (.int s1), (.int s2)] [(.double v0), (.double v1), (.double v2)] h0 n0 ν U'.heap Λ ∧ FrameEnd U ω U' Λ ({ frames := 0, cells := 0, slots := 0, locals := 0 } : Room).cells ({ frames := 0, cells := 0, slots := 0, locals := 0 } : Room).slots) := by
  refine MetFree.of_bodySF (plainFor_of_name own_pn_com_example_counterpath_counterpath_core_CappedMaximum) hisR ?_
  intro p e s m args below meth c s₁ Bd hml0 hP hK
  obtain ⟨rfl, hZ, hh⟩ := hP
  have hx := Bd.exec
  have hby := Bd.bytes
  have hml : c.maxLocals = 2 := hml0
  have hown : s.vm.findClass "com/example/counterpath/counterpath/core/CappedMaximum" = some m.cls := findClass_of_methodNamed Bd.named
  have hnm := (name_of_methodNamed Bd.named Bd.method).1
  have X0 : Stand p l e ({ frames := 0, cells := 0, slots := 0, locals := 0 } : Room) s m #[(.ref a), (.int xs)] below meth c s₁ [] 0 0 := Stand.of_body Bd
  have e0 : s₁.heap = h0 := by rw [← hh, Bd.state]; rfl
  have N0 := Fr.nil n0
  have KK0 : Keep h0 h0 [a, A, B] := Keep.refl h0 [a, A, B]
  obtain ⟨PS, hPS⟩ : ∃ P : State → Prop, P = fun τ => Steps p.tables e below (s₁.setTop (entryFrame m #[(.ref a), (.int xs)] 2)) τ := ⟨_, rfl⟩
  have pre0 : ∀ τ, Steps p.tables e below (s₁.setTop (mkF m 0 #[.val (.ref a), .val (.int xs)] [])) τ → PS τ := by rw [hPS]; exact fun τ κ => castTop (own_ef7 m a xs) κ
  obtain ⟨T1273, X1273, e1273, st1273⟩ := getF X0 hx hZ hown (host := "") (Or.inl (own_W17 hw)) Via.refl e0 FT (g := (mkF m 1 #[.val (.ref a), .val (.int xs)] [(.ref a)])) rfl rfl (Jvm.hb hby d7_1)
  have pre1274 := fun (τ : State) kt => pre0 τ (by
    refine XS.aloadN X0.here hx rfl (Jvm.hb hby d7_0) rfl rfl ?_
    exact st1273 τ kt)
  obtain ⟨T1275, X1275, e1275, st1275⟩ := getF X1273 hx hZ hown (host := "") (Or.inl (own_W15 hw)) Via.refl e1273 FH (g := (mkF m 5 #[.val (.ref a), .val (.int xs)] [(.ref a), (.int (1 : Int32))])) rfl rfl (Jvm.hb hby d7_5)
  have pre1276 := fun (τ : State) kt => pre1274 τ (by
    refine XS.aloadN X1273.here hx rfl (Jvm.hb hby d7_4) rfl rfl ?_
    exact st1275 τ kt)
  obtain ⟨T1277, X1277, e1277, st1277⟩ := getF X1275 hx hZ hown (host := "") (Or.inl (own_W10 hw)) Via.refl e1275 FS (g := (mkF m 12 #[.val (.ref a), .val (.int xs)] [(.ref a)])) rfl rfl (Jvm.hb hby d7_12)
  have pre1278 := fun (τ : State) kt => pre1276 τ (by
    refine XS.icmpNo X1275.here hx rfl (Jvm.hb hby d7_8) rfl (tlt (by decide)).2.2.2 ?_
    refine XS.aloadN X1275.here hx rfl (Jvm.hb hby d7_11) rfl rfl ?_
    exact st1277 τ kt)
  obtain ⟨T1279, X1279, e1279, st1279⟩ := getF X1277 hx hZ hown (host := "") (Or.inl (own_W17 hw)) Via.refl e1277 FT (g := (mkF m 16 #[.val (.ref a), .val (.int xs)] [(.ref a), (.ref A)])) rfl rfl (Jvm.hb hby d7_16)
  have pre1280 := fun (τ : State) kt => pre1278 τ (by
    refine XS.aloadN X1277.here hx rfl (Jvm.hb hby d7_15) rfl rfl ?_
    exact st1279 τ kt)
  obtain ⟨cl1281, Ar1281, q1281, S1281, M1281, H1281, U1281⟩ := id VS
  have in1281 : ¬ ((0 : Int32) < 0 ∨ cl1281.slots.size ≤ ((0 : Int32)).toNatClampNeg) := inb_of S1281 ⟨by decide, by decide⟩
  have pre1282 := fun (τ : State) kt => pre1280 τ (by
    refine XS.iconst X1279.here hx rfl (Jvm.hb hby d7_19) ?_
    refine XS.isub X1279.here hx rfl (Jvm.hb hby d7_20) rfl ?_
    refine X1279.iaload hx ((congrArg (fun (HH : Heap) => HH[A]?) (e1279 : T1279.heap = h0)).trans Ar1281.1) (State.isArrayOf_alike hZ.alike Ar1281.2.1) Ar1281.2.2 in1281 (H1281.at in1281 rfl) (g := (mkF m 21 #[.val (.ref a), .val (.int xs)] [(.int (0 : Int32)), (.ref A)])) rfl rfl (Jvm.hb hby d7_21) _ ?_
    refine XS.iloadN X1279.here hx rfl (Jvm.hb hby d7_22) rfl ?_
    refine XS.icmpYes X1279.here hx rfl (pc0 := 23) (pc' := 39) rfl (Jvm.hb hby d7_23) rfl (flt pc0).2.2.2 (by decide) (by decide) ?_
    exact kt)
  obtain ⟨fs, hrL, hrun, hended, hW, hsame⟩ := X1279.leave (v := none) (fun _ => rfl)
  refine ⟨_, _, cast (congrFun hPS _) (pre1282 _ ?_), hrun, hended, _, _, rfl, ?_, ⟨_, rfl⟩, hW, hsame.mono (by decide) (by decide)⟩
  · show Steps p.tables e below (T1279.setTop (mkF m 39 #[.val (.ref a), .val (.int xs)] [])) _
    exact X1279.returnOut hx Bd.returns (Jvm.hb hby d7_39) hrL
  · show QC Z a A B kA kB (0 : Int32) (1 : Int32) [(.int s0), (.int s1), (.int s2)] [(.double v0), (.double v1), (.double v2)] h0 n0 _ T1279.heap _
    rw [e1279]
    exact ⟨rfl, N0, KK0, FS, FV, FH, FT, VS, VV⟩
set_option maxRecDepth 65536 in
set_option maxHeartbeats 40000000 in
theorem rmCap_03_ccok (l : Launch) (Z : State) (a0 : Array Value) (hw : ∀ d ∈ tables_1, d.before a0 Z = true) (ws : List Jvm.Cond) (a : Addr) (xv : UInt64) (A B : Addr) (kA kB : ClassId) (s0 s1 s2 : Int32) (v0 v1 v2 : UInt64) (h0 : Heap) (n0 : Nat) (Z0 : n0 ≤ h0.size) (E7 : Exa Z h0 a own_CM) (FS : Fld Z h0 a own_CM "samples" "[I" (.ref A)) (FV : Fld Z h0 a own_CM "values" "[D" (.ref B)) (FH : Fld Z h0 a own_CM "head" "I" (.int (0 : Int32))) (FT : Fld Z h0 a own_CM "tail" "I" (.int (3 : Int32))) (VS : Arv Z h0 A kA .int (3 : Int32) [(.int s0), (.int s1), (.int s2)] (.int (0 : Int32))) (VV : Arv Z h0 B kB .double (3 : Int32) [(.double v0), (.double v1), (.double v2)] (.double (0 : UInt64))) (naA : a ≠ A) (naB : a ≠ B) (nAB : A ≠ B) (ga : n0 ≤ a) (gA : n0 ≤ A) (gB : n0 ≤ B) (pc0 : ¬ (cmpValue (FP.dcmp v1 xv) .l < 0)) (pc1 : ¬ (cmpValue (FP.dcmp v0 xv) .l < 0)) (pc3 : ¬ ((0 : Int32) < cmpValue (FP.dcmp v0 xv) .l)) :
    MetFree l (⟨"com/example/counterpath/counterpath/core/CappedMaximum", "cap", "(D)V"⟩ : MethodName) (head1 (Jvm.Cond.code (⟨"com/example/counterpath/counterpath/core/CappedMaximum", "cap", "(D)V"⟩ : MethodName) prog_3_method_3_code 3 none :: ws) ({ frames := 0, cells := 0, slots := 0, locals := 0 } : Room)) (fun α U => α = #[(.ref a), (.double xv)] ∧ Z.Warmed39 U.vm ∧ U.heap = h0) (fun _ _ _ _ _ => True) (fun _ U ω U' => ∃ ν Λ, ω = .returned ν ∧ QC Z a A B kA kB (0 : Int32) (1 : Int32) [(.int s0), (.int s1), (.int s2)] [(.double v0), (.double v1), (.double v2)] h0 n0 ν U'.heap Λ ∧ FrameEnd U ω U' Λ ({ frames := 0, cells := 0, slots := 0, locals := 0 } : Room).cells ({ frames := 0, cells := 0, slots := 0, locals := 0 } : Room).slots) := by
  refine MetFree.of_bodySF (plainFor_of_name own_pn_com_example_counterpath_counterpath_core_CappedMaximum) hisR ?_
  intro p e s m args below meth c s₁ Bd hml0 hP hK
  obtain ⟨rfl, hZ, hh⟩ := hP
  have hx := Bd.exec
  have hby := Bd.bytes
  have hml : c.maxLocals = 3 := hml0
  have hown : s.vm.findClass "com/example/counterpath/counterpath/core/CappedMaximum" = some m.cls := findClass_of_methodNamed Bd.named
  have hnm := (name_of_methodNamed Bd.named Bd.method).1
  have X0 : Stand p l e ({ frames := 0, cells := 0, slots := 0, locals := 0 } : Room) s m #[(.ref a), (.double xv)] below meth c s₁ [] 0 0 := Stand.of_body Bd
  have e0 : s₁.heap = h0 := by rw [← hh, Bd.state]; rfl
  have N0 := Fr.nil n0
  have KK0 : Keep h0 h0 [a, A, B] := Keep.refl h0 [a, A, B]
  obtain ⟨PS, hPS⟩ : ∃ P : State → Prop, P = fun τ => Steps p.tables e below (s₁.setTop (entryFrame m #[(.ref a), (.double xv)] 3)) τ := ⟨_, rfl⟩
  have pre0 : ∀ τ, Steps p.tables e below (s₁.setTop (mkF m 0 #[.val (.ref a), .val (.double xv), .second] [])) τ → PS τ := by rw [hPS]; exact fun τ κ => castTop (own_ef3 m a xv) κ
  obtain ⟨T1300, X1300, e1300, st1300⟩ := getF X0 hx hZ hown (host := "") (Or.inl (own_W17 hw)) Via.refl e0 FT (g := (mkF m 1 #[.val (.ref a), .val (.double xv), .second] [(.ref a)])) rfl rfl (Jvm.hb hby d3_1)
  have pre1301 := fun (τ : State) kt => pre0 τ (by
    refine XS.aloadN X0.here hx rfl (Jvm.hb hby d3_0) rfl rfl ?_
    exact st1300 τ kt)
  obtain ⟨T1302, X1302, e1302, st1302⟩ := getF X1300 hx hZ hown (host := "") (Or.inl (own_W15 hw)) Via.refl e1300 FH (g := (mkF m 5 #[.val (.ref a), .val (.double xv), .second] [(.ref a), (.int (3 : Int32))])) rfl rfl (Jvm.hb hby d3_5)
  have pre1303 := fun (τ : State) kt => pre1301 τ (by
    refine XS.aloadN X1300.here hx rfl (Jvm.hb hby d3_4) rfl rfl ?_
    exact st1302 τ kt)
  obtain ⟨T1304, X1304, e1304, st1304⟩ := getF X1302 hx hZ hown (host := "") (Or.inl (own_W13 hw)) Via.refl e1302 FV (g := (mkF m 14 #[.val (.ref a), .val (.double xv), .second] [(.ref a)])) rfl rfl (Jvm.hb hby d3_14)
  have pre1305 := fun (τ : State) kt => pre1303 τ (by
    refine XS.isub X1302.here hx rfl (Jvm.hb hby d3_8) rfl ?_
    refine XS.iconst X1302.here hx rfl (Jvm.hb hby d3_9) ?_
    refine XS.icmpNo X1302.here hx rfl (Jvm.hb hby d3_10) rfl (flt (by decide)).1 ?_
    refine XS.aloadN X1302.here hx rfl (Jvm.hb hby d3_13) rfl rfl ?_
    exact st1304 τ kt)
  obtain ⟨T1306, X1306, e1306, st1306⟩ := getF X1304 hx hZ hown (host := "") (Or.inl (own_W17 hw)) Via.refl e1304 FT (g := (mkF m 18 #[.val (.ref a), .val (.double xv), .second] [(.ref a), (.ref B)])) rfl rfl (Jvm.hb hby d3_18)
  have pre1307 := fun (τ : State) kt => pre1305 τ (by
    refine XS.aloadN X1304.here hx rfl (Jvm.hb hby d3_17) rfl rfl ?_
    exact st1306 τ kt)
  obtain ⟨cl1308, Ar1308, q1308, S1308, M1308, H1308, U1308⟩ := id VV
  have in1308 : ¬ ((1 : Int32) < 0 ∨ cl1308.slots.size ≤ ((1 : Int32)).toNatClampNeg) := inb_of S1308 ⟨by decide, by decide⟩
  obtain ⟨T1309, X1309, e1309, st1309⟩ := getF X1306 hx hZ hown (host := "") (Or.inl (own_W17 hw)) Via.refl e1306 FT (g := (mkF m 31 #[.val (.ref a), .val (.double xv), .second] [(.ref a), (.ref a)])) rfl rfl (Jvm.hb hby d3_31)
  have pre1310 := fun (τ : State) kt => pre1307 τ (by
    refine XS.iconst X1306.here hx rfl (Jvm.hb hby d3_21) ?_
    refine XS.isub X1306.here hx rfl (Jvm.hb hby d3_22) rfl ?_
    refine X1306.daload hx ((congrArg (fun (HH : Heap) => HH[B]?) (e1306 : T1306.heap = h0)).trans Ar1308.1) (State.isArrayOf_alike hZ.alike Ar1308.2.1) Ar1308.2.2 in1308 (H1308.at in1308 rfl) (g := (mkF m 23 #[.val (.ref a), .val (.double xv), .second] [(.int (1 : Int32)), (.ref B)])) rfl rfl (Jvm.hb hby d3_23) _ ?_
    refine own_dloadN X1306.here hx rfl (Jvm.hb hby d3_24) rfl ?_
    refine own_dcmp X1306.here hx rfl (Jvm.hb hby d3_25) rfl ?_
    refine XS.ifNo X1306.here hx rfl (Jvm.hb hby d3_26) rfl ((if0 _ _).trans (flt pc0).1) ?_
    refine XS.aloadN X1306.here hx rfl (Jvm.hb hby d3_29) rfl rfl ?_
    refine XS.dup X1306.here hx rfl (Jvm.hb hby d3_30) rfl rfl ?_
    exact st1309 τ kt)
  obtain ⟨T1311, h1311, X1311, e1311, W1311, st1311⟩ := putF X1309 hx hZ hown (host := "") (Or.inl (own_W17 hw)) Via.refl e1309 FT E7 (Or.inl (own_W18 hw)) (own_W1 hw) (ty := .int) (by decide) rfl rfl (g := (mkF m 36 #[.val (.ref a), .val (.double xv), .second] [(.int (2 : Int32)), (.ref a)])) rfl rfl (Jvm.hb hby d3_36)
  have fw1311 := Fld.same W1311 FT
  have N1311 := Fr.snoc X1311 N0 ga
  have K1311 : Keep h0 h1311 [a, A, B] := KK0.wr W1311 (Or.inl (by simp))
  have pre1312 := fun (τ : State) kt => pre1310 τ (by
    refine XS.iconst X1309.here hx rfl (Jvm.hb hby d3_34) ?_
    refine XS.isub X1309.here hx rfl (Jvm.hb hby d3_35) rfl ?_
    exact st1311 τ kt)
  obtain ⟨T1313, X1313, e1313, st1313⟩ := getF X1311 hx hZ hown (host := "") (Or.inl (own_W17 hw)) Via.refl e1311 fw1311 (g := (mkF m 1 #[.val (.ref a), .val (.double xv), .second] [(.ref a)])) rfl rfl (Jvm.hb hby d3_1)
  have pre1314 := fun (τ : State) kt => pre1312 τ (by
    refine XS.goto X1311.here hx rfl (pc0 := 39) (pc' := 0) rfl (Jvm.hb hby d3_39) (by decide) (by decide) ?_
    refine XS.aloadN X1311.here hx rfl (Jvm.hb hby d3_0) rfl rfl ?_
    exact st1313 τ kt)
  have f1316 := (FH.other W1311 (Or.inr (slot_ne (Or.inl (own_W16 hw)) (Or.inl (own_W18 hw)) (by decide) (t := .int) (t' := .int) (by decide) (by decide))))
  obtain ⟨T1315, X1315, e1315, st1315⟩ := getF X1313 hx hZ hown (host := "") (Or.inl (own_W15 hw)) Via.refl e1313 f1316 (g := (mkF m 5 #[.val (.ref a), .val (.double xv), .second] [(.ref a), (.int (2 : Int32))])) rfl rfl (Jvm.hb hby d3_5)
  have pre1317 := fun (τ : State) kt => pre1314 τ (by
    refine XS.aloadN X1313.here hx rfl (Jvm.hb hby d3_4) rfl rfl ?_
    exact st1315 τ kt)
  have f1319 := (FV.other W1311 (Or.inr (slot_ne (Or.inr (own_W14 hw)) (Or.inl (own_W18 hw)) (by decide) (t := (.array .double)) (t' := .int) (by decide) (by decide))))
  obtain ⟨T1318, X1318, e1318, st1318⟩ := getF X1315 hx hZ hown (host := "") (Or.inl (own_W13 hw)) Via.refl e1315 f1319 (g := (mkF m 14 #[.val (.ref a), .val (.double xv), .second] [(.ref a)])) rfl rfl (Jvm.hb hby d3_14)
  have pre1320 := fun (τ : State) kt => pre1317 τ (by
    refine XS.isub X1315.here hx rfl (Jvm.hb hby d3_8) rfl ?_
    refine XS.iconst X1315.here hx rfl (Jvm.hb hby d3_9) ?_
    refine XS.icmpNo X1315.here hx rfl (Jvm.hb hby d3_10) rfl (flt (by decide)).1 ?_
    refine XS.aloadN X1315.here hx rfl (Jvm.hb hby d3_13) rfl rfl ?_
    exact st1318 τ kt)
  obtain ⟨T1321, X1321, e1321, st1321⟩ := getF X1318 hx hZ hown (host := "") (Or.inl (own_W17 hw)) Via.refl e1318 fw1311 (g := (mkF m 18 #[.val (.ref a), .val (.double xv), .second] [(.ref a), (.ref B)])) rfl rfl (Jvm.hb hby d3_18)
  have pre1322 := fun (τ : State) kt => pre1320 τ (by
    refine XS.aloadN X1318.here hx rfl (Jvm.hb hby d3_17) rfl rfl ?_
    exact st1321 τ kt)
  have f1323 := VV.other W1311 (Ne.symm naB)
  obtain ⟨cl1324, Ar1324, q1324, S1324, M1324, H1324, U1324⟩ := id f1323
  have in1324 : ¬ ((0 : Int32) < 0 ∨ cl1324.slots.size ≤ ((0 : Int32)).toNatClampNeg) := inb_of S1324 ⟨by decide, by decide⟩
  obtain ⟨T1325, X1325, e1325, st1325⟩ := getF X1321 hx hZ hown (host := "") (Or.inl (own_W17 hw)) Via.refl e1321 fw1311 (g := (mkF m 31 #[.val (.ref a), .val (.double xv), .second] [(.ref a), (.ref a)])) rfl rfl (Jvm.hb hby d3_31)
  have pre1326 := fun (τ : State) kt => pre1322 τ (by
    refine XS.iconst X1321.here hx rfl (Jvm.hb hby d3_21) ?_
    refine XS.isub X1321.here hx rfl (Jvm.hb hby d3_22) rfl ?_
    refine X1321.daload hx ((congrArg (fun (HH : Heap) => HH[B]?) (e1321 : T1321.heap = h1311)).trans Ar1324.1) (State.isArrayOf_alike hZ.alike Ar1324.2.1) Ar1324.2.2 in1324 (H1324.at in1324 rfl) (g := (mkF m 23 #[.val (.ref a), .val (.double xv), .second] [(.int (0 : Int32)), (.ref B)])) rfl rfl (Jvm.hb hby d3_23) _ ?_
    refine own_dloadN X1321.here hx rfl (Jvm.hb hby d3_24) rfl ?_
    refine own_dcmp X1321.here hx rfl (Jvm.hb hby d3_25) rfl ?_
    refine XS.ifNo X1321.here hx rfl (Jvm.hb hby d3_26) rfl ((if0 _ _).trans (flt pc1).1) ?_
    refine XS.aloadN X1321.here hx rfl (Jvm.hb hby d3_29) rfl rfl ?_
    refine XS.dup X1321.here hx rfl (Jvm.hb hby d3_30) rfl rfl ?_
    exact st1325 τ kt)
  have f1328 := E7.wr W1311
  obtain ⟨T1327, h1327, X1327, e1327, W1327, st1327⟩ := putF X1325 hx hZ hown (host := "") (Or.inl (own_W17 hw)) Via.refl e1325 fw1311 f1328 (Or.inl (own_W18 hw)) (own_W1 hw) (ty := .int) (by decide) rfl rfl (g := (mkF m 36 #[.val (.ref a), .val (.double xv), .second] [(.int (1 : Int32)), (.ref a)])) rfl rfl (Jvm.hb hby d3_36)
  have fw1327 := Fld.same W1327 fw1311
  have N1327 := Fr.snoc X1327 N1311 ga
  have K1327 : Keep h0 h1327 [a, A, B] := K1311.wr W1327 (Or.inl (by simp))
  have pre1329 := fun (τ : State) kt => pre1326 τ (by
    refine XS.iconst X1325.here hx rfl (Jvm.hb hby d3_34) ?_
    refine XS.isub X1325.here hx rfl (Jvm.hb hby d3_35) rfl ?_
    exact st1327 τ kt)
  obtain ⟨T1330, X1330, e1330, st1330⟩ := getF X1327 hx hZ hown (host := "") (Or.inl (own_W17 hw)) Via.refl e1327 fw1327 (g := (mkF m 1 #[.val (.ref a), .val (.double xv), .second] [(.ref a)])) rfl rfl (Jvm.hb hby d3_1)
  have pre1331 := fun (τ : State) kt => pre1329 τ (by
    refine XS.goto X1327.here hx rfl (pc0 := 39) (pc' := 0) rfl (Jvm.hb hby d3_39) (by decide) (by decide) ?_
    refine XS.aloadN X1327.here hx rfl (Jvm.hb hby d3_0) rfl rfl ?_
    exact st1330 τ kt)
  have f1333 := (f1316.other W1327 (Or.inr (slot_ne (Or.inl (own_W16 hw)) (Or.inl (own_W18 hw)) (by decide) (t := .int) (t' := .int) (by decide) (by decide))))
  obtain ⟨T1332, X1332, e1332, st1332⟩ := getF X1330 hx hZ hown (host := "") (Or.inl (own_W15 hw)) Via.refl e1330 f1333 (g := (mkF m 5 #[.val (.ref a), .val (.double xv), .second] [(.ref a), (.int (1 : Int32))])) rfl rfl (Jvm.hb hby d3_5)
  have pre1334 := fun (τ : State) kt => pre1331 τ (by
    refine XS.aloadN X1330.here hx rfl (Jvm.hb hby d3_4) rfl rfl ?_
    exact st1332 τ kt)
  obtain ⟨T1335, X1335, e1335, st1335⟩ := getF X1332 hx hZ hown (host := "") (Or.inl (own_W17 hw)) Via.refl e1332 fw1327 (g := (mkF m 43 #[.val (.ref a), .val (.double xv), .second] [(.ref a)])) rfl rfl (Jvm.hb hby d3_43)
  have pre1336 := fun (τ : State) kt => pre1334 τ (by
    refine XS.isub X1332.here hx rfl (Jvm.hb hby d3_8) rfl ?_
    refine XS.iconst X1332.here hx rfl (Jvm.hb hby d3_9) ?_
    refine XS.icmpYes X1332.here hx rfl (pc0 := 10) (pc' := 42) rfl (Jvm.hb hby d3_10) rfl (tlt (by decide)).1 (by decide) (by decide) ?_
    refine XS.aloadN X1332.here hx rfl (Jvm.hb hby d3_42) rfl rfl ?_
    exact st1335 τ kt)
  obtain ⟨T1337, X1337, e1337, st1337⟩ := getF X1335 hx hZ hown (host := "") (Or.inl (own_W15 hw)) Via.refl e1335 f1333 (g := (mkF m 47 #[.val (.ref a), .val (.double xv), .second] [(.ref a), (.int (1 : Int32))])) rfl rfl (Jvm.hb hby d3_47)
  have pre1338 := fun (τ : State) kt => pre1336 τ (by
    refine XS.aloadN X1335.here hx rfl (Jvm.hb hby d3_46) rfl rfl ?_
    exact st1337 τ kt)
  have f1340 := (f1319.other W1327 (Or.inr (slot_ne (Or.inr (own_W14 hw)) (Or.inl (own_W18 hw)) (by decide) (t := (.array .double)) (t' := .int) (by decide) (by decide))))
  obtain ⟨T1339, X1339, e1339, st1339⟩ := getF X1337 hx hZ hown (host := "") (Or.inl (own_W13 hw)) Via.refl e1337 f1340 (g := (mkF m 54 #[.val (.ref a), .val (.double xv), .second] [(.ref a)])) rfl rfl (Jvm.hb hby d3_54)
  have pre1341 := fun (τ : State) kt => pre1338 τ (by
    refine XS.icmpNo X1337.here hx rfl (Jvm.hb hby d3_50) rfl (tlt (by decide)).2.2.2 ?_
    refine XS.aloadN X1337.here hx rfl (Jvm.hb hby d3_53) rfl rfl ?_
    exact st1339 τ kt)
  obtain ⟨T1342, X1342, e1342, st1342⟩ := getF X1339 hx hZ hown (host := "") (Or.inl (own_W17 hw)) Via.refl e1339 fw1327 (g := (mkF m 58 #[.val (.ref a), .val (.double xv), .second] [(.ref a), (.ref B)])) rfl rfl (Jvm.hb hby d3_58)
  have pre1343 := fun (τ : State) kt => pre1341 τ (by
    refine XS.aloadN X1339.here hx rfl (Jvm.hb hby d3_57) rfl rfl ?_
    exact st1342 τ kt)
  have f1344 := f1323.other W1327 (Ne.symm naB)
  obtain ⟨cl1345, Ar1345, q1345, S1345, M1345, H1345, U1345⟩ := id f1344
  have in1345 : ¬ ((0 : Int32) < 0 ∨ cl1345.slots.size ≤ ((0 : Int32)).toNatClampNeg) := inb_of S1345 ⟨by decide, by decide⟩
  have f1346 := (FS.other W1311 (Or.inr (slot_ne (Or.inr (own_W11 hw)) (Or.inl (own_W18 hw)) (by decide) (t := (.array .int)) (t' := .int) (by decide) (by decide))))
  have f1347 := (f1346.other W1327 (Or.inr (slot_ne (Or.inr (own_W11 hw)) (Or.inl (own_W18 hw)) (by decide) (t := (.array .int)) (t' := .int) (by decide) (by decide))))
  have f1348 := VS.other W1311 (Ne.symm naA)
  have f1349 := f1348.other W1327 (Ne.symm naA)
  have pre1350 := fun (τ : State) kt => pre1343 τ (by
    refine XS.iconst X1342.here hx rfl (Jvm.hb hby d3_61) ?_
    refine XS.isub X1342.here hx rfl (Jvm.hb hby d3_62) rfl ?_
    refine X1342.daload hx ((congrArg (fun (HH : Heap) => HH[B]?) (e1342 : T1342.heap = h1327)).trans Ar1345.1) (State.isArrayOf_alike hZ.alike Ar1345.2.1) Ar1345.2.2 in1345 (H1345.at in1345 rfl) (g := (mkF m 63 #[.val (.ref a), .val (.double xv), .second] [(.int (0 : Int32)), (.ref B)])) rfl rfl (Jvm.hb hby d3_63) _ ?_
    refine own_dloadN X1342.here hx rfl (Jvm.hb hby d3_64) rfl ?_
    refine own_dcmp X1342.here hx rfl (Jvm.hb hby d3_65) rfl ?_
    refine XS.ifYes X1342.here hx rfl (pc0 := 66) (pc' := 81) rfl (Jvm.hb hby d3_66) rfl ((if0 _ _).trans (flt pc3).2.2.2) (by decide) (by decide) ?_
    exact kt)
  obtain ⟨fs, hrL, hrun, hended, hW, hsame⟩ := X1342.leave (v := none) (fun _ => rfl)
  refine ⟨_, _, cast (congrFun hPS _) (pre1350 _ ?_), hrun, hended, _, _, rfl, ?_, ⟨_, rfl⟩, hW, hsame.mono (by decide) (by decide)⟩
  · show Steps p.tables e below (T1342.setTop (mkF m 81 #[.val (.ref a), .val (.double xv), .second] [])) _
    exact X1342.returnOut hx Bd.returns (Jvm.hb hby d3_81) hrL
  · show QC Z a A B kA kB (0 : Int32) (1 : Int32) [(.int s0), (.int s1), (.int s2)] [(.double v0), (.double v1), (.double v2)] h0 n0 _ T1342.heap _
    rw [e1342]
    exact ⟨rfl, N1327, K1327, f1347, f1340, f1333, fw1327, f1349, f1344⟩
set_option maxRecDepth 65536 in
set_option maxHeartbeats 40000000 in
theorem rmAdd_13_cx (l : Launch) (Z : State) (a0 : Array Value) (hw : ∀ d ∈ tables_1, d.before a0 Z = true) (ws : List Jvm.Cond) (a : Addr) (xs : Int32) (xv : UInt64) (A B : Addr) (kA kB : ClassId) (s0 s1 s2 : Int32) (v0 v1 v2 : UInt64) (h0 : Heap) (n0 : Nat) (Z0 : n0 ≤ h0.size) (E7 : Exa Z h0 a own_CM) (FS : Fld Z h0 a own_CM "samples" "[I" (.ref A)) (FV : Fld Z h0 a own_CM "values" "[D" (.ref B)) (FH : Fld Z h0 a own_CM "head" "I" (.int (1 : Int32))) (FT : Fld Z h0 a own_CM "tail" "I" (.int (3 : Int32))) (VS : Arv Z h0 A kA .int (3 : Int32) [(.int s0), (.int s1), (.int s2)] (.int (0 : Int32))) (VV : Arv Z h0 B kB .double (3 : Int32) [(.double v0), (.double v1), (.double v2)] (.double (0 : UInt64))) (naA : a ≠ A) (naB : a ≠ B) (nAB : A ≠ B) (ga : n0 ≤ a) (gA : n0 ≤ A) (gB : n0 ≤ B) (pc0 : ¬ ((0 : Int32) < cmpValue (FP.dcmp v1 xv) .g)) (pc1 : (0 : Int32) < cmpValue (FP.dcmp v2 xv) .g) :
    MetFree l (⟨"com/example/counterpath/counterpath/core/CappedMaximum", "addFirst", "(ID)V"⟩ : MethodName) (head1 (Jvm.Cond.code (⟨"com/example/counterpath/counterpath/core/CappedMaximum", "addFirst", "(ID)V"⟩ : MethodName) prog_3_method_2_code 4 none :: ws) ({ frames := 0, cells := 0, slots := 0, locals := 0 } : Room)) (fun α U => α = #[(.ref a), (.int xs), (.double xv)] ∧ Z.Warmed39 U.vm ∧ U.heap = h0) (fun _ _ _ _ _ => True) (fun _ U ω U' => ∃ ν Λ, ω = .returned ν ∧ QC Z a A B kA kB (1 : Int32) (3 : Int32) [(.int s0), (.int xs), (.int s2)] [(.double v0), (.double xv), (.double v2)] h0 n0 ν U'.heap Λ ∧ FrameEnd U ω U' Λ ({ frames := 0, cells := 0, slots := 0, locals := 0 } : Room).cells ({ frames := 0, cells := 0, slots := 0, locals := 0 } : Room).slots) := by
  refine MetFree.of_bodySF (plainFor_of_name own_pn_com_example_counterpath_counterpath_core_CappedMaximum) hisR ?_
  intro p e s m args below meth c s₁ Bd hml0 hP hK
  obtain ⟨rfl, hZ, hh⟩ := hP
  have hx := Bd.exec
  have hby := Bd.bytes
  have hml : c.maxLocals = 4 := hml0
  have hown : s.vm.findClass "com/example/counterpath/counterpath/core/CappedMaximum" = some m.cls := findClass_of_methodNamed Bd.named
  have hnm := (name_of_methodNamed Bd.named Bd.method).1
  have X0 : Stand p l e ({ frames := 0, cells := 0, slots := 0, locals := 0 } : Room) s m #[(.ref a), (.int xs), (.double xv)] below meth c s₁ [] 0 0 := Stand.of_body Bd
  have e0 : s₁.heap = h0 := by rw [← hh, Bd.state]; rfl
  have N0 := Fr.nil n0
  have KK0 : Keep h0 h0 [a, A, B] := Keep.refl h0 [a, A, B]
  obtain ⟨PS, hPS⟩ : ∃ P : State → Prop, P = fun τ => Steps p.tables e below (s₁.setTop (entryFrame m #[(.ref a), (.int xs), (.double xv)] 4)) τ := ⟨_, rfl⟩
  have pre0 : ∀ τ, Steps p.tables e below (s₁.setTop (mkF m 0 #[.val (.ref a), .val (.int xs), .val (.double xv), .second] [])) τ → PS τ := by rw [hPS]; exact fun τ κ => castTop (own_ef8 m a xs xv) κ
  obtain ⟨T1381, X1381, e1381, st1381⟩ := getF X0 hx hZ hown (host := "") (Or.inl (own_W15 hw)) Via.refl e0 FH (g := (mkF m 1 #[.val (.ref a), .val (.int xs), .val (.double xv), .second] [(.ref a)])) rfl rfl (Jvm.hb hby d8_1)
  have pre1382 := fun (τ : State) kt => pre0 τ (by
    refine XS.aloadN X0.here hx rfl (Jvm.hb hby d8_0) rfl rfl ?_
    exact st1381 τ kt)
  obtain ⟨T1383, X1383, e1383, st1383⟩ := getF X1381 hx hZ hown (host := "") (Or.inl (own_W17 hw)) Via.refl e1381 FT (g := (mkF m 5 #[.val (.ref a), .val (.int xs), .val (.double xv), .second] [(.ref a), (.int (1 : Int32))])) rfl rfl (Jvm.hb hby d8_5)
  have pre1384 := fun (τ : State) kt => pre1382 τ (by
    refine XS.aloadN X1381.here hx rfl (Jvm.hb hby d8_4) rfl rfl ?_
    exact st1383 τ kt)
  obtain ⟨T1385, X1385, e1385, st1385⟩ := getF X1383 hx hZ hown (host := "") (Or.inl (own_W13 hw)) Via.refl e1383 FV (g := (mkF m 12 #[.val (.ref a), .val (.int xs), .val (.double xv), .second] [(.ref a)])) rfl rfl (Jvm.hb hby d8_12)
  have pre1386 := fun (τ : State) kt => pre1384 τ (by
    refine XS.icmpNo X1383.here hx rfl (Jvm.hb hby d8_8) rfl (tlt (by decide)).2.1 ?_
    refine XS.aloadN X1383.here hx rfl (Jvm.hb hby d8_11) rfl rfl ?_
    exact st1385 τ kt)
  obtain ⟨T1387, X1387, e1387, st1387⟩ := getF X1385 hx hZ hown (host := "") (Or.inl (own_W15 hw)) Via.refl e1385 FH (g := (mkF m 16 #[.val (.ref a), .val (.int xs), .val (.double xv), .second] [(.ref a), (.ref B)])) rfl rfl (Jvm.hb hby d8_16)
  have pre1388 := fun (τ : State) kt => pre1386 τ (by
    refine XS.aloadN X1385.here hx rfl (Jvm.hb hby d8_15) rfl rfl ?_
    exact st1387 τ kt)
  obtain ⟨cl1389, Ar1389, q1389, S1389, M1389, H1389, U1389⟩ := id VV
  have in1389 : ¬ ((1 : Int32) < 0 ∨ cl1389.slots.size ≤ ((1 : Int32)).toNatClampNeg) := inb_of S1389 ⟨by decide, by decide⟩
  obtain ⟨T1390, X1390, e1390, st1390⟩ := getF X1387 hx hZ hown (host := "") (Or.inl (own_W15 hw)) Via.refl e1387 FH (g := (mkF m 27 #[.val (.ref a), .val (.int xs), .val (.double xv), .second] [(.ref a), (.ref a)])) rfl rfl (Jvm.hb hby d8_27)
  have pre1391 := fun (τ : State) kt => pre1388 τ (by
    refine X1387.daload hx ((congrArg (fun (HH : Heap) => HH[B]?) (e1387 : T1387.heap = h0)).trans Ar1389.1) (State.isArrayOf_alike hZ.alike Ar1389.2.1) Ar1389.2.2 in1389 (H1389.at in1389 rfl) (g := (mkF m 19 #[.val (.ref a), .val (.int xs), .val (.double xv), .second] [(.int (1 : Int32)), (.ref B)])) rfl rfl (Jvm.hb hby d8_19) _ ?_
    refine own_dloadN X1387.here hx rfl (Jvm.hb hby d8_20) rfl ?_
    refine own_dcmp X1387.here hx rfl (Jvm.hb hby d8_21) rfl ?_
    refine XS.ifNo X1387.here hx rfl (Jvm.hb hby d8_22) rfl ((if0 _ _).trans (flt pc0).2.2.1) ?_
    refine XS.aloadN X1387.here hx rfl (Jvm.hb hby d8_25) rfl rfl ?_
    refine XS.dup X1387.here hx rfl (Jvm.hb hby d8_26) rfl rfl ?_
    exact st1390 τ kt)
  obtain ⟨T1392, h1392, X1392, e1392, W1392, st1392⟩ := putF X1390 hx hZ hown (host := "") (Or.inl (own_W15 hw)) Via.refl e1390 FH E7 (Or.inl (own_W16 hw)) (own_W1 hw) (ty := .int) (by decide) rfl rfl (g := (mkF m 32 #[.val (.ref a), .val (.int xs), .val (.double xv), .second] [(.int (2 : Int32)), (.ref a)])) rfl rfl (Jvm.hb hby d8_32)
  have fw1392 := Fld.same W1392 FH
  have N1392 := Fr.snoc X1392 N0 ga
  have K1392 : Keep h0 h1392 [a, A, B] := KK0.wr W1392 (Or.inl (by simp))
  have pre1393 := fun (τ : State) kt => pre1391 τ (by
    refine XS.iconst X1390.here hx rfl (Jvm.hb hby d8_30) ?_
    refine XS.iadd X1390.here hx rfl (Jvm.hb hby d8_31) rfl ?_
    exact st1392 τ kt)
  obtain ⟨T1394, X1394, e1394, st1394⟩ := getF X1392 hx hZ hown (host := "") (Or.inl (own_W15 hw)) Via.refl e1392 fw1392 (g := (mkF m 1 #[.val (.ref a), .val (.int xs), .val (.double xv), .second] [(.ref a)])) rfl rfl (Jvm.hb hby d8_1)
  have pre1395 := fun (τ : State) kt => pre1393 τ (by
    refine XS.goto X1392.here hx rfl (pc0 := 35) (pc' := 0) rfl (Jvm.hb hby d8_35) (by decide) (by decide) ?_
    refine XS.aloadN X1392.here hx rfl (Jvm.hb hby d8_0) rfl rfl ?_
    exact st1394 τ kt)
  have f1397 := (FT.other W1392 (Or.inr (slot_ne (Or.inl (own_W18 hw)) (Or.inl (own_W16 hw)) (by decide) (t := .int) (t' := .int) (by decide) (by decide))))
  obtain ⟨T1396, X1396, e1396, st1396⟩ := getF X1394 hx hZ hown (host := "") (Or.inl (own_W17 hw)) Via.refl e1394 f1397 (g := (mkF m 5 #[.val (.ref a), .val (.int xs), .val (.double xv), .second] [(.ref a), (.int (2 : Int32))])) rfl rfl (Jvm.hb hby d8_5)
  have pre1398 := fun (τ : State) kt => pre1395 τ (by
    refine XS.aloadN X1394.here hx rfl (Jvm.hb hby d8_4) rfl rfl ?_
    exact st1396 τ kt)
  have f1400 := (FV.other W1392 (Or.inr (slot_ne (Or.inr (own_W14 hw)) (Or.inl (own_W16 hw)) (by decide) (t := (.array .double)) (t' := .int) (by decide) (by decide))))
  obtain ⟨T1399, X1399, e1399, st1399⟩ := getF X1396 hx hZ hown (host := "") (Or.inl (own_W13 hw)) Via.refl e1396 f1400 (g := (mkF m 12 #[.val (.ref a), .val (.int xs), .val (.double xv), .second] [(.ref a)])) rfl rfl (Jvm.hb hby d8_12)
  have pre1401 := fun (τ : State) kt => pre1398 τ (by
    refine XS.icmpNo X1396.here hx rfl (Jvm.hb hby d8_8) rfl (tlt (by decide)).2.1 ?_
    refine XS.aloadN X1396.here hx rfl (Jvm.hb hby d8_11) rfl rfl ?_
    exact st1399 τ kt)
  obtain ⟨T1402, X1402, e1402, st1402⟩ := getF X1399 hx hZ hown (host := "") (Or.inl (own_W15 hw)) Via.refl e1399 fw1392 (g := (mkF m 16 #[.val (.ref a), .val (.int xs), .val (.double xv), .second] [(.ref a), (.ref B)])) rfl rfl (Jvm.hb hby d8_16)
  have pre1403 := fun (τ : State) kt => pre1401 τ (by
    refine XS.aloadN X1399.here hx rfl (Jvm.hb hby d8_15) rfl rfl ?_
    exact st1402 τ kt)
  have f1404 := VV.other W1392 (Ne.symm naB)
  obtain ⟨cl1405, Ar1405, q1405, S1405, M1405, H1405, U1405⟩ := id f1404
  have in1405 : ¬ ((2 : Int32) < 0 ∨ cl1405.slots.size ≤ ((2 : Int32)).toNatClampNeg) := inb_of S1405 ⟨by decide, by decide⟩
  obtain ⟨T1406, X1406, e1406, st1406⟩ := getF X1402 hx hZ hown (host := "") (Or.inl (own_W15 hw)) Via.refl e1402 fw1392 (g := (mkF m 40 #[.val (.ref a), .val (.int xs), .val (.double xv), .second] [(.ref a), (.ref a)])) rfl rfl (Jvm.hb hby d8_40)
  have pre1407 := fun (τ : State) kt => pre1403 τ (by
    refine X1402.daload hx ((congrArg (fun (HH : Heap) => HH[B]?) (e1402 : T1402.heap = h1392)).trans Ar1405.1) (State.isArrayOf_alike hZ.alike Ar1405.2.1) Ar1405.2.2 in1405 (H1405.at in1405 rfl) (g := (mkF m 19 #[.val (.ref a), .val (.int xs), .val (.double xv), .second] [(.int (2 : Int32)), (.ref B)])) rfl rfl (Jvm.hb hby d8_19) _ ?_
    refine own_dloadN X1402.here hx rfl (Jvm.hb hby d8_20) rfl ?_
    refine own_dcmp X1402.here hx rfl (Jvm.hb hby d8_21) rfl ?_
    refine XS.ifYes X1402.here hx rfl (pc0 := 22) (pc' := 38) rfl (Jvm.hb hby d8_22) rfl ((if0 _ _).trans (tlt pc1).2.2.1) (by decide) (by decide) ?_
    refine XS.aloadN X1402.here hx rfl (Jvm.hb hby d8_38) rfl rfl ?_
    refine XS.dup X1402.here hx rfl (Jvm.hb hby d8_39) rfl rfl ?_
    exact st1406 τ kt)
  have f1409 := E7.wr W1392
  obtain ⟨T1408, h1408, X1408, e1408, W1408, st1408⟩ := putF X1406 hx hZ hown (host := "") (Or.inl (own_W15 hw)) Via.refl e1406 fw1392 f1409 (Or.inl (own_W16 hw)) (own_W1 hw) (ty := .int) (by decide) rfl rfl (g := (mkF m 45 #[.val (.ref a), .val (.int xs), .val (.double xv), .second] [(.int (1 : Int32)), (.ref a)])) rfl rfl (Jvm.hb hby d8_45)
  have fw1408 := Fld.same W1408 fw1392
  have N1408 := Fr.snoc X1408 N1392 ga
  have K1408 : Keep h0 h1408 [a, A, B] := K1392.wr W1408 (Or.inl (by simp))
  have pre1410 := fun (τ : State) kt => pre1407 τ (by
    refine XS.iconst X1406.here hx rfl (Jvm.hb hby d8_43) ?_
    refine XS.isub X1406.here hx rfl (Jvm.hb hby d8_44) rfl ?_
    exact st1408 τ kt)
  have f1412 := (FS.other W1392 (Or.inr (slot_ne (Or.inr (own_W11 hw)) (Or.inl (own_W16 hw)) (by decide) (t := (.array .int)) (t' := .int) (by decide) (by decide))))
  have f1413 := (f1412.other W1408 (Or.inr (slot_ne (Or.inr (own_W11 hw)) (Or.inl (own_W16 hw)) (by decide) (t := (.array .int)) (t' := .int) (by decide) (by decide))))
  obtain ⟨T1411, X1411, e1411, st1411⟩ := getF X1408 hx hZ hown (host := "") (Or.inl (own_W10 hw)) Via.refl e1408 f1413 (g := (mkF m 49 #[.val (.ref a), .val (.int xs), .val (.double xv), .second] [(.ref a)])) rfl rfl (Jvm.hb hby d8_49)
  have pre1414 := fun (τ : State) kt => pre1410 τ (by
    refine XS.aloadN X1408.here hx rfl (Jvm.hb hby d8_48) rfl rfl ?_
    exact st1411 τ kt)
  obtain ⟨T1415, X1415, e1415, st1415⟩ := getF X1411 hx hZ hown (host := "") (Or.inl (own_W15 hw)) Via.refl e1411 fw1408 (g := (mkF m 53 #[.val (.ref a), .val (.int xs), .val (.double xv), .second] [(.ref a), (.ref A)])) rfl rfl (Jvm.hb hby d8_53)
  have pre1416 := fun (τ : State) kt => pre1414 τ (by
    refine XS.aloadN X1411.here hx rfl (Jvm.hb hby d8_52) rfl rfl ?_
    exact st1415 τ kt)
  have f1417 := VS.other W1392 (Ne.symm naA)
  have f1418 := f1417.other W1408 (Ne.symm naA)
  obtain ⟨cl1419, Ar1419, q1419, S1419, M1419, H1419, U1419⟩ := id f1418
  obtain ⟨T1420, h1420, X1420, e1420, W1420, st1420⟩ := stI X1415 hx hZ e1415 Ar1419 (j := (1 : Int32)) (inb_of S1419 ⟨by decide, by decide⟩) (g := (mkF m 57 #[.val (.ref a), .val (.int xs), .val (.double xv), .second] [(.int xs), (.int (1 : Int32)), (.ref A)])) rfl rfl (Jvm.hb hby d8_57)
  have V1420 : Arv Z h1420 A kA .int (3 : Int32) [(.int s0), (.int xs), (.int s2)] (.int (0 : Int32)) := Arv.set Ar1419 q1419 S1419 M1419 H1419 U1419 rfl W1420 1 rfl (Nat.le_of_ble_eq_true rfl)
  have N1420 := Fr.snoc X1420 N1408 gA
  have K1420 : Keep h0 h1420 [a, A, B] := K1408.wr W1420 (Or.inl (by simp))
  have pre1421 := fun (τ : State) kt => pre1416 τ (by
    refine XS.iloadN X1415.here hx rfl (Jvm.hb hby d8_56) rfl ?_
    exact st1420 τ kt)
  have f1423 := (f1400.other W1408 (Or.inr (slot_ne (Or.inr (own_W14 hw)) (Or.inl (own_W16 hw)) (by decide) (t := (.array .double)) (t' := .int) (by decide) (by decide))))
  have f1424 := (f1423.other W1420 (Or.inl naA))
  obtain ⟨T1422, X1422, e1422, st1422⟩ := getF X1420 hx hZ hown (host := "") (Or.inl (own_W13 hw)) Via.refl e1420 f1424 (g := (mkF m 59 #[.val (.ref a), .val (.int xs), .val (.double xv), .second] [(.ref a)])) rfl rfl (Jvm.hb hby d8_59)
  have pre1425 := fun (τ : State) kt => pre1421 τ (by
    refine XS.aloadN X1420.here hx rfl (Jvm.hb hby d8_58) rfl rfl ?_
    exact st1422 τ kt)
  have f1427 := (fw1408.other W1420 (Or.inl naA))
  obtain ⟨T1426, X1426, e1426, st1426⟩ := getF X1422 hx hZ hown (host := "") (Or.inl (own_W15 hw)) Via.refl e1422 f1427 (g := (mkF m 63 #[.val (.ref a), .val (.int xs), .val (.double xv), .second] [(.ref a), (.ref B)])) rfl rfl (Jvm.hb hby d8_63)
  have pre1428 := fun (τ : State) kt => pre1425 τ (by
    refine XS.aloadN X1422.here hx rfl (Jvm.hb hby d8_62) rfl rfl ?_
    exact st1426 τ kt)
  have f1429 := f1404.other W1408 (Ne.symm naB)
  have f1430 := f1429.other W1420 (Ne.symm nAB)
  obtain ⟨cl1431, Ar1431, q1431, S1431, M1431, H1431, U1431⟩ := id f1430
  obtain ⟨T1432, h1432, X1432, e1432, W1432, st1432⟩ := own_stD X1426 hx hZ e1426 Ar1431 (j := (1 : Int32)) (inb_of S1431 ⟨by decide, by decide⟩) (g := (mkF m 67 #[.val (.ref a), .val (.int xs), .val (.double xv), .second] [(.double xv), (.int (1 : Int32)), (.ref B)])) rfl rfl (Jvm.hb hby d8_67)
  have V1432 : Arv Z h1432 B kB .double (3 : Int32) [(.double v0), (.double xv), (.double v2)] (.double (0 : UInt64)) := Arv.set Ar1431 q1431 S1431 M1431 H1431 U1431 rfl W1432 1 rfl (Nat.le_of_ble_eq_true rfl)
  have N1432 := Fr.snoc X1432 N1420 gB
  have K1432 : Keep h0 h1432 [a, A, B] := K1420.wr W1432 (Or.inl (by simp))
  have pre1433 := fun (τ : State) kt => pre1428 τ (by
    refine own_dloadN X1426.here hx rfl (Jvm.hb hby d8_66) rfl ?_
    exact st1432 τ kt)
  have f1434 := (f1413.other W1420 (Or.inl naA))
  have f1435 := (f1434.other W1432 (Or.inl naB))
  have f1436 := (f1424.other W1432 (Or.inl naB))
  have f1437 := (f1427.other W1432 (Or.inl naB))
  have f1438 := (f1397.other W1408 (Or.inr (slot_ne (Or.inl (own_W18 hw)) (Or.inl (own_W16 hw)) (by decide) (t := .int) (t' := .int) (by decide) (by decide))))
  have f1439 := (f1438.other W1420 (Or.inl naA))
  have f1440 := (f1439.other W1432 (Or.inl naB))
  have f1441 := V1420.other W1432 nAB
  obtain ⟨fs, hrL, hrun, hended, hW, hsame⟩ := X1432.leave (v := none) (fun _ => rfl)
  refine ⟨_, _, cast (congrFun hPS _) (pre1433 _ ?_), hrun, hended, _, _, rfl, ?_, ⟨_, rfl⟩, hW, hsame.mono (by decide) (by decide)⟩
  · show Steps p.tables e below (T1432.setTop (mkF m 68 #[.val (.ref a), .val (.int xs), .val (.double xv), .second] [])) _
    exact X1432.returnOut hx Bd.returns (Jvm.hb hby d8_68) hrL
  · show QC Z a A B kA kB (1 : Int32) (3 : Int32) [(.int s0), (.int xs), (.int s2)] [(.double v0), (.double xv), (.double v2)] h0 n0 _ T1432.heap _
    rw [e1432]
    exact ⟨rfl, N1432, K1432, f1435, f1436, f1437, f1440, f1441, V1432⟩
set_option maxRecDepth 65536 in
set_option maxHeartbeats 40000000 in
theorem rmAdd_13_cce (l : Launch) (Z : State) (a0 : Array Value) (hw : ∀ d ∈ tables_1, d.before a0 Z = true) (ws : List Jvm.Cond) (a : Addr) (xs : Int32) (xv : UInt64) (A B : Addr) (kA kB : ClassId) (s0 s1 s2 : Int32) (v0 v1 v2 : UInt64) (h0 : Heap) (n0 : Nat) (Z0 : n0 ≤ h0.size) (E7 : Exa Z h0 a own_CM) (FS : Fld Z h0 a own_CM "samples" "[I" (.ref A)) (FV : Fld Z h0 a own_CM "values" "[D" (.ref B)) (FH : Fld Z h0 a own_CM "head" "I" (.int (1 : Int32))) (FT : Fld Z h0 a own_CM "tail" "I" (.int (3 : Int32))) (VS : Arv Z h0 A kA .int (3 : Int32) [(.int s0), (.int s1), (.int s2)] (.int (0 : Int32))) (VV : Arv Z h0 B kB .double (3 : Int32) [(.double v0), (.double v1), (.double v2)] (.double (0 : UInt64))) (naA : a ≠ A) (naB : a ≠ B) (nAB : A ≠ B) (ga : n0 ≤ a) (gA : n0 ≤ A) (gB : n0 ≤ B) (pc0 : ¬ ((0 : Int32) < cmpValue (FP.dcmp v1 xv) .g)) (pc1 : ¬ ((0 : Int32) < cmpValue (FP.dcmp v2 xv) .g)) :
    MetFree l (⟨"com/example/counterpath/counterpath/core/CappedMaximum", "addFirst", "(ID)V"⟩ : MethodName) (head1 (Jvm.Cond.code (⟨"com/example/counterpath/counterpath/core/CappedMaximum", "addFirst", "(ID)V"⟩ : MethodName) prog_3_method_2_code 4 none :: ws) ({ frames := 0, cells := 0, slots := 0, locals := 0 } : Room)) (fun α U => α = #[(.ref a), (.int xs), (.double xv)] ∧ Z.Warmed39 U.vm ∧ U.heap = h0) (fun _ _ _ _ _ => True) (fun _ U ω U' => ∃ ν Λ, ω = .returned ν ∧ QC Z a A B kA kB (2 : Int32) (3 : Int32) [(.int s0), (.int s1), (.int xs)] [(.double v0), (.double v1), (.double xv)] h0 n0 ν U'.heap Λ ∧ FrameEnd U ω U' Λ ({ frames := 0, cells := 0, slots := 0, locals := 0 } : Room).cells ({ frames := 0, cells := 0, slots := 0, locals := 0 } : Room).slots) := by
  refine MetFree.of_bodySF (plainFor_of_name own_pn_com_example_counterpath_counterpath_core_CappedMaximum) hisR ?_
  intro p e s m args below meth c s₁ Bd hml0 hP hK
  obtain ⟨rfl, hZ, hh⟩ := hP
  have hx := Bd.exec
  have hby := Bd.bytes
  have hml : c.maxLocals = 4 := hml0
  have hown : s.vm.findClass "com/example/counterpath/counterpath/core/CappedMaximum" = some m.cls := findClass_of_methodNamed Bd.named
  have hnm := (name_of_methodNamed Bd.named Bd.method).1
  have X0 : Stand p l e ({ frames := 0, cells := 0, slots := 0, locals := 0 } : Room) s m #[(.ref a), (.int xs), (.double xv)] below meth c s₁ [] 0 0 := Stand.of_body Bd
  have e0 : s₁.heap = h0 := by rw [← hh, Bd.state]; rfl
  have N0 := Fr.nil n0
  have KK0 : Keep h0 h0 [a, A, B] := Keep.refl h0 [a, A, B]
  obtain ⟨PS, hPS⟩ : ∃ P : State → Prop, P = fun τ => Steps p.tables e below (s₁.setTop (entryFrame m #[(.ref a), (.int xs), (.double xv)] 4)) τ := ⟨_, rfl⟩
  have pre0 : ∀ τ, Steps p.tables e below (s₁.setTop (mkF m 0 #[.val (.ref a), .val (.int xs), .val (.double xv), .second] [])) τ → PS τ := by rw [hPS]; exact fun τ κ => castTop (own_ef8 m a xs xv) κ
  obtain ⟨T1565, X1565, e1565, st1565⟩ := getF X0 hx hZ hown (host := "") (Or.inl (own_W15 hw)) Via.refl e0 FH (g := (mkF m 1 #[.val (.ref a), .val (.int xs), .val (.double xv), .second] [(.ref a)])) rfl rfl (Jvm.hb hby d8_1)
  have pre1566 := fun (τ : State) kt => pre0 τ (by
    refine XS.aloadN X0.here hx rfl (Jvm.hb hby d8_0) rfl rfl ?_
    exact st1565 τ kt)
  obtain ⟨T1567, X1567, e1567, st1567⟩ := getF X1565 hx hZ hown (host := "") (Or.inl (own_W17 hw)) Via.refl e1565 FT (g := (mkF m 5 #[.val (.ref a), .val (.int xs), .val (.double xv), .second] [(.ref a), (.int (1 : Int32))])) rfl rfl (Jvm.hb hby d8_5)
  have pre1568 := fun (τ : State) kt => pre1566 τ (by
    refine XS.aloadN X1565.here hx rfl (Jvm.hb hby d8_4) rfl rfl ?_
    exact st1567 τ kt)
  obtain ⟨T1569, X1569, e1569, st1569⟩ := getF X1567 hx hZ hown (host := "") (Or.inl (own_W13 hw)) Via.refl e1567 FV (g := (mkF m 12 #[.val (.ref a), .val (.int xs), .val (.double xv), .second] [(.ref a)])) rfl rfl (Jvm.hb hby d8_12)
  have pre1570 := fun (τ : State) kt => pre1568 τ (by
    refine XS.icmpNo X1567.here hx rfl (Jvm.hb hby d8_8) rfl (tlt (by decide)).2.1 ?_
    refine XS.aloadN X1567.here hx rfl (Jvm.hb hby d8_11) rfl rfl ?_
    exact st1569 τ kt)
  obtain ⟨T1571, X1571, e1571, st1571⟩ := getF X1569 hx hZ hown (host := "") (Or.inl (own_W15 hw)) Via.refl e1569 FH (g := (mkF m 16 #[.val (.ref a), .val (.int xs), .val (.double xv), .second] [(.ref a), (.ref B)])) rfl rfl (Jvm.hb hby d8_16)
  have pre1572 := fun (τ : State) kt => pre1570 τ (by
    refine XS.aloadN X1569.here hx rfl (Jvm.hb hby d8_15) rfl rfl ?_
    exact st1571 τ kt)
  obtain ⟨cl1573, Ar1573, q1573, S1573, M1573, H1573, U1573⟩ := id VV
  have in1573 : ¬ ((1 : Int32) < 0 ∨ cl1573.slots.size ≤ ((1 : Int32)).toNatClampNeg) := inb_of S1573 ⟨by decide, by decide⟩
  obtain ⟨T1574, X1574, e1574, st1574⟩ := getF X1571 hx hZ hown (host := "") (Or.inl (own_W15 hw)) Via.refl e1571 FH (g := (mkF m 27 #[.val (.ref a), .val (.int xs), .val (.double xv), .second] [(.ref a), (.ref a)])) rfl rfl (Jvm.hb hby d8_27)
  have pre1575 := fun (τ : State) kt => pre1572 τ (by
    refine X1571.daload hx ((congrArg (fun (HH : Heap) => HH[B]?) (e1571 : T1571.heap = h0)).trans Ar1573.1) (State.isArrayOf_alike hZ.alike Ar1573.2.1) Ar1573.2.2 in1573 (H1573.at in1573 rfl) (g := (mkF m 19 #[.val (.ref a), .val (.int xs), .val (.double xv), .second] [(.int (1 : Int32)), (.ref B)])) rfl rfl (Jvm.hb hby d8_19) _ ?_
    refine own_dloadN X1571.here hx rfl (Jvm.hb hby d8_20) rfl ?_
    refine own_dcmp X1571.here hx rfl (Jvm.hb hby d8_21) rfl ?_
    refine XS.ifNo X1571.here hx rfl (Jvm.hb hby d8_22) rfl ((if0 _ _).trans (flt pc0).2.2.1) ?_
    refine XS.aloadN X1571.here hx rfl (Jvm.hb hby d8_25) rfl rfl ?_
    refine XS.dup X1571.here hx rfl (Jvm.hb hby d8_26) rfl rfl ?_
    exact st1574 τ kt)
  obtain ⟨T1576, h1576, X1576, e1576, W1576, st1576⟩ := putF X1574 hx hZ hown (host := "") (Or.inl (own_W15 hw)) Via.refl e1574 FH E7 (Or.inl (own_W16 hw)) (own_W1 hw) (ty := .int) (by decide) rfl rfl (g := (mkF m 32 #[.val (.ref a), .val (.int xs), .val (.double xv), .second] [(.int (2 : Int32)), (.ref a)])) rfl rfl (Jvm.hb hby d8_32)
  have fw1576 := Fld.same W1576 FH
  have N1576 := Fr.snoc X1576 N0 ga
  have K1576 : Keep h0 h1576 [a, A, B] := KK0.wr W1576 (Or.inl (by simp))
  have pre1577 := fun (τ : State) kt => pre1575 τ (by
    refine XS.iconst X1574.here hx rfl (Jvm.hb hby d8_30) ?_
    refine XS.iadd X1574.here hx rfl (Jvm.hb hby d8_31) rfl ?_
    exact st1576 τ kt)
  obtain ⟨T1578, X1578, e1578, st1578⟩ := getF X1576 hx hZ hown (host := "") (Or.inl (own_W15 hw)) Via.refl e1576 fw1576 (g := (mkF m 1 #[.val (.ref a), .val (.int xs), .val (.double xv), .second] [(.ref a)])) rfl rfl (Jvm.hb hby d8_1)
  have pre1579 := fun (τ : State) kt => pre1577 τ (by
    refine XS.goto X1576.here hx rfl (pc0 := 35) (pc' := 0) rfl (Jvm.hb hby d8_35) (by decide) (by decide) ?_
    refine XS.aloadN X1576.here hx rfl (Jvm.hb hby d8_0) rfl rfl ?_
    exact st1578 τ kt)
  have f1581 := (FT.other W1576 (Or.inr (slot_ne (Or.inl (own_W18 hw)) (Or.inl (own_W16 hw)) (by decide) (t := .int) (t' := .int) (by decide) (by decide))))
  obtain ⟨T1580, X1580, e1580, st1580⟩ := getF X1578 hx hZ hown (host := "") (Or.inl (own_W17 hw)) Via.refl e1578 f1581 (g := (mkF m 5 #[.val (.ref a), .val (.int xs), .val (.double xv), .second] [(.ref a), (.int (2 : Int32))])) rfl rfl (Jvm.hb hby d8_5)
  have pre1582 := fun (τ : State) kt => pre1579 τ (by
    refine XS.aloadN X1578.here hx rfl (Jvm.hb hby d8_4) rfl rfl ?_
    exact st1580 τ kt)
  have f1584 := (FV.other W1576 (Or.inr (slot_ne (Or.inr (own_W14 hw)) (Or.inl (own_W16 hw)) (by decide) (t := (.array .double)) (t' := .int) (by decide) (by decide))))
  obtain ⟨T1583, X1583, e1583, st1583⟩ := getF X1580 hx hZ hown (host := "") (Or.inl (own_W13 hw)) Via.refl e1580 f1584 (g := (mkF m 12 #[.val (.ref a), .val (.int xs), .val (.double xv), .second] [(.ref a)])) rfl rfl (Jvm.hb hby d8_12)
  have pre1585 := fun (τ : State) kt => pre1582 τ (by
    refine XS.icmpNo X1580.here hx rfl (Jvm.hb hby d8_8) rfl (tlt (by decide)).2.1 ?_
    refine XS.aloadN X1580.here hx rfl (Jvm.hb hby d8_11) rfl rfl ?_
    exact st1583 τ kt)
  obtain ⟨T1586, X1586, e1586, st1586⟩ := getF X1583 hx hZ hown (host := "") (Or.inl (own_W15 hw)) Via.refl e1583 fw1576 (g := (mkF m 16 #[.val (.ref a), .val (.int xs), .val (.double xv), .second] [(.ref a), (.ref B)])) rfl rfl (Jvm.hb hby d8_16)
  have pre1587 := fun (τ : State) kt => pre1585 τ (by
    refine XS.aloadN X1583.here hx rfl (Jvm.hb hby d8_15) rfl rfl ?_
    exact st1586 τ kt)
  have f1588 := VV.other W1576 (Ne.symm naB)
  obtain ⟨cl1589, Ar1589, q1589, S1589, M1589, H1589, U1589⟩ := id f1588
  have in1589 : ¬ ((2 : Int32) < 0 ∨ cl1589.slots.size ≤ ((2 : Int32)).toNatClampNeg) := inb_of S1589 ⟨by decide, by decide⟩
  obtain ⟨T1590, X1590, e1590, st1590⟩ := getF X1586 hx hZ hown (host := "") (Or.inl (own_W15 hw)) Via.refl e1586 fw1576 (g := (mkF m 27 #[.val (.ref a), .val (.int xs), .val (.double xv), .second] [(.ref a), (.ref a)])) rfl rfl (Jvm.hb hby d8_27)
  have pre1591 := fun (τ : State) kt => pre1587 τ (by
    refine X1586.daload hx ((congrArg (fun (HH : Heap) => HH[B]?) (e1586 : T1586.heap = h1576)).trans Ar1589.1) (State.isArrayOf_alike hZ.alike Ar1589.2.1) Ar1589.2.2 in1589 (H1589.at in1589 rfl) (g := (mkF m 19 #[.val (.ref a), .val (.int xs), .val (.double xv), .second] [(.int (2 : Int32)), (.ref B)])) rfl rfl (Jvm.hb hby d8_19) _ ?_
    refine own_dloadN X1586.here hx rfl (Jvm.hb hby d8_20) rfl ?_
    refine own_dcmp X1586.here hx rfl (Jvm.hb hby d8_21) rfl ?_
    refine XS.ifNo X1586.here hx rfl (Jvm.hb hby d8_22) rfl ((if0 _ _).trans (flt pc1).2.2.1) ?_
    refine XS.aloadN X1586.here hx rfl (Jvm.hb hby d8_25) rfl rfl ?_
    refine XS.dup X1586.here hx rfl (Jvm.hb hby d8_26) rfl rfl ?_
    exact st1590 τ kt)
  have f1593 := E7.wr W1576
  obtain ⟨T1592, h1592, X1592, e1592, W1592, st1592⟩ := putF X1590 hx hZ hown (host := "") (Or.inl (own_W15 hw)) Via.refl e1590 fw1576 f1593 (Or.inl (own_W16 hw)) (own_W1 hw) (ty := .int) (by decide) rfl rfl (g := (mkF m 32 #[.val (.ref a), .val (.int xs), .val (.double xv), .second] [(.int (3 : Int32)), (.ref a)])) rfl rfl (Jvm.hb hby d8_32)
  have fw1592 := Fld.same W1592 fw1576
  have N1592 := Fr.snoc X1592 N1576 ga
  have K1592 : Keep h0 h1592 [a, A, B] := K1576.wr W1592 (Or.inl (by simp))
  have pre1594 := fun (τ : State) kt => pre1591 τ (by
    refine XS.iconst X1590.here hx rfl (Jvm.hb hby d8_30) ?_
    refine XS.iadd X1590.here hx rfl (Jvm.hb hby d8_31) rfl ?_
    exact st1592 τ kt)
  obtain ⟨T1595, X1595, e1595, st1595⟩ := getF X1592 hx hZ hown (host := "") (Or.inl (own_W15 hw)) Via.refl e1592 fw1592 (g := (mkF m 1 #[.val (.ref a), .val (.int xs), .val (.double xv), .second] [(.ref a)])) rfl rfl (Jvm.hb hby d8_1)
  have pre1596 := fun (τ : State) kt => pre1594 τ (by
    refine XS.goto X1592.here hx rfl (pc0 := 35) (pc' := 0) rfl (Jvm.hb hby d8_35) (by decide) (by decide) ?_
    refine XS.aloadN X1592.here hx rfl (Jvm.hb hby d8_0) rfl rfl ?_
    exact st1595 τ kt)
  have f1598 := (f1581.other W1592 (Or.inr (slot_ne (Or.inl (own_W18 hw)) (Or.inl (own_W16 hw)) (by decide) (t := .int) (t' := .int) (by decide) (by decide))))
  obtain ⟨T1597, X1597, e1597, st1597⟩ := getF X1595 hx hZ hown (host := "") (Or.inl (own_W17 hw)) Via.refl e1595 f1598 (g := (mkF m 5 #[.val (.ref a), .val (.int xs), .val (.double xv), .second] [(.ref a), (.int (3 : Int32))])) rfl rfl (Jvm.hb hby d8_5)
  have pre1599 := fun (τ : State) kt => pre1596 τ (by
    refine XS.aloadN X1595.here hx rfl (Jvm.hb hby d8_4) rfl rfl ?_
    exact st1597 τ kt)
  obtain ⟨T1600, X1600, e1600, st1600⟩ := getF X1597 hx hZ hown (host := "") (Or.inl (own_W15 hw)) Via.refl e1597 fw1592 (g := (mkF m 40 #[.val (.ref a), .val (.int xs), .val (.double xv), .second] [(.ref a), (.ref a)])) rfl rfl (Jvm.hb hby d8_40)
  have pre1601 := fun (τ : State) kt => pre1599 τ (by
    refine XS.icmpYes X1597.here hx rfl (pc0 := 8) (pc' := 38) rfl (Jvm.hb hby d8_8) rfl (flt (by decide)).2.1 (by decide) (by decide) ?_
    refine XS.aloadN X1597.here hx rfl (Jvm.hb hby d8_38) rfl rfl ?_
    refine XS.dup X1597.here hx rfl (Jvm.hb hby d8_39) rfl rfl ?_
    exact st1600 τ kt)
  have f1603 := f1593.wr W1592
  obtain ⟨T1602, h1602, X1602, e1602, W1602, st1602⟩ := putF X1600 hx hZ hown (host := "") (Or.inl (own_W15 hw)) Via.refl e1600 fw1592 f1603 (Or.inl (own_W16 hw)) (own_W1 hw) (ty := .int) (by decide) rfl rfl (g := (mkF m 45 #[.val (.ref a), .val (.int xs), .val (.double xv), .second] [(.int (2 : Int32)), (.ref a)])) rfl rfl (Jvm.hb hby d8_45)
  have fw1602 := Fld.same W1602 fw1592
  have N1602 := Fr.snoc X1602 N1592 ga
  have K1602 : Keep h0 h1602 [a, A, B] := K1592.wr W1602 (Or.inl (by simp))
  have pre1604 := fun (τ : State) kt => pre1601 τ (by
    refine XS.iconst X1600.here hx rfl (Jvm.hb hby d8_43) ?_
    refine XS.isub X1600.here hx rfl (Jvm.hb hby d8_44) rfl ?_
    exact st1602 τ kt)
  have f1606 := (FS.other W1576 (Or.inr (slot_ne (Or.inr (own_W11 hw)) (Or.inl (own_W16 hw)) (by decide) (t := (.array .int)) (t' := .int) (by decide) (by decide))))
  have f1607 := (f1606.other W1592 (Or.inr (slot_ne (Or.inr (own_W11 hw)) (Or.inl (own_W16 hw)) (by decide) (t := (.array .int)) (t' := .int) (by decide) (by decide))))
  have f1608 := (f1607.other W1602 (Or.inr (slot_ne (Or.inr (own_W11 hw)) (Or.inl (own_W16 hw)) (by decide) (t := (.array .int)) (t' := .int) (by decide) (by decide))))
  obtain ⟨T1605, X1605, e1605, st1605⟩ := getF X1602 hx hZ hown (host := "") (Or.inl (own_W10 hw)) Via.refl e1602 f1608 (g := (mkF m 49 #[.val (.ref a), .val (.int xs), .val (.double xv), .second] [(.ref a)])) rfl rfl (Jvm.hb hby d8_49)
  have pre1609 := fun (τ : State) kt => pre1604 τ (by
    refine XS.aloadN X1602.here hx rfl (Jvm.hb hby d8_48) rfl rfl ?_
    exact st1605 τ kt)
  obtain ⟨T1610, X1610, e1610, st1610⟩ := getF X1605 hx hZ hown (host := "") (Or.inl (own_W15 hw)) Via.refl e1605 fw1602 (g := (mkF m 53 #[.val (.ref a), .val (.int xs), .val (.double xv), .second] [(.ref a), (.ref A)])) rfl rfl (Jvm.hb hby d8_53)
  have pre1611 := fun (τ : State) kt => pre1609 τ (by
    refine XS.aloadN X1605.here hx rfl (Jvm.hb hby d8_52) rfl rfl ?_
    exact st1610 τ kt)
  have f1612 := VS.other W1576 (Ne.symm naA)
  have f1613 := f1612.other W1592 (Ne.symm naA)
  have f1614 := f1613.other W1602 (Ne.symm naA)
  obtain ⟨cl1615, Ar1615, q1615, S1615, M1615, H1615, U1615⟩ := id f1614
  obtain ⟨T1616, h1616, X1616, e1616, W1616, st1616⟩ := stI X1610 hx hZ e1610 Ar1615 (j := (2 : Int32)) (inb_of S1615 ⟨by decide, by decide⟩) (g := (mkF m 57 #[.val (.ref a), .val (.int xs), .val (.double xv), .second] [(.int xs), (.int (2 : Int32)), (.ref A)])) rfl rfl (Jvm.hb hby d8_57)
  have V1616 : Arv Z h1616 A kA .int (3 : Int32) [(.int s0), (.int s1), (.int xs)] (.int (0 : Int32)) := Arv.set Ar1615 q1615 S1615 M1615 H1615 U1615 rfl W1616 2 rfl (Nat.le_of_ble_eq_true rfl)
  have N1616 := Fr.snoc X1616 N1602 gA
  have K1616 : Keep h0 h1616 [a, A, B] := K1602.wr W1616 (Or.inl (by simp))
  have pre1617 := fun (τ : State) kt => pre1611 τ (by
    refine XS.iloadN X1610.here hx rfl (Jvm.hb hby d8_56) rfl ?_
    exact st1616 τ kt)
  have f1619 := (f1584.other W1592 (Or.inr (slot_ne (Or.inr (own_W14 hw)) (Or.inl (own_W16 hw)) (by decide) (t := (.array .double)) (t' := .int) (by decide) (by decide))))
  have f1620 := (f1619.other W1602 (Or.inr (slot_ne (Or.inr (own_W14 hw)) (Or.inl (own_W16 hw)) (by decide) (t := (.array .double)) (t' := .int) (by decide) (by decide))))
  have f1621 := (f1620.other W1616 (Or.inl naA))
  obtain ⟨T1618, X1618, e1618, st1618⟩ := getF X1616 hx hZ hown (host := "") (Or.inl (own_W13 hw)) Via.refl e1616 f1621 (g := (mkF m 59 #[.val (.ref a), .val (.int xs), .val (.double xv), .second] [(.ref a)])) rfl rfl (Jvm.hb hby d8_59)
  have pre1622 := fun (τ : State) kt => pre1617 τ (by
    refine XS.aloadN X1616.here hx rfl (Jvm.hb hby d8_58) rfl rfl ?_
    exact st1618 τ kt)
  have f1624 := (fw1602.other W1616 (Or.inl naA))
  obtain ⟨T1623, X1623, e1623, st1623⟩ := getF X1618 hx hZ hown (host := "") (Or.inl (own_W15 hw)) Via.refl e1618 f1624 (g := (mkF m 63 #[.val (.ref a), .val (.int xs), .val (.double xv), .second] [(.ref a), (.ref B)])) rfl rfl (Jvm.hb hby d8_63)
  have pre1625 := fun (τ : State) kt => pre1622 τ (by
    refine XS.aloadN X1618.here hx rfl (Jvm.hb hby d8_62) rfl rfl ?_
    exact st1623 τ kt)
  have f1626 := f1588.other W1592 (Ne.symm naB)
  have f1627 := f1626.other W1602 (Ne.symm naB)
  have f1628 := f1627.other W1616 (Ne.symm nAB)
  obtain ⟨cl1629, Ar1629, q1629, S1629, M1629, H1629, U1629⟩ := id f1628
  obtain ⟨T1630, h1630, X1630, e1630, W1630, st1630⟩ := own_stD X1623 hx hZ e1623 Ar1629 (j := (2 : Int32)) (inb_of S1629 ⟨by decide, by decide⟩) (g := (mkF m 67 #[.val (.ref a), .val (.int xs), .val (.double xv), .second] [(.double xv), (.int (2 : Int32)), (.ref B)])) rfl rfl (Jvm.hb hby d8_67)
  have V1630 : Arv Z h1630 B kB .double (3 : Int32) [(.double v0), (.double v1), (.double xv)] (.double (0 : UInt64)) := Arv.set Ar1629 q1629 S1629 M1629 H1629 U1629 rfl W1630 2 rfl (Nat.le_of_ble_eq_true rfl)
  have N1630 := Fr.snoc X1630 N1616 gB
  have K1630 : Keep h0 h1630 [a, A, B] := K1616.wr W1630 (Or.inl (by simp))
  have pre1631 := fun (τ : State) kt => pre1625 τ (by
    refine own_dloadN X1623.here hx rfl (Jvm.hb hby d8_66) rfl ?_
    exact st1630 τ kt)
  have f1632 := (f1608.other W1616 (Or.inl naA))
  have f1633 := (f1632.other W1630 (Or.inl naB))
  have f1634 := (f1621.other W1630 (Or.inl naB))
  have f1635 := (f1624.other W1630 (Or.inl naB))
  have f1636 := (f1598.other W1602 (Or.inr (slot_ne (Or.inl (own_W18 hw)) (Or.inl (own_W16 hw)) (by decide) (t := .int) (t' := .int) (by decide) (by decide))))
  have f1637 := (f1636.other W1616 (Or.inl naA))
  have f1638 := (f1637.other W1630 (Or.inl naB))
  have f1639 := V1616.other W1630 nAB
  obtain ⟨fs, hrL, hrun, hended, hW, hsame⟩ := X1630.leave (v := none) (fun _ => rfl)
  refine ⟨_, _, cast (congrFun hPS _) (pre1631 _ ?_), hrun, hended, _, _, rfl, ?_, ⟨_, rfl⟩, hW, hsame.mono (by decide) (by decide)⟩
  · show Steps p.tables e below (T1630.setTop (mkF m 68 #[.val (.ref a), .val (.int xs), .val (.double xv), .second] [])) _
    exact X1630.returnOut hx Bd.returns (Jvm.hb hby d8_68) hrL
  · show QC Z a A B kA kB (2 : Int32) (3 : Int32) [(.int s0), (.int s1), (.int xs)] [(.double v0), (.double v1), (.double xv)] h0 n0 _ T1630.heap _
    rw [e1630]
    exact ⟨rfl, N1630, K1630, f1633, f1634, f1635, f1638, f1639, V1630⟩
theorem own_ef0 (m : MethodId) (x0 : Int32) (x1 : Int32) (x2 : Int32) (x3 : Int32) (x4 : Int32) : entryFrame m #[(.int x0), (.int x1), (.int x2), (.int x3), (.int x4)] maxLocals = mkF m 0 #[.val (.int x0), .val (.int x1), .val (.int x2), .val (.int x3), .val (.int x4), .unset, .unset, .unset, .unset, .unset, .unset, .unset, .unset, .unset, .unset, .unset, .unset, .unset, .unset, .unset] [] := by first | (simp [entryFrame, mkF, argsToLocals, Value.category, maxLocals]; done) | rfl
def Q0 (n0 : Nat) (v : Option Value) (h : Heap) (L : List Loc) : Prop := v = some (.int 1) ∧ Fr n0 L
set_option maxRecDepth 65536 in
set_option maxHeartbeats 40000000 in
theorem rm0 (l : Launch) (Z : State) (a0 : Array Value) (hw : ∀ d ∈ tables_1, d.before a0 Z = true) (ws : List Jvm.Cond) (p1 : Int32) (p2 : Int32) (p3 : Int32) (p4 : Int32) (p5 : Int32)  (h0 : Heap) (n0 : Nat) (Z0 : n0 ≤ h0.size)  :
    MetFree l x (head1 (Jvm.Cond.code x code maxLocals ret :: ws) room_1) (fun α U => α = #[(.int p1), (.int p2), (.int p3), (.int p4), (.int p5)] ∧ Z.Warmed39 U.vm ∧ U.heap = h0) (fun _ _ _ _ _ => True) (fun _ U ω U' => ∃ ν Λ, ω = .returned ν ∧ Q0 n0 ν U'.heap Λ ∧ FrameEnd U ω U' Λ room_1.cells room_1.slots) := by
  refine MetFree.of_bodySF (plainFor_of_name own_pn_com_example_counterpath_counterpath_core_CappedMaximumCapPinLaw) hisR ?_
  intro p e s m args below meth c s₁ Bd hml0 hP hK
  obtain ⟨rfl, hZ, hh⟩ := hP
  have hx := Bd.exec
  have hby := Bd.bytes
  have hml : c.maxLocals = 20 := hml0
  have hown : s.vm.findClass "com/example/counterpath/counterpath/core/CappedMaximumCapPinLaw" = some m.cls := findClass_of_methodNamed Bd.named
  have hnm := (name_of_methodNamed Bd.named Bd.method).1
  have X0 : Stand p l e room_1 s m #[(.int p1), (.int p2), (.int p3), (.int p4), (.int p5)] below meth c s₁ [] 0 0 := Stand.of_body Bd
  have e0 : s₁.heap = h0 := by rw [← hh, Bd.state]; rfl
  have N0 := Fr.nil n0
  have KK0 : Keep h0 h0 [] := Keep.refl h0 []
  obtain ⟨PS, hPS⟩ : ∃ P : State → Prop, P = fun τ => Steps p.tables e below (s₁.setTop (entryFrame m #[(.int p1), (.int p2), (.int p3), (.int p4), (.int p5)] maxLocals)) τ := ⟨_, rfl⟩
  have pre0 : ∀ τ, Steps p.tables e below (s₁.setTop (mkF m 0 #[.val (.int p1), .val (.int p2), .val (.int p3), .val (.int p4), .val (.int p5), .unset, .unset, .unset, .unset, .unset, .unset, .unset, .unset, .unset, .unset, .unset, .unset, .unset, .unset, .unset] [])) τ → PS τ := by rw [hPS]; exact fun τ κ => castTop (own_ef0 m p1 p2 p3 p4 p5) κ
  have pre58 := fun (τ : State) kt => pre0 τ (by
    refine XS.iloadN X0.here hx rfl (Jvm.hb hby at_0) rfl ?_
    refine XS.iconst X0.here hx rfl (Jvm.hb hby at_1) ?_
    refine XS.iand X0.here hx rfl (Jvm.hb hby at_2) rfl ?_
    refine XS.istore X0.here hx rfl (Jvm.hb hby at_3) rfl (l' := #[.val (.int p1), .val (.int p2), .val (.int p3), .val (.int p4), .val (.int p5), .val (.int (p1 &&& (3 : Int32))), .unset, .unset, .unset, .unset, .unset, .unset, .unset, .unset, .unset, .unset, .unset, .unset, .unset, .unset]) rfl ?_
    refine XS.iload X0.here hx rfl (Jvm.hb hby at_5) rfl ?_
    refine XS.iconst X0.here hx rfl (Jvm.hb hby at_7) ?_
    exact kt)
  obtain ⟨nn, e_nn⟩ : ∃ z : Int32, z = (p1 &&& (3 : Int32)) := ⟨_, rfl⟩
  have pre59 : ∀ τ, Steps p.tables e below (s₁.setTop (mkF m 8 #[.val (.int p1), .val (.int p2), .val (.int p3), .val (.int p4), .val (.int p5), .val (.int nn), .unset, .unset, .unset, .unset, .unset, .unset, .unset, .unset, .unset, .unset, .unset, .unset, .unset, .unset] [(.int (1 : Int32)), (.int nn)])) τ → PS τ := by rw [e_nn]; exact pre58
  by_cases n1 : nn < (1 : Int32)
  · skip
    have pre60 := fun (τ : State) kt => pre59 τ (by
      refine XS.icmpYes X0.here hx rfl (pc0 := 8) (pc' := 15) rfl (Jvm.hb hby at_8) rfl (tlt n1).1 (by decide) (by decide) ?_
      refine XS.iconst X0.here hx rfl (Jvm.hb hby at_15) ?_
      refine XS.istore X0.here hx rfl (Jvm.hb hby at_16) rfl (l' := #[.val (.int p1), .val (.int p2), .val (.int p3), .val (.int p4), .val (.int p5), .val (.int nn), .val (.int (0 : Int32)), .unset, .unset, .unset, .unset, .unset, .unset, .unset, .unset, .unset, .unset, .unset, .unset, .unset]) rfl ?_
      refine XS.iload X0.here hx rfl (Jvm.hb hby at_18) rfl ?_
      refine XS.iconst X0.here hx rfl (Jvm.hb hby at_20) ?_
      refine XS.icmpYes X0.here hx rfl (pc0 := 21) (pc' := 28) rfl (Jvm.hb hby at_21) rfl (tlt (own_lt_up n1 (by decide))).1 (by decide) (by decide) ?_
      refine XS.iconst X0.here hx rfl (Jvm.hb hby at_28) ?_
      refine XS.istore X0.here hx rfl (Jvm.hb hby at_29) rfl (l' := #[.val (.int p1), .val (.int p2), .val (.int p3), .val (.int p4), .val (.int p5), .val (.int nn), .val (.int (0 : Int32)), .val (.int (0 : Int32)), .unset, .unset, .unset, .unset, .unset, .unset, .unset, .unset, .unset, .unset, .unset, .unset]) rfl ?_
      refine XS.iload X0.here hx rfl (Jvm.hb hby at_31) rfl ?_
      refine XS.iconst X0.here hx rfl (Jvm.hb hby at_33) ?_
      refine XS.icmpYes X0.here hx rfl (pc0 := 34) (pc' := 41) rfl (Jvm.hb hby at_34) rfl (tlt (own_lt_up n1 (by decide))).1 (by decide) (by decide) ?_
      refine XS.iconst X0.here hx rfl (Jvm.hb hby at_41) ?_
      refine XS.istore X0.here hx rfl (Jvm.hb hby at_42) rfl (l' := #[.val (.int p1), .val (.int p2), .val (.int p3), .val (.int p4), .val (.int p5), .val (.int nn), .val (.int (0 : Int32)), .val (.int (0 : Int32)), .val (.int (0 : Int32)), .unset, .unset, .unset, .unset, .unset, .unset, .unset, .unset, .unset, .unset, .unset]) rfl ?_
      refine XS.iloadN X0.here hx rfl (Jvm.hb hby at_44) rfl ?_
      refine XS.bipush X0.here hx rfl (Jvm.hb hby at_45) ?_
      refine iremM X0 hx rfl (Jvm.hb hby at_47) rfl (by decide) ?_
      refine XS.istore X0.here hx rfl (Jvm.hb hby at_48) rfl (l' := #[.val (.int p1), .val (.int p2), .val (.int p3), .val (.int p4), .val (.int p5), .val (.int nn), .val (.int (0 : Int32)), .val (.int (0 : Int32)), .val (.int (0 : Int32)), .val (.int (p2 % (9 : Int32))), .unset, .unset, .unset, .unset, .unset, .unset, .unset, .unset, .unset, .unset]) rfl ?_
      refine XS.iloadN X0.here hx rfl (Jvm.hb hby at_50) rfl ?_
      refine XS.bipush X0.here hx rfl (Jvm.hb hby at_51) ?_
      refine iremM X0 hx rfl (Jvm.hb hby at_53) rfl (by decide) ?_
      refine XS.istore X0.here hx rfl (Jvm.hb hby at_54) rfl (l' := #[.val (.int p1), .val (.int p2), .val (.int p3), .val (.int p4), .val (.int p5), .val (.int nn), .val (.int (0 : Int32)), .val (.int (0 : Int32)), .val (.int (0 : Int32)), .val (.int (p2 % (9 : Int32))), .val (.int (p3 % (9 : Int32))), .unset, .unset, .unset, .unset, .unset, .unset, .unset, .unset, .unset]) rfl ?_
      refine XS.iloadN X0.here hx rfl (Jvm.hb hby at_56) rfl ?_
      refine XS.bipush X0.here hx rfl (Jvm.hb hby at_57) ?_
      refine iremM X0 hx rfl (Jvm.hb hby at_59) rfl (by decide) ?_
      refine XS.istore X0.here hx rfl (Jvm.hb hby at_60) rfl (l' := #[.val (.int p1), .val (.int p2), .val (.int p3), .val (.int p4), .val (.int p5), .val (.int nn), .val (.int (0 : Int32)), .val (.int (0 : Int32)), .val (.int (0 : Int32)), .val (.int (p2 % (9 : Int32))), .val (.int (p3 % (9 : Int32))), .val (.int (p4 % (9 : Int32))), .unset, .unset, .unset, .unset, .unset, .unset, .unset, .unset]) rfl ?_
      refine XS.iload X0.here hx rfl (Jvm.hb hby at_62) rfl ?_
      refine XS.bipush X0.here hx rfl (Jvm.hb hby at_64) ?_
      refine iremM X0 hx rfl (Jvm.hb hby at_66) rfl (by decide) ?_
      refine XS.istore X0.here hx rfl (Jvm.hb hby at_67) rfl (l' := #[.val (.int p1), .val (.int p2), .val (.int p3), .val (.int p4), .val (.int p5), .val (.int nn), .val (.int (0 : Int32)), .val (.int (0 : Int32)), .val (.int (0 : Int32)), .val (.int (p2 % (9 : Int32))), .val (.int (p3 % (9 : Int32))), .val (.int (p4 % (9 : Int32))), .val (.int (p5 % (9 : Int32))), .unset, .unset, .unset, .unset, .unset, .unset, .unset]) rfl ?_
      exact kt)
    obtain ⟨j0, e_j0⟩ : ∃ z : Int32, z = (p2 % (9 : Int32)) := ⟨_, rfl⟩
    have pre61 : ∀ τ, Steps p.tables e below (s₁.setTop (mkF m 69 #[.val (.int p1), .val (.int p2), .val (.int p3), .val (.int p4), .val (.int p5), .val (.int nn), .val (.int (0 : Int32)), .val (.int (0 : Int32)), .val (.int (0 : Int32)), .val (.int j0), .val (.int (p3 % (9 : Int32))), .val (.int (p4 % (9 : Int32))), .val (.int (p5 % (9 : Int32))), .unset, .unset, .unset, .unset, .unset, .unset, .unset] [])) τ → PS τ := by rw [e_j0]; exact pre60
    have r_j0 := own_rem9 p2
    rw [← e_j0] at r_j0
    obtain ⟨j1, e_j1⟩ : ∃ z : Int32, z = (p3 % (9 : Int32)) := ⟨_, rfl⟩
    have pre62 : ∀ τ, Steps p.tables e below (s₁.setTop (mkF m 69 #[.val (.int p1), .val (.int p2), .val (.int p3), .val (.int p4), .val (.int p5), .val (.int nn), .val (.int (0 : Int32)), .val (.int (0 : Int32)), .val (.int (0 : Int32)), .val (.int j0), .val (.int j1), .val (.int (p4 % (9 : Int32))), .val (.int (p5 % (9 : Int32))), .unset, .unset, .unset, .unset, .unset, .unset, .unset] [])) τ → PS τ := by rw [e_j1]; exact pre61
    have r_j1 := own_rem9 p3
    rw [← e_j1] at r_j1
    obtain ⟨j2, e_j2⟩ : ∃ z : Int32, z = (p4 % (9 : Int32)) := ⟨_, rfl⟩
    have pre63 : ∀ τ, Steps p.tables e below (s₁.setTop (mkF m 69 #[.val (.int p1), .val (.int p2), .val (.int p3), .val (.int p4), .val (.int p5), .val (.int nn), .val (.int (0 : Int32)), .val (.int (0 : Int32)), .val (.int (0 : Int32)), .val (.int j0), .val (.int j1), .val (.int j2), .val (.int (p5 % (9 : Int32))), .unset, .unset, .unset, .unset, .unset, .unset, .unset] [])) τ → PS τ := by rw [e_j2]; exact pre62
    have r_j2 := own_rem9 p4
    rw [← e_j2] at r_j2
    obtain ⟨jb, e_jb⟩ : ∃ z : Int32, z = (p5 % (9 : Int32)) := ⟨_, rfl⟩
    have pre64 : ∀ τ, Steps p.tables e below (s₁.setTop (mkF m 69 #[.val (.int p1), .val (.int p2), .val (.int p3), .val (.int p4), .val (.int p5), .val (.int nn), .val (.int (0 : Int32)), .val (.int (0 : Int32)), .val (.int (0 : Int32)), .val (.int j0), .val (.int j1), .val (.int j2), .val (.int jb), .unset, .unset, .unset, .unset, .unset, .unset, .unset] [])) τ → PS τ := by rw [e_jb]; exact pre63
    have r_jb := own_rem9 p5
    rw [← e_jb] at r_jb
    obtain ⟨T65, h65, X65, e65, E65, A65, D65, -, st65⟩ := newO X0 hx hZ hown (own_W0 hw) (own_W1 hw) (own_W2 hw) e0 (g := (mkF m 69 #[.val (.int p1), .val (.int p2), .val (.int p3), .val (.int p4), .val (.int p5), .val (.int nn), .val (.int (0 : Int32)), .val (.int (0 : Int32)), .val (.int (0 : Int32)), .val (.int j0), .val (.int j1), .val (.int j2), .val (.int jb), .unset, .unset, .unset, .unset, .unset, .unset, .unset] [])) rfl (Jvm.hb hby at_69) (by decide) (by decide)
    obtain ⟨q, g65⟩ : ∃ z, z = h0.size := ⟨_, rfl⟩
    rw [← g65] at A65 D65 st65
    have g_q : n0 ≤ q := Nat.le_trans (Nat.le_trans Z0 KK0.1) (Nat.le_of_eq g65.symm)
    have sz_q : h0.size ≤ q := Nat.le_trans KK0.1 (Nat.le_of_eq g65.symm)
    have K65 : Keep h0 h65 [] := KK0.ext E65
    have F_samples_q : Fld Z h65 q "com/example/counterpath/counterpath/core/CappedMaximum" "samples" "[I" .null := D65 (Or.inr (own_W11 hw)) (ty := (.array .int)) (by decide)
    have F_values_q : Fld Z h65 q "com/example/counterpath/counterpath/core/CappedMaximum" "values" "[D" .null := D65 (Or.inr (own_W14 hw)) (ty := (.array .double)) (by decide)
    have F_head_q : Fld Z h65 q "com/example/counterpath/counterpath/core/CappedMaximum" "head" "I" (.int (0 : Int32)) := D65 (Or.inl (own_W16 hw)) (ty := .int) (by decide)
    have F_tail_q : Fld Z h65 q "com/example/counterpath/counterpath/core/CappedMaximum" "tail" "I" (.int (0 : Int32)) := D65 (Or.inl (own_W18 hw)) (ty := .int) (by decide)
    have pre66 := fun (τ : State) kt => pre64 τ (st65 τ kt)
    obtain ⟨_, T67, L67, X67, ⟨rfl, Nq67, Kq67, A, B, kA, kB, gA, gB, zA, zB, naA, naB, nAB, f1_67, f2_67, f3_67, f4_67, f5_67, f6_67⟩, st67⟩ := own_spec (y := own_mn1) (b := q) X65 hx hZ rfl hown (own_W3 hw) (own_W4 hw) (by decide) (rmI l Z a0 hw [] q (3 : Int32) h65 n0 (Nat.le_trans Z0 K65.1) rfl A65 F_samples_q F_values_q F_head_q F_tail_q g_q) (own_W5 hw) (own_W2 hw) 1 (by decide) (by decide) e65 (mkF m 74 #[.val (.int p1), .val (.int p2), .val (.int p3), .val (.int p4), .val (.int p5), .val (.int nn), .val (.int (0 : Int32)), .val (.int (0 : Int32)), .val (.int (0 : Int32)), .val (.int j0), .val (.int j1), .val (.int j2), .val (.int jb), .unset, .unset, .unset, .unset, .unset, .unset, .unset] [(.int (3 : Int32)), (.ref q), (.ref q)]) rfl (by rw [hml]; rfl) [(.int (3 : Int32))] [(.ref q)] rfl (lenOf own_pd__I_V rfl) rfl (Nat.le_refl _) (Jvm.hb hby at_74) (by decide) (by decide)
    have N67 := Fr.app N0 Nq67
    have K67 : Keep h0 T67.heap [] := K65.trans Kq67 (allS (Or.inr sz_q) (all0))
    have pre68 := fun (τ : State) kt => pre66 τ (by
      refine XS.dup X65.here hx rfl (Jvm.hb hby at_72) rfl rfl ?_
      refine XS.iconst X65.here hx rfl (Jvm.hb hby at_73) ?_
      exact st67 τ kt)
    have sz_A : h0.size ≤ A := Nat.le_trans K65.1 zA
    have sz_B : h0.size ≤ B := Nat.le_trans K65.1 zB
    have pre69 := fun (τ : State) kt => pre68 τ (by
      refine XS.astore X67.here hx rfl (Jvm.hb hby at_77) rfl rfl (l' := #[.val (.int p1), .val (.int p2), .val (.int p3), .val (.int p4), .val (.int p5), .val (.int nn), .val (.int (0 : Int32)), .val (.int (0 : Int32)), .val (.int (0 : Int32)), .val (.int j0), .val (.int j1), .val (.int j2), .val (.int jb), .val (.ref q), .unset, .unset, .unset, .unset, .unset, .unset]) rfl ?_
      refine XS.iload X67.here hx rfl (Jvm.hb hby at_79) rfl ?_
      exact kt)
    have pre70 := fun (τ : State) kt => pre69 τ (by
      refine XS.ifYes X67.here hx rfl (pc0 := 81) (pc' := 93) rfl (Jvm.hb hby at_81) rfl ((if0 _ _).trans (teq (by decide)).1) (by decide) (by decide) ?_
      refine XS.iload X67.here hx rfl (Jvm.hb hby at_93) rfl ?_
      refine XS.ifYes X67.here hx rfl (pc0 := 95) (pc' := 107) rfl (Jvm.hb hby at_95) rfl ((if0 _ _).trans (teq (by decide)).1) (by decide) (by decide) ?_
      refine XS.iload X67.here hx rfl (Jvm.hb hby at_107) rfl ?_
      refine XS.ifYes X67.here hx rfl (pc0 := 109) (pc' := 121) rfl (Jvm.hb hby at_109) rfl ((if0 _ _).trans (teq (by decide)).1) (by decide) (by decide) ?_
      refine XS.aload X67.here hx rfl (Jvm.hb hby at_121) rfl rfl ?_
      refine XS.iload X67.here hx rfl (Jvm.hb hby at_123) rfl ?_
      refine own_i2d X67.here hx rfl (Jvm.hb hby at_125) rfl ?_
      exact kt)
    have f80 := A65.keep Kq67
    obtain ⟨_, T81, L81, X81, ⟨rfl, Nq81, Kq81, f1_81, f2_81, f3_81, f4_81, f5_81, f6_81⟩, st81⟩ := own_virt (y := own_mn2) (b := q) X67 hx hZ hown (own_W19 hw) (own_W20 hw) (own_W22 hw) (own_W21 hw) (by decide) (rmCap_33_oe l Z a0 hw [] q (FP.i2d jb) A B kA kB (0 : Int32) (0 : Int32) (0 : Int32) (0 : UInt64) (0 : UInt64) (0 : UInt64) T67.heap n0 (Nat.le_trans Z0 K67.1) f80 f1_67 f2_67 f3_67 f4_67 f5_67 f6_67 naA naB nAB g_q gA gB ) (own_W23 hw) (own_W2 hw) 0 (by decide) (by decide) f80 rfl (mkF m 126 (own_LA0 p1 p2 p3 p4 p5 nn j0 j1 j2 jb q .unset .unset .unset .unset .unset .unset) [(.double (FP.i2d jb)), (.ref q)]) rfl (by rw [hml]; rfl) [(.double (FP.i2d jb))] [] rfl (lenOf own_pd__D_V rfl) rfl (Nat.le_refl _) (Jvm.hb hby at_126) (by decide) (by decide)
    have N81 := Fr.app N67 Nq81
    have K81 : Keep h0 T81.heap [] := K67.trans Kq81 (allS (Or.inr sz_q) (allS (Or.inr sz_A) (allS (Or.inr sz_B) (all0))))
    have pre82 := fun (τ : State) kt => pre70 τ (st81 τ kt)
    have f88 := f80.keep Kq81
    obtain ⟨_, T89, L89, X89, ⟨rfl, Nq89, eq89⟩, st89⟩ := own_virt (y := own_mn3) (b := q) X81 hx hZ hown (own_W24 hw) (own_W25 hw) (own_W27 hw) (own_W26 hw) (by decide) (rmMax_33 l Z a0 hw [] q A B kA kB (0 : Int32) (0 : Int32) (0 : Int32) (0 : UInt64) (0 : UInt64) (0 : UInt64) T81.heap n0 (Nat.le_trans Z0 K81.1) f88 f1_81 f2_81 f3_81 f4_81 f5_81 f6_81 naA naB nAB g_q gA gB) (own_W28 hw) (own_W2 hw) 0 (by decide) (by decide) f88 rfl (mkF m 173 (own_LA0 p1 p2 p3 p4 p5 nn j0 j1 j2 jb q (.val (.int (-100 : Int32))) (.val (.int (-100 : Int32))) (.val (.int (-100 : Int32))) .unset .unset .unset) [(.ref q)]) rfl (by rw [hml]; rfl) [] [] rfl (lenOf own_pd___D rfl) rfl (Nat.le_refl _) (Jvm.hb hby at_173) (by decide) (by decide)
    have N89 := Fr.app N81 Nq89
    have pre90 := fun (τ : State) kt => pre82 τ (by
      refine XS.iload X81.here hx rfl (Jvm.hb hby at_129) rfl ?_
      refine XS.ifYes X81.here hx rfl (pc0 := 131) (pc' := 139) rfl (Jvm.hb hby at_131) rfl ((if0 _ _).trans (teq (by decide)).1) (by decide) (by decide) ?_
      refine XS.bipush X81.here hx rfl (Jvm.hb hby at_139) ?_
      refine XS.istore X81.here hx rfl (Jvm.hb hby at_141) rfl (l' := (own_LA0 p1 p2 p3 p4 p5 nn j0 j1 j2 jb q (.val (.int (-100 : Int32))) .unset .unset .unset .unset .unset)) rfl ?_
      refine XS.iload X81.here hx rfl (Jvm.hb hby at_143) rfl ?_
      refine XS.ifYes X81.here hx rfl (pc0 := 145) (pc' := 153) rfl (Jvm.hb hby at_145) rfl ((if0 _ _).trans (teq (by decide)).1) (by decide) (by decide) ?_
      refine XS.bipush X81.here hx rfl (Jvm.hb hby at_153) ?_
      refine XS.istore X81.here hx rfl (Jvm.hb hby at_155) rfl (l' := (own_LA0 p1 p2 p3 p4 p5 nn j0 j1 j2 jb q (.val (.int (-100 : Int32))) (.val (.int (-100 : Int32))) .unset .unset .unset .unset)) rfl ?_
      refine XS.iload X81.here hx rfl (Jvm.hb hby at_157) rfl ?_
      refine XS.ifYes X81.here hx rfl (pc0 := 159) (pc' := 167) rfl (Jvm.hb hby at_159) rfl ((if0 _ _).trans (teq (by decide)).1) (by decide) (by decide) ?_
      refine XS.bipush X81.here hx rfl (Jvm.hb hby at_167) ?_
      refine XS.istore X81.here hx rfl (Jvm.hb hby at_169) rfl (l' := (own_LA0 p1 p2 p3 p4 p5 nn j0 j1 j2 jb q (.val (.int (-100 : Int32))) (.val (.int (-100 : Int32))) (.val (.int (-100 : Int32))) .unset .unset .unset)) rfl ?_
      refine XS.aload X81.here hx rfl (Jvm.hb hby at_171) rfl rfl ?_
      exact st89 τ kt)
    obtain ⟨_, T91, L91, X91, ⟨rfl, Nq91, eq91⟩, st91⟩ := own_stat (y := own_mn4) X89 hx hZ hown (own_W30 hw) (own_W31 hw) (by decide) (rm_max l Z a0 hw [] (-100 : Int32) (-100 : Int32) T81.heap n0 (Nat.le_trans Z0 K81.1)) (own_W33 hw) (own_W32 hw) 3 (by decide) (by decide) eq89 (mkF m 182 (own_LA0 p1 p2 p3 p4 p5 nn j0 j1 j2 jb q (.val (.int (-100 : Int32))) (.val (.int (-100 : Int32))) (.val (.int (-100 : Int32))) .unset .unset .unset) [(.int (-100 : Int32)), (.int (-100 : Int32)), (.int (-100 : Int32)), (.double (18442240474082181120 : UInt64))]) rfl (by rw [hml]; rfl) [(.int (-100 : Int32)), (.int (-100 : Int32))] [(.int (-100 : Int32)), (.double (18442240474082181120 : UInt64))] rfl (lenOf own_pd__II_I rfl) rfl (Nat.le_refl _) (Jvm.hb hby at_182) (by decide) (by decide)
    have N91 := Fr.app N89 Nq91
    have pre92 := fun (τ : State) kt => pre90 τ (by
      refine XS.iload X89.here hx rfl (Jvm.hb hby at_176) rfl ?_
      refine XS.iload X89.here hx rfl (Jvm.hb hby at_178) rfl ?_
      refine XS.iload X89.here hx rfl (Jvm.hb hby at_180) rfl ?_
      exact st91 τ kt)
    obtain ⟨_, T93, L93, X93, ⟨rfl, Nq93, eq93⟩, st93⟩ := own_stat (y := own_mn4) X91 hx hZ hown (own_W30 hw) (own_W31 hw) (by decide) (rm_max l Z a0 hw [] (-100 : Int32) (own_max (-100 : Int32) (-100 : Int32)) T81.heap n0 (Nat.le_trans Z0 K81.1)) (own_W33 hw) (own_W32 hw) 2 (by decide) (by decide) eq91 (mkF m 185 (own_LA0 p1 p2 p3 p4 p5 nn j0 j1 j2 jb q (.val (.int (-100 : Int32))) (.val (.int (-100 : Int32))) (.val (.int (-100 : Int32))) .unset .unset .unset) [(.int (own_max (-100 : Int32) (-100 : Int32))), (.int (-100 : Int32)), (.double (18442240474082181120 : UInt64))]) rfl (by rw [hml]; rfl) [(.int (-100 : Int32)), (.int (own_max (-100 : Int32) (-100 : Int32)))] [(.double (18442240474082181120 : UInt64))] rfl (lenOf own_pd__II_I rfl) rfl (Nat.le_refl _) (Jvm.hb hby at_185) (by decide) (by decide)
    have N93 := Fr.app N91 Nq93
    have pre94 := fun (τ : State) kt => pre92 τ (st93 τ kt)
    obtain ⟨_, T95, L95, X95, ⟨rfl, Nq95, eq95⟩, st95⟩ := own_stat (y := own_mn5) X93 hx hZ hown (own_W34 hw) (own_W35 hw) (by decide) (rmE1 l Z a0 hw [] (18442240474082181120 : UInt64) (own_max (-100 : Int32) (own_max (-100 : Int32) (-100 : Int32))) jb T81.heap n0 (Nat.le_trans Z0 K81.1) (by decide) rfl) (own_W37 hw) (own_W36 hw) 0 (by decide) (by decide) eq93 (mkF m 190 (own_LA0 p1 p2 p3 p4 p5 nn j0 j1 j2 jb q (.val (.int (-100 : Int32))) (.val (.int (-100 : Int32))) (.val (.int (-100 : Int32))) .unset .unset .unset) [(.int jb), (.int (own_max (-100 : Int32) (own_max (-100 : Int32) (-100 : Int32)))), (.double (18442240474082181120 : UInt64))]) rfl (by rw [hml]; rfl) [(.double (18442240474082181120 : UInt64)), (.int (own_max (-100 : Int32) (own_max (-100 : Int32) (-100 : Int32)))), (.int jb)] [] rfl (lenOf own_pd__DII_Z rfl) rfl (Nat.le_refl _) (Jvm.hb hby at_190) (by decide) (by decide)
    have N95 := Fr.app N93 Nq95
    have pre96 := fun (τ : State) kt => pre94 τ (by
      refine XS.iload X93.here hx rfl (Jvm.hb hby at_188) rfl ?_
      exact st95 τ kt)
    obtain ⟨_, T102, L102, X102, ⟨rfl, Nq102, Kq102, f1_102, f2_102, f3_102, f4_102, f5_102, f6_102⟩, st102⟩ := own_virt (y := own_mn6) (b := q) X95 hx hZ hown (own_W39 hw) (own_W40 hw) (own_W42 hw) (own_W41 hw) (by decide) (rmRem_33_e l Z a0 hw [] q (1 : Int32) A B kA kB (0 : Int32) (0 : Int32) (0 : Int32) (0 : UInt64) (0 : UInt64) (0 : UInt64) T81.heap n0 (Nat.le_trans Z0 K81.1) f88 f1_81 f2_81 f3_81 f4_81 f5_81 f6_81 naA naB nAB g_q gA gB ) (own_W43 hw) (own_W2 hw) 0 (by decide) (by decide) f88 eq95 (mkF m 198 (own_LA0 p1 p2 p3 p4 p5 nn j0 j1 j2 jb q (.val (.int (-100 : Int32))) (.val (.int (-100 : Int32))) (.val (.int (-100 : Int32))) (.val (.int (1 : Int32))) .unset .unset) [(.int (1 : Int32)), (.ref q)]) rfl (by rw [hml]; rfl) [(.int (1 : Int32))] [] rfl (lenOf own_pd__I_V rfl) rfl (Nat.le_refl _) (Jvm.hb hby at_198) (by decide) (by decide)
    have N102 := Fr.app N95 Nq102
    have K102 : Keep h0 T102.heap [] := K81.trans Kq102 (allS (Or.inr sz_q) (allS (Or.inr sz_A) (allS (Or.inr sz_B) (all0))))
    have pre103 := fun (τ : State) kt => pre96 τ (by
      refine XS.istore X95.here hx rfl (Jvm.hb hby at_193) rfl (l' := (own_LA0 p1 p2 p3 p4 p5 nn j0 j1 j2 jb q (.val (.int (-100 : Int32))) (.val (.int (-100 : Int32))) (.val (.int (-100 : Int32))) (.val (.int (1 : Int32))) .unset .unset)) rfl ?_
      refine XS.aload X95.here hx rfl (Jvm.hb hby at_195) rfl rfl ?_
      refine XS.iconst X95.here hx rfl (Jvm.hb hby at_197) ?_
      exact st102 τ kt)
    have f104 := f88.keep Kq102
    obtain ⟨_, T105, L105, X105, ⟨rfl, Nq105, eq105⟩, st105⟩ := own_virt (y := own_mn3) (b := q) X102 hx hZ hown (own_W24 hw) (own_W25 hw) (own_W27 hw) (own_W26 hw) (by decide) (rmMax_33 l Z a0 hw [] q A B kA kB (0 : Int32) (0 : Int32) (0 : Int32) (0 : UInt64) (0 : UInt64) (0 : UInt64) T102.heap n0 (Nat.le_trans Z0 K102.1) f104 f1_102 f2_102 f3_102 f4_102 f5_102 f6_102 naA naB nAB g_q gA gB) (own_W28 hw) (own_W2 hw) 0 (by decide) (by decide) f104 rfl (mkF m 203 (own_LA0 p1 p2 p3 p4 p5 nn j0 j1 j2 jb q (.val (.int (-100 : Int32))) (.val (.int (-100 : Int32))) (.val (.int (-100 : Int32))) (.val (.int (1 : Int32))) .unset .unset) [(.ref q)]) rfl (by rw [hml]; rfl) [] [] rfl (lenOf own_pd___D rfl) rfl (Nat.le_refl _) (Jvm.hb hby at_203) (by decide) (by decide)
    have N105 := Fr.app N102 Nq105
    have pre106 := fun (τ : State) kt => pre103 τ (by
      refine XS.aload X102.here hx rfl (Jvm.hb hby at_201) rfl rfl ?_
      exact st105 τ kt)
    obtain ⟨_, T107, L107, X107, ⟨rfl, Nq107, eq107⟩, st107⟩ := own_stat (y := own_mn4) X105 hx hZ hown (own_W30 hw) (own_W31 hw) (by decide) (rm_max l Z a0 hw [] (-100 : Int32) (-100 : Int32) T102.heap n0 (Nat.le_trans Z0 K102.1)) (own_W33 hw) (own_W32 hw) 2 (by decide) (by decide) eq105 (mkF m 210 (own_LA0 p1 p2 p3 p4 p5 nn j0 j1 j2 jb q (.val (.int (-100 : Int32))) (.val (.int (-100 : Int32))) (.val (.int (-100 : Int32))) (.val (.int (1 : Int32))) .unset .unset) [(.int (-100 : Int32)), (.int (-100 : Int32)), (.double (18442240474082181120 : UInt64))]) rfl (by rw [hml]; rfl) [(.int (-100 : Int32)), (.int (-100 : Int32))] [(.double (18442240474082181120 : UInt64))] rfl (lenOf own_pd__II_I rfl) rfl (Nat.le_refl _) (Jvm.hb hby at_210) (by decide) (by decide)
    have N107 := Fr.app N105 Nq107
    have pre108 := fun (τ : State) kt => pre106 τ (by
      refine XS.iload X105.here hx rfl (Jvm.hb hby at_206) rfl ?_
      refine XS.iload X105.here hx rfl (Jvm.hb hby at_208) rfl ?_
      exact st107 τ kt)
    obtain ⟨_, T109, L109, X109, ⟨rfl, Nq109, eq109⟩, st109⟩ := own_stat (y := own_mn5) X107 hx hZ hown (own_W34 hw) (own_W35 hw) (by decide) (rmE1 l Z a0 hw [] (18442240474082181120 : UInt64) (own_max (-100 : Int32) (-100 : Int32)) jb T102.heap n0 (Nat.le_trans Z0 K102.1) (by decide) rfl) (own_W37 hw) (own_W36 hw) 0 (by decide) (by decide) eq107 (mkF m 215 (own_LA0 p1 p2 p3 p4 p5 nn j0 j1 j2 jb q (.val (.int (-100 : Int32))) (.val (.int (-100 : Int32))) (.val (.int (-100 : Int32))) (.val (.int (1 : Int32))) .unset .unset) [(.int jb), (.int (own_max (-100 : Int32) (-100 : Int32))), (.double (18442240474082181120 : UInt64))]) rfl (by rw [hml]; rfl) [(.double (18442240474082181120 : UInt64)), (.int (own_max (-100 : Int32) (-100 : Int32))), (.int jb)] [] rfl (lenOf own_pd__DII_Z rfl) rfl (Nat.le_refl _) (Jvm.hb hby at_215) (by decide) (by decide)
    have N109 := Fr.app N107 Nq109
    have pre110 := fun (τ : State) kt => pre108 τ (by
      refine XS.iload X107.here hx rfl (Jvm.hb hby at_213) rfl ?_
      exact st109 τ kt)
    obtain ⟨_, T111, L111, X111, ⟨rfl, Nq111, Kq111, f1_111, f2_111, f3_111, f4_111, f5_111, f6_111⟩, st111⟩ := own_virt (y := own_mn6) (b := q) X109 hx hZ hown (own_W39 hw) (own_W40 hw) (own_W42 hw) (own_W41 hw) (by decide) (rmRem_33_e l Z a0 hw [] q (0 : Int32) A B kA kB (0 : Int32) (0 : Int32) (0 : Int32) (0 : UInt64) (0 : UInt64) (0 : UInt64) T102.heap n0 (Nat.le_trans Z0 K102.1) f104 f1_102 f2_102 f3_102 f4_102 f5_102 f6_102 naA naB nAB g_q gA gB ) (own_W43 hw) (own_W2 hw) 0 (by decide) (by decide) f104 eq109 (mkF m 223 (own_LA0 p1 p2 p3 p4 p5 nn j0 j1 j2 jb q (.val (.int (-100 : Int32))) (.val (.int (-100 : Int32))) (.val (.int (-100 : Int32))) (.val (.int (1 : Int32))) (.val (.int (1 : Int32))) .unset) [(.int (0 : Int32)), (.ref q)]) rfl (by rw [hml]; rfl) [(.int (0 : Int32))] [] rfl (lenOf own_pd__I_V rfl) rfl (Nat.le_refl _) (Jvm.hb hby at_223) (by decide) (by decide)
    have N111 := Fr.app N109 Nq111
    have K111 : Keep h0 T111.heap [] := K102.trans Kq111 (allS (Or.inr sz_q) (allS (Or.inr sz_A) (allS (Or.inr sz_B) (all0))))
    have pre112 := fun (τ : State) kt => pre110 τ (by
      refine XS.istore X109.here hx rfl (Jvm.hb hby at_218) rfl (l' := (own_LA0 p1 p2 p3 p4 p5 nn j0 j1 j2 jb q (.val (.int (-100 : Int32))) (.val (.int (-100 : Int32))) (.val (.int (-100 : Int32))) (.val (.int (1 : Int32))) (.val (.int (1 : Int32))) .unset)) rfl ?_
      refine XS.aload X109.here hx rfl (Jvm.hb hby at_220) rfl rfl ?_
      refine XS.iconst X109.here hx rfl (Jvm.hb hby at_222) ?_
      exact st111 τ kt)
    have f113 := f104.keep Kq111
    obtain ⟨_, T114, L114, X114, ⟨rfl, Nq114, eq114⟩, st114⟩ := own_virt (y := own_mn3) (b := q) X111 hx hZ hown (own_W24 hw) (own_W25 hw) (own_W27 hw) (own_W26 hw) (by decide) (rmMax_33 l Z a0 hw [] q A B kA kB (0 : Int32) (0 : Int32) (0 : Int32) (0 : UInt64) (0 : UInt64) (0 : UInt64) T111.heap n0 (Nat.le_trans Z0 K111.1) f113 f1_111 f2_111 f3_111 f4_111 f5_111 f6_111 naA naB nAB g_q gA gB) (own_W28 hw) (own_W2 hw) 0 (by decide) (by decide) f113 rfl (mkF m 228 (own_LA0 p1 p2 p3 p4 p5 nn j0 j1 j2 jb q (.val (.int (-100 : Int32))) (.val (.int (-100 : Int32))) (.val (.int (-100 : Int32))) (.val (.int (1 : Int32))) (.val (.int (1 : Int32))) .unset) [(.ref q)]) rfl (by rw [hml]; rfl) [] [] rfl (lenOf own_pd___D rfl) rfl (Nat.le_refl _) (Jvm.hb hby at_228) (by decide) (by decide)
    have N114 := Fr.app N111 Nq114
    have pre115 := fun (τ : State) kt => pre112 τ (by
      refine XS.aload X111.here hx rfl (Jvm.hb hby at_226) rfl rfl ?_
      exact st114 τ kt)
    obtain ⟨_, T116, L116, X116, ⟨rfl, Nq116, eq116⟩, st116⟩ := own_stat (y := own_mn5) X114 hx hZ hown (own_W34 hw) (own_W35 hw) (by decide) (rmE1 l Z a0 hw [] (18442240474082181120 : UInt64) (-100 : Int32) jb T111.heap n0 (Nat.le_trans Z0 K111.1) (by decide) rfl) (own_W37 hw) (own_W36 hw) 0 (by decide) (by decide) eq114 (mkF m 235 (own_LA0 p1 p2 p3 p4 p5 nn j0 j1 j2 jb q (.val (.int (-100 : Int32))) (.val (.int (-100 : Int32))) (.val (.int (-100 : Int32))) (.val (.int (1 : Int32))) (.val (.int (1 : Int32))) .unset) [(.int jb), (.int (-100 : Int32)), (.double (18442240474082181120 : UInt64))]) rfl (by rw [hml]; rfl) [(.double (18442240474082181120 : UInt64)), (.int (-100 : Int32)), (.int jb)] [] rfl (lenOf own_pd__DII_Z rfl) rfl (Nat.le_refl _) (Jvm.hb hby at_235) (by decide) (by decide)
    have N116 := Fr.app N114 Nq116
    have pre117 := fun (τ : State) kt => pre115 τ (by
      refine XS.iload X114.here hx rfl (Jvm.hb hby at_231) rfl ?_
      refine XS.iload X114.here hx rfl (Jvm.hb hby at_233) rfl ?_
      exact st116 τ kt)
    have pre118 := fun (τ : State) kt => pre117 τ (by
      refine XS.istore X116.here hx rfl (Jvm.hb hby at_238) rfl (l' := (own_LA0 p1 p2 p3 p4 p5 nn j0 j1 j2 jb q (.val (.int (-100 : Int32))) (.val (.int (-100 : Int32))) (.val (.int (-100 : Int32))) (.val (.int (1 : Int32))) (.val (.int (1 : Int32))) (.val (.int (1 : Int32))))) rfl ?_
      refine XS.iload X116.here hx rfl (Jvm.hb hby at_240) rfl ?_
      refine XS.ifNo X116.here hx rfl (Jvm.hb hby at_242) rfl ((if0 _ _).trans (feq (by decide)).1) ?_
      refine XS.iload X116.here hx rfl (Jvm.hb hby at_245) rfl ?_
      refine XS.ifNo X116.here hx rfl (Jvm.hb hby at_247) rfl ((if0 _ _).trans (feq (by decide)).1) ?_
      refine XS.iload X116.here hx rfl (Jvm.hb hby at_250) rfl ?_
      refine XS.ifNo X116.here hx rfl (Jvm.hb hby at_252) rfl ((if0 _ _).trans (feq (by decide)).1) ?_
      refine XS.iconst X116.here hx rfl (Jvm.hb hby at_255) ?_
      refine XS.goto X116.here hx rfl (pc0 := 256) (pc' := 260) rfl (Jvm.hb hby at_256) (by decide) (by decide) ?_
      exact kt)
    obtain ⟨fs, hrL, hrun, hended, hW, hsame⟩ := X116.leave (v := some (.int (1 : Int32))) (fun h => by rw [Bd.returns] at h; cases h)
    refine ⟨_, _, cast (congrFun hPS _) (pre118 _ ?_), hrun, hended, _, _, rfl, ?_, ⟨_, rfl⟩, hW, hsame.mono (by decide) (by decide)⟩
    · show Steps p.tables e below (T116.setTop (mkF m 260 (own_LA0 p1 p2 p3 p4 p5 nn j0 j1 j2 jb q (.val (.int (-100 : Int32))) (.val (.int (-100 : Int32))) (.val (.int (-100 : Int32))) (.val (.int (1 : Int32))) (.val (.int (1 : Int32))) (.val (.int (1 : Int32)))) [(.int (1 : Int32))])) _
      exact retN X116 hx (t := .boolean) Bd.returns (by simp) (Jvm.hb hby at_260) hrL
    · show Q0 n0 _ T116.heap _
      exact ⟨rfl, N116⟩
  by_cases n2 : nn < (2 : Int32)
  · skip
    have pre119 := fun (τ : State) kt => pre59 τ (by
      refine XS.icmpNo X0.here hx rfl (Jvm.hb hby at_8) rfl (flt n1).1 ?_
      refine XS.iconst X0.here hx rfl (Jvm.hb hby at_11) ?_
      refine XS.goto X0.here hx rfl (pc0 := 12) (pc' := 16) rfl (Jvm.hb hby at_12) (by decide) (by decide) ?_
      refine XS.istore X0.here hx rfl (Jvm.hb hby at_16) rfl (l' := #[.val (.int p1), .val (.int p2), .val (.int p3), .val (.int p4), .val (.int p5), .val (.int nn), .val (.int (1 : Int32)), .unset, .unset, .unset, .unset, .unset, .unset, .unset, .unset, .unset, .unset, .unset, .unset, .unset]) rfl ?_
      refine XS.iload X0.here hx rfl (Jvm.hb hby at_18) rfl ?_
      refine XS.iconst X0.here hx rfl (Jvm.hb hby at_20) ?_
      refine XS.icmpYes X0.here hx rfl (pc0 := 21) (pc' := 28) rfl (Jvm.hb hby at_21) rfl (tlt n2).1 (by decide) (by decide) ?_
      refine XS.iconst X0.here hx rfl (Jvm.hb hby at_28) ?_
      refine XS.istore X0.here hx rfl (Jvm.hb hby at_29) rfl (l' := #[.val (.int p1), .val (.int p2), .val (.int p3), .val (.int p4), .val (.int p5), .val (.int nn), .val (.int (1 : Int32)), .val (.int (0 : Int32)), .unset, .unset, .unset, .unset, .unset, .unset, .unset, .unset, .unset, .unset, .unset, .unset]) rfl ?_
      refine XS.iload X0.here hx rfl (Jvm.hb hby at_31) rfl ?_
      refine XS.iconst X0.here hx rfl (Jvm.hb hby at_33) ?_
      refine XS.icmpYes X0.here hx rfl (pc0 := 34) (pc' := 41) rfl (Jvm.hb hby at_34) rfl (tlt (own_lt_up n2 (by decide))).1 (by decide) (by decide) ?_
      refine XS.iconst X0.here hx rfl (Jvm.hb hby at_41) ?_
      refine XS.istore X0.here hx rfl (Jvm.hb hby at_42) rfl (l' := #[.val (.int p1), .val (.int p2), .val (.int p3), .val (.int p4), .val (.int p5), .val (.int nn), .val (.int (1 : Int32)), .val (.int (0 : Int32)), .val (.int (0 : Int32)), .unset, .unset, .unset, .unset, .unset, .unset, .unset, .unset, .unset, .unset, .unset]) rfl ?_
      refine XS.iloadN X0.here hx rfl (Jvm.hb hby at_44) rfl ?_
      refine XS.bipush X0.here hx rfl (Jvm.hb hby at_45) ?_
      refine iremM X0 hx rfl (Jvm.hb hby at_47) rfl (by decide) ?_
      refine XS.istore X0.here hx rfl (Jvm.hb hby at_48) rfl (l' := #[.val (.int p1), .val (.int p2), .val (.int p3), .val (.int p4), .val (.int p5), .val (.int nn), .val (.int (1 : Int32)), .val (.int (0 : Int32)), .val (.int (0 : Int32)), .val (.int (p2 % (9 : Int32))), .unset, .unset, .unset, .unset, .unset, .unset, .unset, .unset, .unset, .unset]) rfl ?_
      refine XS.iloadN X0.here hx rfl (Jvm.hb hby at_50) rfl ?_
      refine XS.bipush X0.here hx rfl (Jvm.hb hby at_51) ?_
      refine iremM X0 hx rfl (Jvm.hb hby at_53) rfl (by decide) ?_
      refine XS.istore X0.here hx rfl (Jvm.hb hby at_54) rfl (l' := #[.val (.int p1), .val (.int p2), .val (.int p3), .val (.int p4), .val (.int p5), .val (.int nn), .val (.int (1 : Int32)), .val (.int (0 : Int32)), .val (.int (0 : Int32)), .val (.int (p2 % (9 : Int32))), .val (.int (p3 % (9 : Int32))), .unset, .unset, .unset, .unset, .unset, .unset, .unset, .unset, .unset]) rfl ?_
      refine XS.iloadN X0.here hx rfl (Jvm.hb hby at_56) rfl ?_
      refine XS.bipush X0.here hx rfl (Jvm.hb hby at_57) ?_
      refine iremM X0 hx rfl (Jvm.hb hby at_59) rfl (by decide) ?_
      refine XS.istore X0.here hx rfl (Jvm.hb hby at_60) rfl (l' := #[.val (.int p1), .val (.int p2), .val (.int p3), .val (.int p4), .val (.int p5), .val (.int nn), .val (.int (1 : Int32)), .val (.int (0 : Int32)), .val (.int (0 : Int32)), .val (.int (p2 % (9 : Int32))), .val (.int (p3 % (9 : Int32))), .val (.int (p4 % (9 : Int32))), .unset, .unset, .unset, .unset, .unset, .unset, .unset, .unset]) rfl ?_
      refine XS.iload X0.here hx rfl (Jvm.hb hby at_62) rfl ?_
      refine XS.bipush X0.here hx rfl (Jvm.hb hby at_64) ?_
      refine iremM X0 hx rfl (Jvm.hb hby at_66) rfl (by decide) ?_
      refine XS.istore X0.here hx rfl (Jvm.hb hby at_67) rfl (l' := #[.val (.int p1), .val (.int p2), .val (.int p3), .val (.int p4), .val (.int p5), .val (.int nn), .val (.int (1 : Int32)), .val (.int (0 : Int32)), .val (.int (0 : Int32)), .val (.int (p2 % (9 : Int32))), .val (.int (p3 % (9 : Int32))), .val (.int (p4 % (9 : Int32))), .val (.int (p5 % (9 : Int32))), .unset, .unset, .unset, .unset, .unset, .unset, .unset]) rfl ?_
      exact kt)
    obtain ⟨j0, e_j0⟩ : ∃ z : Int32, z = (p2 % (9 : Int32)) := ⟨_, rfl⟩
    have pre120 : ∀ τ, Steps p.tables e below (s₁.setTop (mkF m 69 #[.val (.int p1), .val (.int p2), .val (.int p3), .val (.int p4), .val (.int p5), .val (.int nn), .val (.int (1 : Int32)), .val (.int (0 : Int32)), .val (.int (0 : Int32)), .val (.int j0), .val (.int (p3 % (9 : Int32))), .val (.int (p4 % (9 : Int32))), .val (.int (p5 % (9 : Int32))), .unset, .unset, .unset, .unset, .unset, .unset, .unset] [])) τ → PS τ := by rw [e_j0]; exact pre119
    have r_j0 := own_rem9 p2
    rw [← e_j0] at r_j0
    obtain ⟨j1, e_j1⟩ : ∃ z : Int32, z = (p3 % (9 : Int32)) := ⟨_, rfl⟩
    have pre121 : ∀ τ, Steps p.tables e below (s₁.setTop (mkF m 69 #[.val (.int p1), .val (.int p2), .val (.int p3), .val (.int p4), .val (.int p5), .val (.int nn), .val (.int (1 : Int32)), .val (.int (0 : Int32)), .val (.int (0 : Int32)), .val (.int j0), .val (.int j1), .val (.int (p4 % (9 : Int32))), .val (.int (p5 % (9 : Int32))), .unset, .unset, .unset, .unset, .unset, .unset, .unset] [])) τ → PS τ := by rw [e_j1]; exact pre120
    have r_j1 := own_rem9 p3
    rw [← e_j1] at r_j1
    obtain ⟨j2, e_j2⟩ : ∃ z : Int32, z = (p4 % (9 : Int32)) := ⟨_, rfl⟩
    have pre122 : ∀ τ, Steps p.tables e below (s₁.setTop (mkF m 69 #[.val (.int p1), .val (.int p2), .val (.int p3), .val (.int p4), .val (.int p5), .val (.int nn), .val (.int (1 : Int32)), .val (.int (0 : Int32)), .val (.int (0 : Int32)), .val (.int j0), .val (.int j1), .val (.int j2), .val (.int (p5 % (9 : Int32))), .unset, .unset, .unset, .unset, .unset, .unset, .unset] [])) τ → PS τ := by rw [e_j2]; exact pre121
    have r_j2 := own_rem9 p4
    rw [← e_j2] at r_j2
    obtain ⟨jb, e_jb⟩ : ∃ z : Int32, z = (p5 % (9 : Int32)) := ⟨_, rfl⟩
    have pre123 : ∀ τ, Steps p.tables e below (s₁.setTop (mkF m 69 #[.val (.int p1), .val (.int p2), .val (.int p3), .val (.int p4), .val (.int p5), .val (.int nn), .val (.int (1 : Int32)), .val (.int (0 : Int32)), .val (.int (0 : Int32)), .val (.int j0), .val (.int j1), .val (.int j2), .val (.int jb), .unset, .unset, .unset, .unset, .unset, .unset, .unset] [])) τ → PS τ := by rw [e_jb]; exact pre122
    have r_jb := own_rem9 p5
    rw [← e_jb] at r_jb
    obtain ⟨T124, h124, X124, e124, E124, A124, D124, -, st124⟩ := newO X0 hx hZ hown (own_W0 hw) (own_W1 hw) (own_W2 hw) e0 (g := (mkF m 69 #[.val (.int p1), .val (.int p2), .val (.int p3), .val (.int p4), .val (.int p5), .val (.int nn), .val (.int (1 : Int32)), .val (.int (0 : Int32)), .val (.int (0 : Int32)), .val (.int j0), .val (.int j1), .val (.int j2), .val (.int jb), .unset, .unset, .unset, .unset, .unset, .unset, .unset] [])) rfl (Jvm.hb hby at_69) (by decide) (by decide)
    obtain ⟨q, g124⟩ : ∃ z, z = h0.size := ⟨_, rfl⟩
    rw [← g124] at A124 D124 st124
    have g_q : n0 ≤ q := Nat.le_trans (Nat.le_trans Z0 KK0.1) (Nat.le_of_eq g124.symm)
    have sz_q : h0.size ≤ q := Nat.le_trans KK0.1 (Nat.le_of_eq g124.symm)
    have K124 : Keep h0 h124 [] := KK0.ext E124
    have F_samples_q : Fld Z h124 q "com/example/counterpath/counterpath/core/CappedMaximum" "samples" "[I" .null := D124 (Or.inr (own_W11 hw)) (ty := (.array .int)) (by decide)
    have F_values_q : Fld Z h124 q "com/example/counterpath/counterpath/core/CappedMaximum" "values" "[D" .null := D124 (Or.inr (own_W14 hw)) (ty := (.array .double)) (by decide)
    have F_head_q : Fld Z h124 q "com/example/counterpath/counterpath/core/CappedMaximum" "head" "I" (.int (0 : Int32)) := D124 (Or.inl (own_W16 hw)) (ty := .int) (by decide)
    have F_tail_q : Fld Z h124 q "com/example/counterpath/counterpath/core/CappedMaximum" "tail" "I" (.int (0 : Int32)) := D124 (Or.inl (own_W18 hw)) (ty := .int) (by decide)
    have pre125 := fun (τ : State) kt => pre123 τ (st124 τ kt)
    obtain ⟨_, T126, L126, X126, ⟨rfl, Nq126, Kq126, A, B, kA, kB, gA, gB, zA, zB, naA, naB, nAB, f1_126, f2_126, f3_126, f4_126, f5_126, f6_126⟩, st126⟩ := own_spec (y := own_mn1) (b := q) X124 hx hZ rfl hown (own_W3 hw) (own_W4 hw) (by decide) (rmI l Z a0 hw [] q (3 : Int32) h124 n0 (Nat.le_trans Z0 K124.1) rfl A124 F_samples_q F_values_q F_head_q F_tail_q g_q) (own_W5 hw) (own_W2 hw) 1 (by decide) (by decide) e124 (mkF m 74 #[.val (.int p1), .val (.int p2), .val (.int p3), .val (.int p4), .val (.int p5), .val (.int nn), .val (.int (1 : Int32)), .val (.int (0 : Int32)), .val (.int (0 : Int32)), .val (.int j0), .val (.int j1), .val (.int j2), .val (.int jb), .unset, .unset, .unset, .unset, .unset, .unset, .unset] [(.int (3 : Int32)), (.ref q), (.ref q)]) rfl (by rw [hml]; rfl) [(.int (3 : Int32))] [(.ref q)] rfl (lenOf own_pd__I_V rfl) rfl (Nat.le_refl _) (Jvm.hb hby at_74) (by decide) (by decide)
    have N126 := Fr.app N0 Nq126
    have K126 : Keep h0 T126.heap [] := K124.trans Kq126 (allS (Or.inr sz_q) (all0))
    have pre127 := fun (τ : State) kt => pre125 τ (by
      refine XS.dup X124.here hx rfl (Jvm.hb hby at_72) rfl rfl ?_
      refine XS.iconst X124.here hx rfl (Jvm.hb hby at_73) ?_
      exact st126 τ kt)
    have sz_A : h0.size ≤ A := Nat.le_trans K124.1 zA
    have sz_B : h0.size ≤ B := Nat.le_trans K124.1 zB
    have pre128 := fun (τ : State) kt => pre127 τ (by
      refine XS.astore X126.here hx rfl (Jvm.hb hby at_77) rfl rfl (l' := #[.val (.int p1), .val (.int p2), .val (.int p3), .val (.int p4), .val (.int p5), .val (.int nn), .val (.int (1 : Int32)), .val (.int (0 : Int32)), .val (.int (0 : Int32)), .val (.int j0), .val (.int j1), .val (.int j2), .val (.int jb), .val (.ref q), .unset, .unset, .unset, .unset, .unset, .unset]) rfl ?_
      refine XS.iload X126.here hx rfl (Jvm.hb hby at_79) rfl ?_
      exact kt)
    have pre129 := fun (τ : State) kt => pre128 τ (by
      refine XS.ifYes X126.here hx rfl (pc0 := 81) (pc' := 93) rfl (Jvm.hb hby at_81) rfl ((if0 _ _).trans (teq (by decide)).1) (by decide) (by decide) ?_
      refine XS.iload X126.here hx rfl (Jvm.hb hby at_93) rfl ?_
      refine XS.ifYes X126.here hx rfl (pc0 := 95) (pc' := 107) rfl (Jvm.hb hby at_95) rfl ((if0 _ _).trans (teq (by decide)).1) (by decide) (by decide) ?_
      refine XS.iload X126.here hx rfl (Jvm.hb hby at_107) rfl ?_
      refine XS.ifNo X126.here hx rfl (Jvm.hb hby at_109) rfl ((if0 _ _).trans (feq (by decide)).1) ?_
      refine XS.aload X126.here hx rfl (Jvm.hb hby at_112) rfl rfl ?_
      refine XS.iconst X126.here hx rfl (Jvm.hb hby at_114) ?_
      refine XS.iload X126.here hx rfl (Jvm.hb hby at_115) rfl ?_
      refine own_i2d X126.here hx rfl (Jvm.hb hby at_117) rfl ?_
      exact kt)
    have f167 := A124.keep Kq126
    obtain ⟨_, T168, L168, X168, ⟨rfl, Nq168, Kq168, f1_168, f2_168, f3_168, f4_168, f5_168, f6_168⟩, st168⟩ := own_virt (y := own_mn7) (b := q) X126 hx hZ hown (own_W44 hw) (own_W45 hw) (own_W47 hw) (own_W46 hw) (by decide) (rmAdd_33_e l Z a0 hw [] q (0 : Int32) (FP.i2d j0) A B kA kB (0 : Int32) (0 : Int32) (0 : Int32) (0 : UInt64) (0 : UInt64) (0 : UInt64) T126.heap n0 (Nat.le_trans Z0 K126.1) f167 f1_126 f2_126 f3_126 f4_126 f5_126 f6_126 naA naB nAB g_q gA gB ) (own_W48 hw) (own_W2 hw) 0 (by decide) (by decide) f167 rfl (mkF m 118 (own_LA1 p1 p2 p3 p4 p5 nn j0 j1 j2 jb q .unset .unset .unset .unset .unset .unset) [(.double (FP.i2d j0)), (.int (0 : Int32)), (.ref q)]) rfl (by rw [hml]; rfl) [(.int (0 : Int32)), (.double (FP.i2d j0))] [] rfl (lenOf own_pd__ID_V rfl) rfl (Nat.le_refl _) (Jvm.hb hby at_118) (by decide) (by decide)
    have N168 := Fr.app N126 Nq168
    have K168 : Keep h0 T168.heap [] := K126.trans Kq168 (allS (Or.inr sz_q) (allS (Or.inr sz_A) (allS (Or.inr sz_B) (all0))))
    have pre169 := fun (τ : State) kt => pre129 τ (st168 τ kt)
    have pre170 := fun (τ : State) kt => pre169 τ (by
      refine XS.aload X168.here hx rfl (Jvm.hb hby at_121) rfl rfl ?_
      refine XS.iload X168.here hx rfl (Jvm.hb hby at_123) rfl ?_
      refine own_i2d X168.here hx rfl (Jvm.hb hby at_125) rfl ?_
      exact kt)
    by_cases qb171 : jb.toInt < j0.toInt
    · skip
      have f197 := f167.keep Kq168
      obtain ⟨_, T198, L198, X198, ⟨rfl, Nq198, Kq198, f1_198, f2_198, f3_198, f4_198, f5_198, f6_198⟩, st198⟩ := own_virt (y := own_mn2) (b := q) X168 hx hZ hown (own_W19 hw) (own_W20 hw) (own_W22 hw) (own_W21 hw) (by decide) (rmCap_23_os l Z a0 hw [] q (FP.i2d jb) A B kA kB (0 : Int32) (0 : Int32) (0 : Int32) (0 : UInt64) (0 : UInt64) (FP.i2d j0) T168.heap n0 (Nat.le_trans Z0 K168.1) f197 f1_168 f2_168 f3_168 f4_168 f5_168 f6_168 naA naB nAB g_q gA gB ((own_gt _ _ _).mpr qb171)) (own_W23 hw) (own_W2 hw) 0 (by decide) (by decide) f197 rfl (mkF m 126 (own_LA1 p1 p2 p3 p4 p5 nn j0 j1 j2 jb q .unset .unset .unset .unset .unset .unset) [(.double (FP.i2d jb)), (.ref q)]) rfl (by rw [hml]; rfl) [(.double (FP.i2d jb))] [] rfl (lenOf own_pd__D_V rfl) rfl (Nat.le_refl _) (Jvm.hb hby at_126) (by decide) (by decide)
      have N198 := Fr.app N168 Nq198
      have K198 : Keep h0 T198.heap [] := K168.trans Kq198 (allS (Or.inr sz_q) (allS (Or.inr sz_A) (allS (Or.inr sz_B) (all0))))
      have pre199 := fun (τ : State) kt => pre170 τ (st198 τ kt)
      have f210 := f197.keep Kq198
      obtain ⟨_, T211, L211, X211, ⟨rfl, Nq211, eq211⟩, st211⟩ := own_virt (y := own_mn3) (b := q) X198 hx hZ hown (own_W24 hw) (own_W25 hw) (own_W27 hw) (own_W26 hw) (by decide) (rmMax_23 l Z a0 hw [] q A B kA kB (0 : Int32) (0 : Int32) (0 : Int32) (0 : UInt64) (0 : UInt64) (FP.i2d jb) T198.heap n0 (Nat.le_trans Z0 K198.1) f210 f1_198 f2_198 f3_198 f4_198 f5_198 f6_198 naA naB nAB g_q gA gB) (own_W28 hw) (own_W2 hw) 0 (by decide) (by decide) f210 rfl (mkF m 173 (own_LA1 p1 p2 p3 p4 p5 nn j0 j1 j2 jb q (.val (.int j0)) (.val (.int (-100 : Int32))) (.val (.int (-100 : Int32))) .unset .unset .unset) [(.ref q)]) rfl (by rw [hml]; rfl) [] [] rfl (lenOf own_pd___D rfl) rfl (Nat.le_refl _) (Jvm.hb hby at_173) (by decide) (by decide)
      have N211 := Fr.app N198 Nq211
      have pre212 := fun (τ : State) kt => pre199 τ (by
        refine XS.iload X198.here hx rfl (Jvm.hb hby at_129) rfl ?_
        refine XS.ifNo X198.here hx rfl (Jvm.hb hby at_131) rfl ((if0 _ _).trans (feq (by decide)).1) ?_
        refine XS.iload X198.here hx rfl (Jvm.hb hby at_134) rfl ?_
        refine XS.goto X198.here hx rfl (pc0 := 136) (pc' := 141) rfl (Jvm.hb hby at_136) (by decide) (by decide) ?_
        refine XS.istore X198.here hx rfl (Jvm.hb hby at_141) rfl (l' := (own_LA1 p1 p2 p3 p4 p5 nn j0 j1 j2 jb q (.val (.int j0)) .unset .unset .unset .unset .unset)) rfl ?_
        refine XS.iload X198.here hx rfl (Jvm.hb hby at_143) rfl ?_
        refine XS.ifYes X198.here hx rfl (pc0 := 145) (pc' := 153) rfl (Jvm.hb hby at_145) rfl ((if0 _ _).trans (teq (by decide)).1) (by decide) (by decide) ?_
        refine XS.bipush X198.here hx rfl (Jvm.hb hby at_153) ?_
        refine XS.istore X198.here hx rfl (Jvm.hb hby at_155) rfl (l' := (own_LA1 p1 p2 p3 p4 p5 nn j0 j1 j2 jb q (.val (.int j0)) (.val (.int (-100 : Int32))) .unset .unset .unset .unset)) rfl ?_
        refine XS.iload X198.here hx rfl (Jvm.hb hby at_157) rfl ?_
        refine XS.ifYes X198.here hx rfl (pc0 := 159) (pc' := 167) rfl (Jvm.hb hby at_159) rfl ((if0 _ _).trans (teq (by decide)).1) (by decide) (by decide) ?_
        refine XS.bipush X198.here hx rfl (Jvm.hb hby at_167) ?_
        refine XS.istore X198.here hx rfl (Jvm.hb hby at_169) rfl (l' := (own_LA1 p1 p2 p3 p4 p5 nn j0 j1 j2 jb q (.val (.int j0)) (.val (.int (-100 : Int32))) (.val (.int (-100 : Int32))) .unset .unset .unset)) rfl ?_
        refine XS.aload X198.here hx rfl (Jvm.hb hby at_171) rfl rfl ?_
        exact st211 τ kt)
      obtain ⟨_, T213, L213, X213, ⟨rfl, Nq213, eq213⟩, st213⟩ := own_stat (y := own_mn4) X211 hx hZ hown (own_W30 hw) (own_W31 hw) (by decide) (rm_max l Z a0 hw [] (-100 : Int32) (-100 : Int32) T198.heap n0 (Nat.le_trans Z0 K198.1)) (own_W33 hw) (own_W32 hw) 3 (by decide) (by decide) eq211 (mkF m 182 (own_LA1 p1 p2 p3 p4 p5 nn j0 j1 j2 jb q (.val (.int j0)) (.val (.int (-100 : Int32))) (.val (.int (-100 : Int32))) .unset .unset .unset) [(.int (-100 : Int32)), (.int (-100 : Int32)), (.int j0), (.double (FP.i2d jb))]) rfl (by rw [hml]; rfl) [(.int (-100 : Int32)), (.int (-100 : Int32))] [(.int j0), (.double (FP.i2d jb))] rfl (lenOf own_pd__II_I rfl) rfl (Nat.le_refl _) (Jvm.hb hby at_182) (by decide) (by decide)
      have N213 := Fr.app N211 Nq213
      have pre214 := fun (τ : State) kt => pre212 τ (by
        refine XS.iload X211.here hx rfl (Jvm.hb hby at_176) rfl ?_
        refine XS.iload X211.here hx rfl (Jvm.hb hby at_178) rfl ?_
        refine XS.iload X211.here hx rfl (Jvm.hb hby at_180) rfl ?_
        exact st213 τ kt)
      obtain ⟨_, T215, L215, X215, ⟨rfl, Nq215, eq215⟩, st215⟩ := own_stat (y := own_mn4) X213 hx hZ hown (own_W30 hw) (own_W31 hw) (by decide) (rm_max l Z a0 hw [] j0 (own_max (-100 : Int32) (-100 : Int32)) T198.heap n0 (Nat.le_trans Z0 K198.1)) (own_W33 hw) (own_W32 hw) 2 (by decide) (by decide) eq213 (mkF m 185 (own_LA1 p1 p2 p3 p4 p5 nn j0 j1 j2 jb q (.val (.int j0)) (.val (.int (-100 : Int32))) (.val (.int (-100 : Int32))) .unset .unset .unset) [(.int (own_max (-100 : Int32) (-100 : Int32))), (.int j0), (.double (FP.i2d jb))]) rfl (by rw [hml]; rfl) [(.int j0), (.int (own_max (-100 : Int32) (-100 : Int32)))] [(.double (FP.i2d jb))] rfl (lenOf own_pd__II_I rfl) rfl (Nat.le_refl _) (Jvm.hb hby at_185) (by decide) (by decide)
      have N215 := Fr.app N213 Nq215
      have pre216 := fun (τ : State) kt => pre214 τ (st215 τ kt)
      obtain ⟨_, T217, L217, X217, ⟨rfl, Nq217, eq217⟩, st217⟩ := own_stat (y := own_mn5) X215 hx hZ hown (own_W34 hw) (own_W35 hw) (by decide) (rmE2 l Z a0 hw [] (FP.i2d jb) (own_max j0 (own_max (-100 : Int32) (-100 : Int32))) jb T198.heap n0 (Nat.le_trans Z0 K198.1) (own_ne100 (by (try simp only [own_max_int, own_m100]); omega)) (own_eq (by simp only [own_max_int, own_min_int, own_m100]; omega) _)) (own_W37 hw) (own_W36 hw) 0 (by decide) (by decide) eq215 (mkF m 190 (own_LA1 p1 p2 p3 p4 p5 nn j0 j1 j2 jb q (.val (.int j0)) (.val (.int (-100 : Int32))) (.val (.int (-100 : Int32))) .unset .unset .unset) [(.int jb), (.int (own_max j0 (own_max (-100 : Int32) (-100 : Int32)))), (.double (FP.i2d jb))]) rfl (by rw [hml]; rfl) [(.double (FP.i2d jb)), (.int (own_max j0 (own_max (-100 : Int32) (-100 : Int32)))), (.int jb)] [] rfl (lenOf own_pd__DII_Z rfl) rfl (Nat.le_refl _) (Jvm.hb hby at_190) (by decide) (by decide)
      have N217 := Fr.app N215 Nq217
      have pre218 := fun (τ : State) kt => pre216 τ (by
        refine XS.iload X215.here hx rfl (Jvm.hb hby at_188) rfl ?_
        exact st217 τ kt)
      obtain ⟨_, T229, L229, X229, ⟨rfl, Nq229, Kq229, f1_229, f2_229, f3_229, f4_229, f5_229, f6_229⟩, st229⟩ := own_virt (y := own_mn6) (b := q) X217 hx hZ hown (own_W39 hw) (own_W40 hw) (own_W42 hw) (own_W41 hw) (by decide) (rmRem_23_x l Z a0 hw [] q (1 : Int32) A B kA kB (0 : Int32) (0 : Int32) (0 : Int32) (0 : UInt64) (0 : UInt64) (FP.i2d jb) T198.heap n0 (Nat.le_trans Z0 K198.1) f210 f1_198 f2_198 f3_198 f4_198 f5_198 f6_198 naA naB nAB g_q gA gB (by decide)) (own_W43 hw) (own_W2 hw) 0 (by decide) (by decide) f210 eq217 (mkF m 198 (own_LA1 p1 p2 p3 p4 p5 nn j0 j1 j2 jb q (.val (.int j0)) (.val (.int (-100 : Int32))) (.val (.int (-100 : Int32))) (.val (.int (1 : Int32))) .unset .unset) [(.int (1 : Int32)), (.ref q)]) rfl (by rw [hml]; rfl) [(.int (1 : Int32))] [] rfl (lenOf own_pd__I_V rfl) rfl (Nat.le_refl _) (Jvm.hb hby at_198) (by decide) (by decide)
      have N229 := Fr.app N217 Nq229
      have K229 : Keep h0 T229.heap [] := K198.trans Kq229 (allS (Or.inr sz_q) (allS (Or.inr sz_A) (allS (Or.inr sz_B) (all0))))
      have pre230 := fun (τ : State) kt => pre218 τ (by
        refine XS.istore X217.here hx rfl (Jvm.hb hby at_193) rfl (l' := (own_LA1 p1 p2 p3 p4 p5 nn j0 j1 j2 jb q (.val (.int j0)) (.val (.int (-100 : Int32))) (.val (.int (-100 : Int32))) (.val (.int (1 : Int32))) .unset .unset)) rfl ?_
        refine XS.aload X217.here hx rfl (Jvm.hb hby at_195) rfl rfl ?_
        refine XS.iconst X217.here hx rfl (Jvm.hb hby at_197) ?_
        exact st229 τ kt)
      have f231 := f210.keep Kq229
      obtain ⟨_, T232, L232, X232, ⟨rfl, Nq232, eq232⟩, st232⟩ := own_virt (y := own_mn3) (b := q) X229 hx hZ hown (own_W24 hw) (own_W25 hw) (own_W27 hw) (own_W26 hw) (by decide) (rmMax_23 l Z a0 hw [] q A B kA kB (0 : Int32) (0 : Int32) (0 : Int32) (0 : UInt64) (0 : UInt64) (FP.i2d jb) T229.heap n0 (Nat.le_trans Z0 K229.1) f231 f1_229 f2_229 f3_229 f4_229 f5_229 f6_229 naA naB nAB g_q gA gB) (own_W28 hw) (own_W2 hw) 0 (by decide) (by decide) f231 rfl (mkF m 203 (own_LA1 p1 p2 p3 p4 p5 nn j0 j1 j2 jb q (.val (.int j0)) (.val (.int (-100 : Int32))) (.val (.int (-100 : Int32))) (.val (.int (1 : Int32))) .unset .unset) [(.ref q)]) rfl (by rw [hml]; rfl) [] [] rfl (lenOf own_pd___D rfl) rfl (Nat.le_refl _) (Jvm.hb hby at_203) (by decide) (by decide)
      have N232 := Fr.app N229 Nq232
      have pre233 := fun (τ : State) kt => pre230 τ (by
        refine XS.aload X229.here hx rfl (Jvm.hb hby at_201) rfl rfl ?_
        exact st232 τ kt)
      obtain ⟨_, T234, L234, X234, ⟨rfl, Nq234, eq234⟩, st234⟩ := own_stat (y := own_mn4) X232 hx hZ hown (own_W30 hw) (own_W31 hw) (by decide) (rm_max l Z a0 hw [] j0 (-100 : Int32) T229.heap n0 (Nat.le_trans Z0 K229.1)) (own_W33 hw) (own_W32 hw) 2 (by decide) (by decide) eq232 (mkF m 210 (own_LA1 p1 p2 p3 p4 p5 nn j0 j1 j2 jb q (.val (.int j0)) (.val (.int (-100 : Int32))) (.val (.int (-100 : Int32))) (.val (.int (1 : Int32))) .unset .unset) [(.int (-100 : Int32)), (.int j0), (.double (FP.i2d jb))]) rfl (by rw [hml]; rfl) [(.int j0), (.int (-100 : Int32))] [(.double (FP.i2d jb))] rfl (lenOf own_pd__II_I rfl) rfl (Nat.le_refl _) (Jvm.hb hby at_210) (by decide) (by decide)
      have N234 := Fr.app N232 Nq234
      have pre235 := fun (τ : State) kt => pre233 τ (by
        refine XS.iload X232.here hx rfl (Jvm.hb hby at_206) rfl ?_
        refine XS.iload X232.here hx rfl (Jvm.hb hby at_208) rfl ?_
        exact st234 τ kt)
      obtain ⟨_, T236, L236, X236, ⟨rfl, Nq236, eq236⟩, st236⟩ := own_stat (y := own_mn5) X234 hx hZ hown (own_W34 hw) (own_W35 hw) (by decide) (rmE2 l Z a0 hw [] (FP.i2d jb) (own_max j0 (-100 : Int32)) jb T229.heap n0 (Nat.le_trans Z0 K229.1) (own_ne100 (by (try simp only [own_max_int, own_m100]); omega)) (own_eq (by simp only [own_max_int, own_min_int, own_m100]; omega) _)) (own_W37 hw) (own_W36 hw) 0 (by decide) (by decide) eq234 (mkF m 215 (own_LA1 p1 p2 p3 p4 p5 nn j0 j1 j2 jb q (.val (.int j0)) (.val (.int (-100 : Int32))) (.val (.int (-100 : Int32))) (.val (.int (1 : Int32))) .unset .unset) [(.int jb), (.int (own_max j0 (-100 : Int32))), (.double (FP.i2d jb))]) rfl (by rw [hml]; rfl) [(.double (FP.i2d jb)), (.int (own_max j0 (-100 : Int32))), (.int jb)] [] rfl (lenOf own_pd__DII_Z rfl) rfl (Nat.le_refl _) (Jvm.hb hby at_215) (by decide) (by decide)
      have N236 := Fr.app N234 Nq236
      have pre237 := fun (τ : State) kt => pre235 τ (by
        refine XS.iload X234.here hx rfl (Jvm.hb hby at_213) rfl ?_
        exact st236 τ kt)
      obtain ⟨_, T238, L238, X238, ⟨rfl, Nq238, Kq238, f1_238, f2_238, f3_238, f4_238, f5_238, f6_238⟩, st238⟩ := own_virt (y := own_mn6) (b := q) X236 hx hZ hown (own_W39 hw) (own_W40 hw) (own_W42 hw) (own_W41 hw) (by decide) (rmRem_23_x l Z a0 hw [] q (0 : Int32) A B kA kB (0 : Int32) (0 : Int32) (0 : Int32) (0 : UInt64) (0 : UInt64) (FP.i2d jb) T229.heap n0 (Nat.le_trans Z0 K229.1) f231 f1_229 f2_229 f3_229 f4_229 f5_229 f6_229 naA naB nAB g_q gA gB (by decide)) (own_W43 hw) (own_W2 hw) 0 (by decide) (by decide) f231 eq236 (mkF m 223 (own_LA1 p1 p2 p3 p4 p5 nn j0 j1 j2 jb q (.val (.int j0)) (.val (.int (-100 : Int32))) (.val (.int (-100 : Int32))) (.val (.int (1 : Int32))) (.val (.int (1 : Int32))) .unset) [(.int (0 : Int32)), (.ref q)]) rfl (by rw [hml]; rfl) [(.int (0 : Int32))] [] rfl (lenOf own_pd__I_V rfl) rfl (Nat.le_refl _) (Jvm.hb hby at_223) (by decide) (by decide)
      have N238 := Fr.app N236 Nq238
      have K238 : Keep h0 T238.heap [] := K229.trans Kq238 (allS (Or.inr sz_q) (allS (Or.inr sz_A) (allS (Or.inr sz_B) (all0))))
      have pre239 := fun (τ : State) kt => pre237 τ (by
        refine XS.istore X236.here hx rfl (Jvm.hb hby at_218) rfl (l' := (own_LA1 p1 p2 p3 p4 p5 nn j0 j1 j2 jb q (.val (.int j0)) (.val (.int (-100 : Int32))) (.val (.int (-100 : Int32))) (.val (.int (1 : Int32))) (.val (.int (1 : Int32))) .unset)) rfl ?_
        refine XS.aload X236.here hx rfl (Jvm.hb hby at_220) rfl rfl ?_
        refine XS.iconst X236.here hx rfl (Jvm.hb hby at_222) ?_
        exact st238 τ kt)
      have f240 := f231.keep Kq238
      obtain ⟨_, T241, L241, X241, ⟨rfl, Nq241, eq241⟩, st241⟩ := own_virt (y := own_mn3) (b := q) X238 hx hZ hown (own_W24 hw) (own_W25 hw) (own_W27 hw) (own_W26 hw) (by decide) (rmMax_23 l Z a0 hw [] q A B kA kB (0 : Int32) (0 : Int32) (0 : Int32) (0 : UInt64) (0 : UInt64) (FP.i2d jb) T238.heap n0 (Nat.le_trans Z0 K238.1) f240 f1_238 f2_238 f3_238 f4_238 f5_238 f6_238 naA naB nAB g_q gA gB) (own_W28 hw) (own_W2 hw) 0 (by decide) (by decide) f240 rfl (mkF m 228 (own_LA1 p1 p2 p3 p4 p5 nn j0 j1 j2 jb q (.val (.int j0)) (.val (.int (-100 : Int32))) (.val (.int (-100 : Int32))) (.val (.int (1 : Int32))) (.val (.int (1 : Int32))) .unset) [(.ref q)]) rfl (by rw [hml]; rfl) [] [] rfl (lenOf own_pd___D rfl) rfl (Nat.le_refl _) (Jvm.hb hby at_228) (by decide) (by decide)
      have N241 := Fr.app N238 Nq241
      have pre242 := fun (τ : State) kt => pre239 τ (by
        refine XS.aload X238.here hx rfl (Jvm.hb hby at_226) rfl rfl ?_
        exact st241 τ kt)
      obtain ⟨_, T243, L243, X243, ⟨rfl, Nq243, eq243⟩, st243⟩ := own_stat (y := own_mn5) X241 hx hZ hown (own_W34 hw) (own_W35 hw) (by decide) (rmE2 l Z a0 hw [] (FP.i2d jb) j0 jb T238.heap n0 (Nat.le_trans Z0 K238.1) (own_ne100 (by (try simp only [own_max_int, own_m100]); omega)) (own_eq (by simp only [own_max_int, own_min_int, own_m100]; omega) _)) (own_W37 hw) (own_W36 hw) 0 (by decide) (by decide) eq241 (mkF m 235 (own_LA1 p1 p2 p3 p4 p5 nn j0 j1 j2 jb q (.val (.int j0)) (.val (.int (-100 : Int32))) (.val (.int (-100 : Int32))) (.val (.int (1 : Int32))) (.val (.int (1 : Int32))) .unset) [(.int jb), (.int j0), (.double (FP.i2d jb))]) rfl (by rw [hml]; rfl) [(.double (FP.i2d jb)), (.int j0), (.int jb)] [] rfl (lenOf own_pd__DII_Z rfl) rfl (Nat.le_refl _) (Jvm.hb hby at_235) (by decide) (by decide)
      have N243 := Fr.app N241 Nq243
      have pre244 := fun (τ : State) kt => pre242 τ (by
        refine XS.iload X241.here hx rfl (Jvm.hb hby at_231) rfl ?_
        refine XS.iload X241.here hx rfl (Jvm.hb hby at_233) rfl ?_
        exact st243 τ kt)
      have pre245 := fun (τ : State) kt => pre244 τ (by
        refine XS.istore X243.here hx rfl (Jvm.hb hby at_238) rfl (l' := (own_LA1 p1 p2 p3 p4 p5 nn j0 j1 j2 jb q (.val (.int j0)) (.val (.int (-100 : Int32))) (.val (.int (-100 : Int32))) (.val (.int (1 : Int32))) (.val (.int (1 : Int32))) (.val (.int (1 : Int32))))) rfl ?_
        refine XS.iload X243.here hx rfl (Jvm.hb hby at_240) rfl ?_
        refine XS.ifNo X243.here hx rfl (Jvm.hb hby at_242) rfl ((if0 _ _).trans (feq (by decide)).1) ?_
        refine XS.iload X243.here hx rfl (Jvm.hb hby at_245) rfl ?_
        refine XS.ifNo X243.here hx rfl (Jvm.hb hby at_247) rfl ((if0 _ _).trans (feq (by decide)).1) ?_
        refine XS.iload X243.here hx rfl (Jvm.hb hby at_250) rfl ?_
        refine XS.ifNo X243.here hx rfl (Jvm.hb hby at_252) rfl ((if0 _ _).trans (feq (by decide)).1) ?_
        refine XS.iconst X243.here hx rfl (Jvm.hb hby at_255) ?_
        refine XS.goto X243.here hx rfl (pc0 := 256) (pc' := 260) rfl (Jvm.hb hby at_256) (by decide) (by decide) ?_
        exact kt)
      obtain ⟨fs, hrL, hrun, hended, hW, hsame⟩ := X243.leave (v := some (.int (1 : Int32))) (fun h => by rw [Bd.returns] at h; cases h)
      refine ⟨_, _, cast (congrFun hPS _) (pre245 _ ?_), hrun, hended, _, _, rfl, ?_, ⟨_, rfl⟩, hW, hsame.mono (by decide) (by decide)⟩
      · show Steps p.tables e below (T243.setTop (mkF m 260 (own_LA1 p1 p2 p3 p4 p5 nn j0 j1 j2 jb q (.val (.int j0)) (.val (.int (-100 : Int32))) (.val (.int (-100 : Int32))) (.val (.int (1 : Int32))) (.val (.int (1 : Int32))) (.val (.int (1 : Int32)))) [(.int (1 : Int32))])) _
        exact retN X243 hx (t := .boolean) Bd.returns (by simp) (Jvm.hb hby at_260) hrL
      · show Q0 n0 _ T243.heap _
        exact ⟨rfl, N243⟩
    have f260 := f167.keep Kq168
    obtain ⟨_, T261, L261, X261, ⟨rfl, Nq261, Kq261, f1_261, f2_261, f3_261, f4_261, f5_261, f6_261⟩, st261⟩ := own_virt (y := own_mn2) (b := q) X168 hx hZ hown (own_W19 hw) (own_W20 hw) (own_W22 hw) (own_W21 hw) (by decide) (rmCap_23_ok l Z a0 hw [] q (FP.i2d jb) A B kA kB (0 : Int32) (0 : Int32) (0 : Int32) (0 : UInt64) (0 : UInt64) (FP.i2d j0) T168.heap n0 (Nat.le_trans Z0 K168.1) f260 f1_168 f2_168 f3_168 f4_168 f5_168 f6_168 naA naB nAB g_q gA gB (fun z => qb171 ((own_gt _ _ _).mp z))) (own_W23 hw) (own_W2 hw) 0 (by decide) (by decide) f260 rfl (mkF m 126 (own_LA1 p1 p2 p3 p4 p5 nn j0 j1 j2 jb q .unset .unset .unset .unset .unset .unset) [(.double (FP.i2d jb)), (.ref q)]) rfl (by rw [hml]; rfl) [(.double (FP.i2d jb))] [] rfl (lenOf own_pd__D_V rfl) rfl (Nat.le_refl _) (Jvm.hb hby at_126) (by decide) (by decide)
    have N261 := Fr.app N168 Nq261
    have K261 : Keep h0 T261.heap [] := K168.trans Kq261 (allS (Or.inr sz_q) (allS (Or.inr sz_A) (allS (Or.inr sz_B) (all0))))
    have pre262 := fun (τ : State) kt => pre170 τ (st261 τ kt)
    have f263 := f260.keep Kq261
    obtain ⟨_, T264, L264, X264, ⟨rfl, Nq264, eq264⟩, st264⟩ := own_virt (y := own_mn3) (b := q) X261 hx hZ hown (own_W24 hw) (own_W25 hw) (own_W27 hw) (own_W26 hw) (by decide) (rmMax_23 l Z a0 hw [] q A B kA kB (0 : Int32) (0 : Int32) (0 : Int32) (0 : UInt64) (0 : UInt64) (FP.i2d j0) T261.heap n0 (Nat.le_trans Z0 K261.1) f263 f1_261 f2_261 f3_261 f4_261 f5_261 f6_261 naA naB nAB g_q gA gB) (own_W28 hw) (own_W2 hw) 0 (by decide) (by decide) f263 rfl (mkF m 173 (own_LA1 p1 p2 p3 p4 p5 nn j0 j1 j2 jb q (.val (.int j0)) (.val (.int (-100 : Int32))) (.val (.int (-100 : Int32))) .unset .unset .unset) [(.ref q)]) rfl (by rw [hml]; rfl) [] [] rfl (lenOf own_pd___D rfl) rfl (Nat.le_refl _) (Jvm.hb hby at_173) (by decide) (by decide)
    have N264 := Fr.app N261 Nq264
    have pre265 := fun (τ : State) kt => pre262 τ (by
      refine XS.iload X261.here hx rfl (Jvm.hb hby at_129) rfl ?_
      refine XS.ifNo X261.here hx rfl (Jvm.hb hby at_131) rfl ((if0 _ _).trans (feq (by decide)).1) ?_
      refine XS.iload X261.here hx rfl (Jvm.hb hby at_134) rfl ?_
      refine XS.goto X261.here hx rfl (pc0 := 136) (pc' := 141) rfl (Jvm.hb hby at_136) (by decide) (by decide) ?_
      refine XS.istore X261.here hx rfl (Jvm.hb hby at_141) rfl (l' := (own_LA1 p1 p2 p3 p4 p5 nn j0 j1 j2 jb q (.val (.int j0)) .unset .unset .unset .unset .unset)) rfl ?_
      refine XS.iload X261.here hx rfl (Jvm.hb hby at_143) rfl ?_
      refine XS.ifYes X261.here hx rfl (pc0 := 145) (pc' := 153) rfl (Jvm.hb hby at_145) rfl ((if0 _ _).trans (teq (by decide)).1) (by decide) (by decide) ?_
      refine XS.bipush X261.here hx rfl (Jvm.hb hby at_153) ?_
      refine XS.istore X261.here hx rfl (Jvm.hb hby at_155) rfl (l' := (own_LA1 p1 p2 p3 p4 p5 nn j0 j1 j2 jb q (.val (.int j0)) (.val (.int (-100 : Int32))) .unset .unset .unset .unset)) rfl ?_
      refine XS.iload X261.here hx rfl (Jvm.hb hby at_157) rfl ?_
      refine XS.ifYes X261.here hx rfl (pc0 := 159) (pc' := 167) rfl (Jvm.hb hby at_159) rfl ((if0 _ _).trans (teq (by decide)).1) (by decide) (by decide) ?_
      refine XS.bipush X261.here hx rfl (Jvm.hb hby at_167) ?_
      refine XS.istore X261.here hx rfl (Jvm.hb hby at_169) rfl (l' := (own_LA1 p1 p2 p3 p4 p5 nn j0 j1 j2 jb q (.val (.int j0)) (.val (.int (-100 : Int32))) (.val (.int (-100 : Int32))) .unset .unset .unset)) rfl ?_
      refine XS.aload X261.here hx rfl (Jvm.hb hby at_171) rfl rfl ?_
      exact st264 τ kt)
    obtain ⟨_, T266, L266, X266, ⟨rfl, Nq266, eq266⟩, st266⟩ := own_stat (y := own_mn4) X264 hx hZ hown (own_W30 hw) (own_W31 hw) (by decide) (rm_max l Z a0 hw [] (-100 : Int32) (-100 : Int32) T261.heap n0 (Nat.le_trans Z0 K261.1)) (own_W33 hw) (own_W32 hw) 3 (by decide) (by decide) eq264 (mkF m 182 (own_LA1 p1 p2 p3 p4 p5 nn j0 j1 j2 jb q (.val (.int j0)) (.val (.int (-100 : Int32))) (.val (.int (-100 : Int32))) .unset .unset .unset) [(.int (-100 : Int32)), (.int (-100 : Int32)), (.int j0), (.double (FP.i2d j0))]) rfl (by rw [hml]; rfl) [(.int (-100 : Int32)), (.int (-100 : Int32))] [(.int j0), (.double (FP.i2d j0))] rfl (lenOf own_pd__II_I rfl) rfl (Nat.le_refl _) (Jvm.hb hby at_182) (by decide) (by decide)
    have N266 := Fr.app N264 Nq266
    have pre267 := fun (τ : State) kt => pre265 τ (by
      refine XS.iload X264.here hx rfl (Jvm.hb hby at_176) rfl ?_
      refine XS.iload X264.here hx rfl (Jvm.hb hby at_178) rfl ?_
      refine XS.iload X264.here hx rfl (Jvm.hb hby at_180) rfl ?_
      exact st266 τ kt)
    obtain ⟨_, T268, L268, X268, ⟨rfl, Nq268, eq268⟩, st268⟩ := own_stat (y := own_mn4) X266 hx hZ hown (own_W30 hw) (own_W31 hw) (by decide) (rm_max l Z a0 hw [] j0 (own_max (-100 : Int32) (-100 : Int32)) T261.heap n0 (Nat.le_trans Z0 K261.1)) (own_W33 hw) (own_W32 hw) 2 (by decide) (by decide) eq266 (mkF m 185 (own_LA1 p1 p2 p3 p4 p5 nn j0 j1 j2 jb q (.val (.int j0)) (.val (.int (-100 : Int32))) (.val (.int (-100 : Int32))) .unset .unset .unset) [(.int (own_max (-100 : Int32) (-100 : Int32))), (.int j0), (.double (FP.i2d j0))]) rfl (by rw [hml]; rfl) [(.int j0), (.int (own_max (-100 : Int32) (-100 : Int32)))] [(.double (FP.i2d j0))] rfl (lenOf own_pd__II_I rfl) rfl (Nat.le_refl _) (Jvm.hb hby at_185) (by decide) (by decide)
    have N268 := Fr.app N266 Nq268
    have pre269 := fun (τ : State) kt => pre267 τ (st268 τ kt)
    obtain ⟨_, T270, L270, X270, ⟨rfl, Nq270, eq270⟩, st270⟩ := own_stat (y := own_mn5) X268 hx hZ hown (own_W34 hw) (own_W35 hw) (by decide) (rmE2 l Z a0 hw [] (FP.i2d j0) (own_max j0 (own_max (-100 : Int32) (-100 : Int32))) jb T261.heap n0 (Nat.le_trans Z0 K261.1) (own_ne100 (by (try simp only [own_max_int, own_m100]); omega)) (own_eq (by simp only [own_max_int, own_min_int, own_m100]; omega) _)) (own_W37 hw) (own_W36 hw) 0 (by decide) (by decide) eq268 (mkF m 190 (own_LA1 p1 p2 p3 p4 p5 nn j0 j1 j2 jb q (.val (.int j0)) (.val (.int (-100 : Int32))) (.val (.int (-100 : Int32))) .unset .unset .unset) [(.int jb), (.int (own_max j0 (own_max (-100 : Int32) (-100 : Int32)))), (.double (FP.i2d j0))]) rfl (by rw [hml]; rfl) [(.double (FP.i2d j0)), (.int (own_max j0 (own_max (-100 : Int32) (-100 : Int32)))), (.int jb)] [] rfl (lenOf own_pd__DII_Z rfl) rfl (Nat.le_refl _) (Jvm.hb hby at_190) (by decide) (by decide)
    have N270 := Fr.app N268 Nq270
    have pre271 := fun (τ : State) kt => pre269 τ (by
      refine XS.iload X268.here hx rfl (Jvm.hb hby at_188) rfl ?_
      exact st270 τ kt)
    obtain ⟨_, T272, L272, X272, ⟨rfl, Nq272, Kq272, f1_272, f2_272, f3_272, f4_272, f5_272, f6_272⟩, st272⟩ := own_virt (y := own_mn6) (b := q) X270 hx hZ hown (own_W39 hw) (own_W40 hw) (own_W42 hw) (own_W41 hw) (by decide) (rmRem_23_x l Z a0 hw [] q (1 : Int32) A B kA kB (0 : Int32) (0 : Int32) (0 : Int32) (0 : UInt64) (0 : UInt64) (FP.i2d j0) T261.heap n0 (Nat.le_trans Z0 K261.1) f263 f1_261 f2_261 f3_261 f4_261 f5_261 f6_261 naA naB nAB g_q gA gB (by decide)) (own_W43 hw) (own_W2 hw) 0 (by decide) (by decide) f263 eq270 (mkF m 198 (own_LA1 p1 p2 p3 p4 p5 nn j0 j1 j2 jb q (.val (.int j0)) (.val (.int (-100 : Int32))) (.val (.int (-100 : Int32))) (.val (.int (1 : Int32))) .unset .unset) [(.int (1 : Int32)), (.ref q)]) rfl (by rw [hml]; rfl) [(.int (1 : Int32))] [] rfl (lenOf own_pd__I_V rfl) rfl (Nat.le_refl _) (Jvm.hb hby at_198) (by decide) (by decide)
    have N272 := Fr.app N270 Nq272
    have K272 : Keep h0 T272.heap [] := K261.trans Kq272 (allS (Or.inr sz_q) (allS (Or.inr sz_A) (allS (Or.inr sz_B) (all0))))
    have pre273 := fun (τ : State) kt => pre271 τ (by
      refine XS.istore X270.here hx rfl (Jvm.hb hby at_193) rfl (l' := (own_LA1 p1 p2 p3 p4 p5 nn j0 j1 j2 jb q (.val (.int j0)) (.val (.int (-100 : Int32))) (.val (.int (-100 : Int32))) (.val (.int (1 : Int32))) .unset .unset)) rfl ?_
      refine XS.aload X270.here hx rfl (Jvm.hb hby at_195) rfl rfl ?_
      refine XS.iconst X270.here hx rfl (Jvm.hb hby at_197) ?_
      exact st272 τ kt)
    have f274 := f263.keep Kq272
    obtain ⟨_, T275, L275, X275, ⟨rfl, Nq275, eq275⟩, st275⟩ := own_virt (y := own_mn3) (b := q) X272 hx hZ hown (own_W24 hw) (own_W25 hw) (own_W27 hw) (own_W26 hw) (by decide) (rmMax_23 l Z a0 hw [] q A B kA kB (0 : Int32) (0 : Int32) (0 : Int32) (0 : UInt64) (0 : UInt64) (FP.i2d j0) T272.heap n0 (Nat.le_trans Z0 K272.1) f274 f1_272 f2_272 f3_272 f4_272 f5_272 f6_272 naA naB nAB g_q gA gB) (own_W28 hw) (own_W2 hw) 0 (by decide) (by decide) f274 rfl (mkF m 203 (own_LA1 p1 p2 p3 p4 p5 nn j0 j1 j2 jb q (.val (.int j0)) (.val (.int (-100 : Int32))) (.val (.int (-100 : Int32))) (.val (.int (1 : Int32))) .unset .unset) [(.ref q)]) rfl (by rw [hml]; rfl) [] [] rfl (lenOf own_pd___D rfl) rfl (Nat.le_refl _) (Jvm.hb hby at_203) (by decide) (by decide)
    have N275 := Fr.app N272 Nq275
    have pre276 := fun (τ : State) kt => pre273 τ (by
      refine XS.aload X272.here hx rfl (Jvm.hb hby at_201) rfl rfl ?_
      exact st275 τ kt)
    obtain ⟨_, T277, L277, X277, ⟨rfl, Nq277, eq277⟩, st277⟩ := own_stat (y := own_mn4) X275 hx hZ hown (own_W30 hw) (own_W31 hw) (by decide) (rm_max l Z a0 hw [] j0 (-100 : Int32) T272.heap n0 (Nat.le_trans Z0 K272.1)) (own_W33 hw) (own_W32 hw) 2 (by decide) (by decide) eq275 (mkF m 210 (own_LA1 p1 p2 p3 p4 p5 nn j0 j1 j2 jb q (.val (.int j0)) (.val (.int (-100 : Int32))) (.val (.int (-100 : Int32))) (.val (.int (1 : Int32))) .unset .unset) [(.int (-100 : Int32)), (.int j0), (.double (FP.i2d j0))]) rfl (by rw [hml]; rfl) [(.int j0), (.int (-100 : Int32))] [(.double (FP.i2d j0))] rfl (lenOf own_pd__II_I rfl) rfl (Nat.le_refl _) (Jvm.hb hby at_210) (by decide) (by decide)
    have N277 := Fr.app N275 Nq277
    have pre278 := fun (τ : State) kt => pre276 τ (by
      refine XS.iload X275.here hx rfl (Jvm.hb hby at_206) rfl ?_
      refine XS.iload X275.here hx rfl (Jvm.hb hby at_208) rfl ?_
      exact st277 τ kt)
    obtain ⟨_, T279, L279, X279, ⟨rfl, Nq279, eq279⟩, st279⟩ := own_stat (y := own_mn5) X277 hx hZ hown (own_W34 hw) (own_W35 hw) (by decide) (rmE2 l Z a0 hw [] (FP.i2d j0) (own_max j0 (-100 : Int32)) jb T272.heap n0 (Nat.le_trans Z0 K272.1) (own_ne100 (by (try simp only [own_max_int, own_m100]); omega)) (own_eq (by simp only [own_max_int, own_min_int, own_m100]; omega) _)) (own_W37 hw) (own_W36 hw) 0 (by decide) (by decide) eq277 (mkF m 215 (own_LA1 p1 p2 p3 p4 p5 nn j0 j1 j2 jb q (.val (.int j0)) (.val (.int (-100 : Int32))) (.val (.int (-100 : Int32))) (.val (.int (1 : Int32))) .unset .unset) [(.int jb), (.int (own_max j0 (-100 : Int32))), (.double (FP.i2d j0))]) rfl (by rw [hml]; rfl) [(.double (FP.i2d j0)), (.int (own_max j0 (-100 : Int32))), (.int jb)] [] rfl (lenOf own_pd__DII_Z rfl) rfl (Nat.le_refl _) (Jvm.hb hby at_215) (by decide) (by decide)
    have N279 := Fr.app N277 Nq279
    have pre280 := fun (τ : State) kt => pre278 τ (by
      refine XS.iload X277.here hx rfl (Jvm.hb hby at_213) rfl ?_
      exact st279 τ kt)
    obtain ⟨_, T281, L281, X281, ⟨rfl, Nq281, Kq281, f1_281, f2_281, f3_281, f4_281, f5_281, f6_281⟩, st281⟩ := own_virt (y := own_mn6) (b := q) X279 hx hZ hown (own_W39 hw) (own_W40 hw) (own_W42 hw) (own_W41 hw) (by decide) (rmRem_23_x l Z a0 hw [] q (0 : Int32) A B kA kB (0 : Int32) (0 : Int32) (0 : Int32) (0 : UInt64) (0 : UInt64) (FP.i2d j0) T272.heap n0 (Nat.le_trans Z0 K272.1) f274 f1_272 f2_272 f3_272 f4_272 f5_272 f6_272 naA naB nAB g_q gA gB (by decide)) (own_W43 hw) (own_W2 hw) 0 (by decide) (by decide) f274 eq279 (mkF m 223 (own_LA1 p1 p2 p3 p4 p5 nn j0 j1 j2 jb q (.val (.int j0)) (.val (.int (-100 : Int32))) (.val (.int (-100 : Int32))) (.val (.int (1 : Int32))) (.val (.int (1 : Int32))) .unset) [(.int (0 : Int32)), (.ref q)]) rfl (by rw [hml]; rfl) [(.int (0 : Int32))] [] rfl (lenOf own_pd__I_V rfl) rfl (Nat.le_refl _) (Jvm.hb hby at_223) (by decide) (by decide)
    have N281 := Fr.app N279 Nq281
    have K281 : Keep h0 T281.heap [] := K272.trans Kq281 (allS (Or.inr sz_q) (allS (Or.inr sz_A) (allS (Or.inr sz_B) (all0))))
    have pre282 := fun (τ : State) kt => pre280 τ (by
      refine XS.istore X279.here hx rfl (Jvm.hb hby at_218) rfl (l' := (own_LA1 p1 p2 p3 p4 p5 nn j0 j1 j2 jb q (.val (.int j0)) (.val (.int (-100 : Int32))) (.val (.int (-100 : Int32))) (.val (.int (1 : Int32))) (.val (.int (1 : Int32))) .unset)) rfl ?_
      refine XS.aload X279.here hx rfl (Jvm.hb hby at_220) rfl rfl ?_
      refine XS.iconst X279.here hx rfl (Jvm.hb hby at_222) ?_
      exact st281 τ kt)
    have f283 := f274.keep Kq281
    obtain ⟨_, T284, L284, X284, ⟨rfl, Nq284, eq284⟩, st284⟩ := own_virt (y := own_mn3) (b := q) X281 hx hZ hown (own_W24 hw) (own_W25 hw) (own_W27 hw) (own_W26 hw) (by decide) (rmMax_23 l Z a0 hw [] q A B kA kB (0 : Int32) (0 : Int32) (0 : Int32) (0 : UInt64) (0 : UInt64) (FP.i2d j0) T281.heap n0 (Nat.le_trans Z0 K281.1) f283 f1_281 f2_281 f3_281 f4_281 f5_281 f6_281 naA naB nAB g_q gA gB) (own_W28 hw) (own_W2 hw) 0 (by decide) (by decide) f283 rfl (mkF m 228 (own_LA1 p1 p2 p3 p4 p5 nn j0 j1 j2 jb q (.val (.int j0)) (.val (.int (-100 : Int32))) (.val (.int (-100 : Int32))) (.val (.int (1 : Int32))) (.val (.int (1 : Int32))) .unset) [(.ref q)]) rfl (by rw [hml]; rfl) [] [] rfl (lenOf own_pd___D rfl) rfl (Nat.le_refl _) (Jvm.hb hby at_228) (by decide) (by decide)
    have N284 := Fr.app N281 Nq284
    have pre285 := fun (τ : State) kt => pre282 τ (by
      refine XS.aload X281.here hx rfl (Jvm.hb hby at_226) rfl rfl ?_
      exact st284 τ kt)
    obtain ⟨_, T286, L286, X286, ⟨rfl, Nq286, eq286⟩, st286⟩ := own_stat (y := own_mn5) X284 hx hZ hown (own_W34 hw) (own_W35 hw) (by decide) (rmE2 l Z a0 hw [] (FP.i2d j0) j0 jb T281.heap n0 (Nat.le_trans Z0 K281.1) (own_ne100 (by (try simp only [own_max_int, own_m100]); omega)) (own_eq (by simp only [own_max_int, own_min_int, own_m100]; omega) _)) (own_W37 hw) (own_W36 hw) 0 (by decide) (by decide) eq284 (mkF m 235 (own_LA1 p1 p2 p3 p4 p5 nn j0 j1 j2 jb q (.val (.int j0)) (.val (.int (-100 : Int32))) (.val (.int (-100 : Int32))) (.val (.int (1 : Int32))) (.val (.int (1 : Int32))) .unset) [(.int jb), (.int j0), (.double (FP.i2d j0))]) rfl (by rw [hml]; rfl) [(.double (FP.i2d j0)), (.int j0), (.int jb)] [] rfl (lenOf own_pd__DII_Z rfl) rfl (Nat.le_refl _) (Jvm.hb hby at_235) (by decide) (by decide)
    have N286 := Fr.app N284 Nq286
    have pre287 := fun (τ : State) kt => pre285 τ (by
      refine XS.iload X284.here hx rfl (Jvm.hb hby at_231) rfl ?_
      refine XS.iload X284.here hx rfl (Jvm.hb hby at_233) rfl ?_
      exact st286 τ kt)
    have pre288 := fun (τ : State) kt => pre287 τ (by
      refine XS.istore X286.here hx rfl (Jvm.hb hby at_238) rfl (l' := (own_LA1 p1 p2 p3 p4 p5 nn j0 j1 j2 jb q (.val (.int j0)) (.val (.int (-100 : Int32))) (.val (.int (-100 : Int32))) (.val (.int (1 : Int32))) (.val (.int (1 : Int32))) (.val (.int (1 : Int32))))) rfl ?_
      refine XS.iload X286.here hx rfl (Jvm.hb hby at_240) rfl ?_
      refine XS.ifNo X286.here hx rfl (Jvm.hb hby at_242) rfl ((if0 _ _).trans (feq (by decide)).1) ?_
      refine XS.iload X286.here hx rfl (Jvm.hb hby at_245) rfl ?_
      refine XS.ifNo X286.here hx rfl (Jvm.hb hby at_247) rfl ((if0 _ _).trans (feq (by decide)).1) ?_
      refine XS.iload X286.here hx rfl (Jvm.hb hby at_250) rfl ?_
      refine XS.ifNo X286.here hx rfl (Jvm.hb hby at_252) rfl ((if0 _ _).trans (feq (by decide)).1) ?_
      refine XS.iconst X286.here hx rfl (Jvm.hb hby at_255) ?_
      refine XS.goto X286.here hx rfl (pc0 := 256) (pc' := 260) rfl (Jvm.hb hby at_256) (by decide) (by decide) ?_
      exact kt)
    obtain ⟨fs, hrL, hrun, hended, hW, hsame⟩ := X286.leave (v := some (.int (1 : Int32))) (fun h => by rw [Bd.returns] at h; cases h)
    refine ⟨_, _, cast (congrFun hPS _) (pre288 _ ?_), hrun, hended, _, _, rfl, ?_, ⟨_, rfl⟩, hW, hsame.mono (by decide) (by decide)⟩
    · show Steps p.tables e below (T286.setTop (mkF m 260 (own_LA1 p1 p2 p3 p4 p5 nn j0 j1 j2 jb q (.val (.int j0)) (.val (.int (-100 : Int32))) (.val (.int (-100 : Int32))) (.val (.int (1 : Int32))) (.val (.int (1 : Int32))) (.val (.int (1 : Int32)))) [(.int (1 : Int32))])) _
      exact retN X286 hx (t := .boolean) Bd.returns (by simp) (Jvm.hb hby at_260) hrL
    · show Q0 n0 _ T286.heap _
      exact ⟨rfl, N286⟩
  by_cases n3 : nn < (3 : Int32)
  · skip
    have pre289 := fun (τ : State) kt => pre59 τ (by
      refine XS.icmpNo X0.here hx rfl (Jvm.hb hby at_8) rfl (flt fun z => n2 (own_lt_up z (by decide))).1 ?_
      refine XS.iconst X0.here hx rfl (Jvm.hb hby at_11) ?_
      refine XS.goto X0.here hx rfl (pc0 := 12) (pc' := 16) rfl (Jvm.hb hby at_12) (by decide) (by decide) ?_
      refine XS.istore X0.here hx rfl (Jvm.hb hby at_16) rfl (l' := #[.val (.int p1), .val (.int p2), .val (.int p3), .val (.int p4), .val (.int p5), .val (.int nn), .val (.int (1 : Int32)), .unset, .unset, .unset, .unset, .unset, .unset, .unset, .unset, .unset, .unset, .unset, .unset, .unset]) rfl ?_
      refine XS.iload X0.here hx rfl (Jvm.hb hby at_18) rfl ?_
      refine XS.iconst X0.here hx rfl (Jvm.hb hby at_20) ?_
      refine XS.icmpNo X0.here hx rfl (Jvm.hb hby at_21) rfl (flt n2).1 ?_
      refine XS.iconst X0.here hx rfl (Jvm.hb hby at_24) ?_
      refine XS.goto X0.here hx rfl (pc0 := 25) (pc' := 29) rfl (Jvm.hb hby at_25) (by decide) (by decide) ?_
      refine XS.istore X0.here hx rfl (Jvm.hb hby at_29) rfl (l' := #[.val (.int p1), .val (.int p2), .val (.int p3), .val (.int p4), .val (.int p5), .val (.int nn), .val (.int (1 : Int32)), .val (.int (1 : Int32)), .unset, .unset, .unset, .unset, .unset, .unset, .unset, .unset, .unset, .unset, .unset, .unset]) rfl ?_
      refine XS.iload X0.here hx rfl (Jvm.hb hby at_31) rfl ?_
      refine XS.iconst X0.here hx rfl (Jvm.hb hby at_33) ?_
      refine XS.icmpYes X0.here hx rfl (pc0 := 34) (pc' := 41) rfl (Jvm.hb hby at_34) rfl (tlt n3).1 (by decide) (by decide) ?_
      refine XS.iconst X0.here hx rfl (Jvm.hb hby at_41) ?_
      refine XS.istore X0.here hx rfl (Jvm.hb hby at_42) rfl (l' := #[.val (.int p1), .val (.int p2), .val (.int p3), .val (.int p4), .val (.int p5), .val (.int nn), .val (.int (1 : Int32)), .val (.int (1 : Int32)), .val (.int (0 : Int32)), .unset, .unset, .unset, .unset, .unset, .unset, .unset, .unset, .unset, .unset, .unset]) rfl ?_
      refine XS.iloadN X0.here hx rfl (Jvm.hb hby at_44) rfl ?_
      refine XS.bipush X0.here hx rfl (Jvm.hb hby at_45) ?_
      refine iremM X0 hx rfl (Jvm.hb hby at_47) rfl (by decide) ?_
      refine XS.istore X0.here hx rfl (Jvm.hb hby at_48) rfl (l' := #[.val (.int p1), .val (.int p2), .val (.int p3), .val (.int p4), .val (.int p5), .val (.int nn), .val (.int (1 : Int32)), .val (.int (1 : Int32)), .val (.int (0 : Int32)), .val (.int (p2 % (9 : Int32))), .unset, .unset, .unset, .unset, .unset, .unset, .unset, .unset, .unset, .unset]) rfl ?_
      refine XS.iloadN X0.here hx rfl (Jvm.hb hby at_50) rfl ?_
      refine XS.bipush X0.here hx rfl (Jvm.hb hby at_51) ?_
      refine iremM X0 hx rfl (Jvm.hb hby at_53) rfl (by decide) ?_
      refine XS.istore X0.here hx rfl (Jvm.hb hby at_54) rfl (l' := #[.val (.int p1), .val (.int p2), .val (.int p3), .val (.int p4), .val (.int p5), .val (.int nn), .val (.int (1 : Int32)), .val (.int (1 : Int32)), .val (.int (0 : Int32)), .val (.int (p2 % (9 : Int32))), .val (.int (p3 % (9 : Int32))), .unset, .unset, .unset, .unset, .unset, .unset, .unset, .unset, .unset]) rfl ?_
      refine XS.iloadN X0.here hx rfl (Jvm.hb hby at_56) rfl ?_
      refine XS.bipush X0.here hx rfl (Jvm.hb hby at_57) ?_
      refine iremM X0 hx rfl (Jvm.hb hby at_59) rfl (by decide) ?_
      refine XS.istore X0.here hx rfl (Jvm.hb hby at_60) rfl (l' := #[.val (.int p1), .val (.int p2), .val (.int p3), .val (.int p4), .val (.int p5), .val (.int nn), .val (.int (1 : Int32)), .val (.int (1 : Int32)), .val (.int (0 : Int32)), .val (.int (p2 % (9 : Int32))), .val (.int (p3 % (9 : Int32))), .val (.int (p4 % (9 : Int32))), .unset, .unset, .unset, .unset, .unset, .unset, .unset, .unset]) rfl ?_
      refine XS.iload X0.here hx rfl (Jvm.hb hby at_62) rfl ?_
      refine XS.bipush X0.here hx rfl (Jvm.hb hby at_64) ?_
      refine iremM X0 hx rfl (Jvm.hb hby at_66) rfl (by decide) ?_
      refine XS.istore X0.here hx rfl (Jvm.hb hby at_67) rfl (l' := #[.val (.int p1), .val (.int p2), .val (.int p3), .val (.int p4), .val (.int p5), .val (.int nn), .val (.int (1 : Int32)), .val (.int (1 : Int32)), .val (.int (0 : Int32)), .val (.int (p2 % (9 : Int32))), .val (.int (p3 % (9 : Int32))), .val (.int (p4 % (9 : Int32))), .val (.int (p5 % (9 : Int32))), .unset, .unset, .unset, .unset, .unset, .unset, .unset]) rfl ?_
      exact kt)
    obtain ⟨j0, e_j0⟩ : ∃ z : Int32, z = (p2 % (9 : Int32)) := ⟨_, rfl⟩
    have pre290 : ∀ τ, Steps p.tables e below (s₁.setTop (mkF m 69 #[.val (.int p1), .val (.int p2), .val (.int p3), .val (.int p4), .val (.int p5), .val (.int nn), .val (.int (1 : Int32)), .val (.int (1 : Int32)), .val (.int (0 : Int32)), .val (.int j0), .val (.int (p3 % (9 : Int32))), .val (.int (p4 % (9 : Int32))), .val (.int (p5 % (9 : Int32))), .unset, .unset, .unset, .unset, .unset, .unset, .unset] [])) τ → PS τ := by rw [e_j0]; exact pre289
    have r_j0 := own_rem9 p2
    rw [← e_j0] at r_j0
    obtain ⟨j1, e_j1⟩ : ∃ z : Int32, z = (p3 % (9 : Int32)) := ⟨_, rfl⟩
    have pre291 : ∀ τ, Steps p.tables e below (s₁.setTop (mkF m 69 #[.val (.int p1), .val (.int p2), .val (.int p3), .val (.int p4), .val (.int p5), .val (.int nn), .val (.int (1 : Int32)), .val (.int (1 : Int32)), .val (.int (0 : Int32)), .val (.int j0), .val (.int j1), .val (.int (p4 % (9 : Int32))), .val (.int (p5 % (9 : Int32))), .unset, .unset, .unset, .unset, .unset, .unset, .unset] [])) τ → PS τ := by rw [e_j1]; exact pre290
    have r_j1 := own_rem9 p3
    rw [← e_j1] at r_j1
    obtain ⟨j2, e_j2⟩ : ∃ z : Int32, z = (p4 % (9 : Int32)) := ⟨_, rfl⟩
    have pre292 : ∀ τ, Steps p.tables e below (s₁.setTop (mkF m 69 #[.val (.int p1), .val (.int p2), .val (.int p3), .val (.int p4), .val (.int p5), .val (.int nn), .val (.int (1 : Int32)), .val (.int (1 : Int32)), .val (.int (0 : Int32)), .val (.int j0), .val (.int j1), .val (.int j2), .val (.int (p5 % (9 : Int32))), .unset, .unset, .unset, .unset, .unset, .unset, .unset] [])) τ → PS τ := by rw [e_j2]; exact pre291
    have r_j2 := own_rem9 p4
    rw [← e_j2] at r_j2
    obtain ⟨jb, e_jb⟩ : ∃ z : Int32, z = (p5 % (9 : Int32)) := ⟨_, rfl⟩
    have pre293 : ∀ τ, Steps p.tables e below (s₁.setTop (mkF m 69 #[.val (.int p1), .val (.int p2), .val (.int p3), .val (.int p4), .val (.int p5), .val (.int nn), .val (.int (1 : Int32)), .val (.int (1 : Int32)), .val (.int (0 : Int32)), .val (.int j0), .val (.int j1), .val (.int j2), .val (.int jb), .unset, .unset, .unset, .unset, .unset, .unset, .unset] [])) τ → PS τ := by rw [e_jb]; exact pre292
    have r_jb := own_rem9 p5
    rw [← e_jb] at r_jb
    obtain ⟨T294, h294, X294, e294, E294, A294, D294, -, st294⟩ := newO X0 hx hZ hown (own_W0 hw) (own_W1 hw) (own_W2 hw) e0 (g := (mkF m 69 #[.val (.int p1), .val (.int p2), .val (.int p3), .val (.int p4), .val (.int p5), .val (.int nn), .val (.int (1 : Int32)), .val (.int (1 : Int32)), .val (.int (0 : Int32)), .val (.int j0), .val (.int j1), .val (.int j2), .val (.int jb), .unset, .unset, .unset, .unset, .unset, .unset, .unset] [])) rfl (Jvm.hb hby at_69) (by decide) (by decide)
    obtain ⟨q, g294⟩ : ∃ z, z = h0.size := ⟨_, rfl⟩
    rw [← g294] at A294 D294 st294
    have g_q : n0 ≤ q := Nat.le_trans (Nat.le_trans Z0 KK0.1) (Nat.le_of_eq g294.symm)
    have sz_q : h0.size ≤ q := Nat.le_trans KK0.1 (Nat.le_of_eq g294.symm)
    have K294 : Keep h0 h294 [] := KK0.ext E294
    have F_samples_q : Fld Z h294 q "com/example/counterpath/counterpath/core/CappedMaximum" "samples" "[I" .null := D294 (Or.inr (own_W11 hw)) (ty := (.array .int)) (by decide)
    have F_values_q : Fld Z h294 q "com/example/counterpath/counterpath/core/CappedMaximum" "values" "[D" .null := D294 (Or.inr (own_W14 hw)) (ty := (.array .double)) (by decide)
    have F_head_q : Fld Z h294 q "com/example/counterpath/counterpath/core/CappedMaximum" "head" "I" (.int (0 : Int32)) := D294 (Or.inl (own_W16 hw)) (ty := .int) (by decide)
    have F_tail_q : Fld Z h294 q "com/example/counterpath/counterpath/core/CappedMaximum" "tail" "I" (.int (0 : Int32)) := D294 (Or.inl (own_W18 hw)) (ty := .int) (by decide)
    have pre295 := fun (τ : State) kt => pre293 τ (st294 τ kt)
    obtain ⟨_, T296, L296, X296, ⟨rfl, Nq296, Kq296, A, B, kA, kB, gA, gB, zA, zB, naA, naB, nAB, f1_296, f2_296, f3_296, f4_296, f5_296, f6_296⟩, st296⟩ := own_spec (y := own_mn1) (b := q) X294 hx hZ rfl hown (own_W3 hw) (own_W4 hw) (by decide) (rmI l Z a0 hw [] q (3 : Int32) h294 n0 (Nat.le_trans Z0 K294.1) rfl A294 F_samples_q F_values_q F_head_q F_tail_q g_q) (own_W5 hw) (own_W2 hw) 1 (by decide) (by decide) e294 (mkF m 74 #[.val (.int p1), .val (.int p2), .val (.int p3), .val (.int p4), .val (.int p5), .val (.int nn), .val (.int (1 : Int32)), .val (.int (1 : Int32)), .val (.int (0 : Int32)), .val (.int j0), .val (.int j1), .val (.int j2), .val (.int jb), .unset, .unset, .unset, .unset, .unset, .unset, .unset] [(.int (3 : Int32)), (.ref q), (.ref q)]) rfl (by rw [hml]; rfl) [(.int (3 : Int32))] [(.ref q)] rfl (lenOf own_pd__I_V rfl) rfl (Nat.le_refl _) (Jvm.hb hby at_74) (by decide) (by decide)
    have N296 := Fr.app N0 Nq296
    have K296 : Keep h0 T296.heap [] := K294.trans Kq296 (allS (Or.inr sz_q) (all0))
    have pre297 := fun (τ : State) kt => pre295 τ (by
      refine XS.dup X294.here hx rfl (Jvm.hb hby at_72) rfl rfl ?_
      refine XS.iconst X294.here hx rfl (Jvm.hb hby at_73) ?_
      exact st296 τ kt)
    have sz_A : h0.size ≤ A := Nat.le_trans K294.1 zA
    have sz_B : h0.size ≤ B := Nat.le_trans K294.1 zB
    have pre298 := fun (τ : State) kt => pre297 τ (by
      refine XS.astore X296.here hx rfl (Jvm.hb hby at_77) rfl rfl (l' := #[.val (.int p1), .val (.int p2), .val (.int p3), .val (.int p4), .val (.int p5), .val (.int nn), .val (.int (1 : Int32)), .val (.int (1 : Int32)), .val (.int (0 : Int32)), .val (.int j0), .val (.int j1), .val (.int j2), .val (.int jb), .val (.ref q), .unset, .unset, .unset, .unset, .unset, .unset]) rfl ?_
      refine XS.iload X296.here hx rfl (Jvm.hb hby at_79) rfl ?_
      exact kt)
    have pre299 := fun (τ : State) kt => pre298 τ (by
      refine XS.ifYes X296.here hx rfl (pc0 := 81) (pc' := 93) rfl (Jvm.hb hby at_81) rfl ((if0 _ _).trans (teq (by decide)).1) (by decide) (by decide) ?_
      refine XS.iload X296.here hx rfl (Jvm.hb hby at_93) rfl ?_
      refine XS.ifNo X296.here hx rfl (Jvm.hb hby at_95) rfl ((if0 _ _).trans (feq (by decide)).1) ?_
      refine XS.aload X296.here hx rfl (Jvm.hb hby at_98) rfl rfl ?_
      refine XS.iconst X296.here hx rfl (Jvm.hb hby at_100) ?_
      refine XS.iload X296.here hx rfl (Jvm.hb hby at_101) rfl ?_
      refine own_i2d X296.here hx rfl (Jvm.hb hby at_103) rfl ?_
      exact kt)
    have f300 := A294.keep Kq296
    obtain ⟨_, T301, L301, X301, ⟨rfl, Nq301, Kq301, f1_301, f2_301, f3_301, f4_301, f5_301, f6_301⟩, st301⟩ := own_virt (y := own_mn7) (b := q) X296 hx hZ hown (own_W44 hw) (own_W45 hw) (own_W47 hw) (own_W46 hw) (by decide) (rmAdd_33_e l Z a0 hw [] q (1 : Int32) (FP.i2d j1) A B kA kB (0 : Int32) (0 : Int32) (0 : Int32) (0 : UInt64) (0 : UInt64) (0 : UInt64) T296.heap n0 (Nat.le_trans Z0 K296.1) f300 f1_296 f2_296 f3_296 f4_296 f5_296 f6_296 naA naB nAB g_q gA gB ) (own_W48 hw) (own_W2 hw) 0 (by decide) (by decide) f300 rfl (mkF m 104 (own_LA2 p1 p2 p3 p4 p5 nn j0 j1 j2 jb q .unset .unset .unset .unset .unset .unset) [(.double (FP.i2d j1)), (.int (1 : Int32)), (.ref q)]) rfl (by rw [hml]; rfl) [(.int (1 : Int32)), (.double (FP.i2d j1))] [] rfl (lenOf own_pd__ID_V rfl) rfl (Nat.le_refl _) (Jvm.hb hby at_104) (by decide) (by decide)
    have N301 := Fr.app N296 Nq301
    have K301 : Keep h0 T301.heap [] := K296.trans Kq301 (allS (Or.inr sz_q) (allS (Or.inr sz_A) (allS (Or.inr sz_B) (all0))))
    have pre302 := fun (τ : State) kt => pre299 τ (st301 τ kt)
    have pre303 := fun (τ : State) kt => pre302 τ (by
      refine XS.iload X301.here hx rfl (Jvm.hb hby at_107) rfl ?_
      refine XS.ifNo X301.here hx rfl (Jvm.hb hby at_109) rfl ((if0 _ _).trans (feq (by decide)).1) ?_
      refine XS.aload X301.here hx rfl (Jvm.hb hby at_112) rfl rfl ?_
      refine XS.iconst X301.here hx rfl (Jvm.hb hby at_114) ?_
      refine XS.iload X301.here hx rfl (Jvm.hb hby at_115) rfl ?_
      refine own_i2d X301.here hx rfl (Jvm.hb hby at_117) rfl ?_
      exact kt)
    by_cases qa304 : j0.toInt < j1.toInt
    · skip
      have f347 := f300.keep Kq301
      obtain ⟨_, T348, L348, X348, ⟨rfl, Nq348, Kq348, f1_348, f2_348, f3_348, f4_348, f5_348, f6_348⟩, st348⟩ := own_virt (y := own_mn7) (b := q) X301 hx hZ hown (own_W44 hw) (own_W45 hw) (own_W47 hw) (own_W46 hw) (by decide) (rmAdd_23_x l Z a0 hw [] q (0 : Int32) (FP.i2d j0) A B kA kB (0 : Int32) (0 : Int32) (1 : Int32) (0 : UInt64) (0 : UInt64) (FP.i2d j1) T301.heap n0 (Nat.le_trans Z0 K301.1) f347 f1_301 f2_301 f3_301 f4_301 f5_301 f6_301 naA naB nAB g_q gA gB ((own_gt _ _ _).mpr qa304)) (own_W48 hw) (own_W2 hw) 0 (by decide) (by decide) f347 rfl (mkF m 118 (own_LA2 p1 p2 p3 p4 p5 nn j0 j1 j2 jb q .unset .unset .unset .unset .unset .unset) [(.double (FP.i2d j0)), (.int (0 : Int32)), (.ref q)]) rfl (by rw [hml]; rfl) [(.int (0 : Int32)), (.double (FP.i2d j0))] [] rfl (lenOf own_pd__ID_V rfl) rfl (Nat.le_refl _) (Jvm.hb hby at_118) (by decide) (by decide)
      have N348 := Fr.app N301 Nq348
      have K348 : Keep h0 T348.heap [] := K301.trans Kq348 (allS (Or.inr sz_q) (allS (Or.inr sz_A) (allS (Or.inr sz_B) (all0))))
      have pre349 := fun (τ : State) kt => pre303 τ (st348 τ kt)
      have pre350 := fun (τ : State) kt => pre349 τ (by
        refine XS.aload X348.here hx rfl (Jvm.hb hby at_121) rfl rfl ?_
        refine XS.iload X348.here hx rfl (Jvm.hb hby at_123) rfl ?_
        refine own_i2d X348.here hx rfl (Jvm.hb hby at_125) rfl ?_
        exact kt)
      by_cases qc351 : j0.toInt < jb.toInt
      · skip
        by_cases qb352 : jb.toInt < j1.toInt
        · skip
          have f383 := f347.keep Kq348
          obtain ⟨_, T384, L384, X384, ⟨rfl, Nq384, Kq384, f1_384, f2_384, f3_384, f4_384, f5_384, f6_384⟩, st384⟩ := own_virt (y := own_mn2) (b := q) X348 hx hZ hown (own_W19 hw) (own_W20 hw) (own_W22 hw) (own_W21 hw) (by decide) (rmCap_13_xs l Z a0 hw [] q (FP.i2d jb) A B kA kB (0 : Int32) (0 : Int32) (1 : Int32) (0 : UInt64) (FP.i2d j0) (FP.i2d j1) T348.heap n0 (Nat.le_trans Z0 K348.1) f383 f1_348 f2_348 f3_348 f4_348 f5_348 f6_348 naA naB nAB g_q gA gB ((own_lt _ _ _).mpr qc351) ((own_gt _ _ _).mpr qb352)) (own_W23 hw) (own_W2 hw) 0 (by decide) (by decide) f383 rfl (mkF m 126 (own_LA2 p1 p2 p3 p4 p5 nn j0 j1 j2 jb q .unset .unset .unset .unset .unset .unset) [(.double (FP.i2d jb)), (.ref q)]) rfl (by rw [hml]; rfl) [(.double (FP.i2d jb))] [] rfl (lenOf own_pd__D_V rfl) rfl (Nat.le_refl _) (Jvm.hb hby at_126) (by decide) (by decide)
          have N384 := Fr.app N348 Nq384
          have K384 : Keep h0 T384.heap [] := K348.trans Kq384 (allS (Or.inr sz_q) (allS (Or.inr sz_A) (allS (Or.inr sz_B) (all0))))
          have pre385 := fun (τ : State) kt => pre350 τ (st384 τ kt)
          have f396 := f383.keep Kq384
          obtain ⟨_, T397, L397, X397, ⟨rfl, Nq397, eq397⟩, st397⟩ := own_virt (y := own_mn3) (b := q) X384 hx hZ hown (own_W24 hw) (own_W25 hw) (own_W27 hw) (own_W26 hw) (by decide) (rmMax_13 l Z a0 hw [] q A B kA kB (0 : Int32) (0 : Int32) (1 : Int32) (0 : UInt64) (FP.i2d j0) (FP.i2d jb) T384.heap n0 (Nat.le_trans Z0 K384.1) f396 f1_384 f2_384 f3_384 f4_384 f5_384 f6_384 naA naB nAB g_q gA gB) (own_W28 hw) (own_W2 hw) 0 (by decide) (by decide) f396 rfl (mkF m 173 (own_LA2 p1 p2 p3 p4 p5 nn j0 j1 j2 jb q (.val (.int j0)) (.val (.int j1)) (.val (.int (-100 : Int32))) .unset .unset .unset) [(.ref q)]) rfl (by rw [hml]; rfl) [] [] rfl (lenOf own_pd___D rfl) rfl (Nat.le_refl _) (Jvm.hb hby at_173) (by decide) (by decide)
          have N397 := Fr.app N384 Nq397
          have pre398 := fun (τ : State) kt => pre385 τ (by
            refine XS.iload X384.here hx rfl (Jvm.hb hby at_129) rfl ?_
            refine XS.ifNo X384.here hx rfl (Jvm.hb hby at_131) rfl ((if0 _ _).trans (feq (by decide)).1) ?_
            refine XS.iload X384.here hx rfl (Jvm.hb hby at_134) rfl ?_
            refine XS.goto X384.here hx rfl (pc0 := 136) (pc' := 141) rfl (Jvm.hb hby at_136) (by decide) (by decide) ?_
            refine XS.istore X384.here hx rfl (Jvm.hb hby at_141) rfl (l' := (own_LA2 p1 p2 p3 p4 p5 nn j0 j1 j2 jb q (.val (.int j0)) .unset .unset .unset .unset .unset)) rfl ?_
            refine XS.iload X384.here hx rfl (Jvm.hb hby at_143) rfl ?_
            refine XS.ifNo X384.here hx rfl (Jvm.hb hby at_145) rfl ((if0 _ _).trans (feq (by decide)).1) ?_
            refine XS.iload X384.here hx rfl (Jvm.hb hby at_148) rfl ?_
            refine XS.goto X384.here hx rfl (pc0 := 150) (pc' := 155) rfl (Jvm.hb hby at_150) (by decide) (by decide) ?_
            refine XS.istore X384.here hx rfl (Jvm.hb hby at_155) rfl (l' := (own_LA2 p1 p2 p3 p4 p5 nn j0 j1 j2 jb q (.val (.int j0)) (.val (.int j1)) .unset .unset .unset .unset)) rfl ?_
            refine XS.iload X384.here hx rfl (Jvm.hb hby at_157) rfl ?_
            refine XS.ifYes X384.here hx rfl (pc0 := 159) (pc' := 167) rfl (Jvm.hb hby at_159) rfl ((if0 _ _).trans (teq (by decide)).1) (by decide) (by decide) ?_
            refine XS.bipush X384.here hx rfl (Jvm.hb hby at_167) ?_
            refine XS.istore X384.here hx rfl (Jvm.hb hby at_169) rfl (l' := (own_LA2 p1 p2 p3 p4 p5 nn j0 j1 j2 jb q (.val (.int j0)) (.val (.int j1)) (.val (.int (-100 : Int32))) .unset .unset .unset)) rfl ?_
            refine XS.aload X384.here hx rfl (Jvm.hb hby at_171) rfl rfl ?_
            exact st397 τ kt)
          obtain ⟨_, T399, L399, X399, ⟨rfl, Nq399, eq399⟩, st399⟩ := own_stat (y := own_mn4) X397 hx hZ hown (own_W30 hw) (own_W31 hw) (by decide) (rm_max l Z a0 hw [] j1 (-100 : Int32) T384.heap n0 (Nat.le_trans Z0 K384.1)) (own_W33 hw) (own_W32 hw) 3 (by decide) (by decide) eq397 (mkF m 182 (own_LA2 p1 p2 p3 p4 p5 nn j0 j1 j2 jb q (.val (.int j0)) (.val (.int j1)) (.val (.int (-100 : Int32))) .unset .unset .unset) [(.int (-100 : Int32)), (.int j1), (.int j0), (.double (FP.i2d jb))]) rfl (by rw [hml]; rfl) [(.int j1), (.int (-100 : Int32))] [(.int j0), (.double (FP.i2d jb))] rfl (lenOf own_pd__II_I rfl) rfl (Nat.le_refl _) (Jvm.hb hby at_182) (by decide) (by decide)
          have N399 := Fr.app N397 Nq399
          have pre400 := fun (τ : State) kt => pre398 τ (by
            refine XS.iload X397.here hx rfl (Jvm.hb hby at_176) rfl ?_
            refine XS.iload X397.here hx rfl (Jvm.hb hby at_178) rfl ?_
            refine XS.iload X397.here hx rfl (Jvm.hb hby at_180) rfl ?_
            exact st399 τ kt)
          obtain ⟨_, T401, L401, X401, ⟨rfl, Nq401, eq401⟩, st401⟩ := own_stat (y := own_mn4) X399 hx hZ hown (own_W30 hw) (own_W31 hw) (by decide) (rm_max l Z a0 hw [] j0 (own_max j1 (-100 : Int32)) T384.heap n0 (Nat.le_trans Z0 K384.1)) (own_W33 hw) (own_W32 hw) 2 (by decide) (by decide) eq399 (mkF m 185 (own_LA2 p1 p2 p3 p4 p5 nn j0 j1 j2 jb q (.val (.int j0)) (.val (.int j1)) (.val (.int (-100 : Int32))) .unset .unset .unset) [(.int (own_max j1 (-100 : Int32))), (.int j0), (.double (FP.i2d jb))]) rfl (by rw [hml]; rfl) [(.int j0), (.int (own_max j1 (-100 : Int32)))] [(.double (FP.i2d jb))] rfl (lenOf own_pd__II_I rfl) rfl (Nat.le_refl _) (Jvm.hb hby at_185) (by decide) (by decide)
          have N401 := Fr.app N399 Nq401
          have pre402 := fun (τ : State) kt => pre400 τ (st401 τ kt)
          obtain ⟨_, T403, L403, X403, ⟨rfl, Nq403, eq403⟩, st403⟩ := own_stat (y := own_mn5) X401 hx hZ hown (own_W34 hw) (own_W35 hw) (by decide) (rmE2 l Z a0 hw [] (FP.i2d jb) (own_max j0 (own_max j1 (-100 : Int32))) jb T384.heap n0 (Nat.le_trans Z0 K384.1) (own_ne100 (by (try simp only [own_max_int, own_m100]); omega)) (own_eq (by simp only [own_max_int, own_min_int, own_m100]; omega) _)) (own_W37 hw) (own_W36 hw) 0 (by decide) (by decide) eq401 (mkF m 190 (own_LA2 p1 p2 p3 p4 p5 nn j0 j1 j2 jb q (.val (.int j0)) (.val (.int j1)) (.val (.int (-100 : Int32))) .unset .unset .unset) [(.int jb), (.int (own_max j0 (own_max j1 (-100 : Int32)))), (.double (FP.i2d jb))]) rfl (by rw [hml]; rfl) [(.double (FP.i2d jb)), (.int (own_max j0 (own_max j1 (-100 : Int32)))), (.int jb)] [] rfl (lenOf own_pd__DII_Z rfl) rfl (Nat.le_refl _) (Jvm.hb hby at_190) (by decide) (by decide)
          have N403 := Fr.app N401 Nq403
          have pre404 := fun (τ : State) kt => pre402 τ (by
            refine XS.iload X401.here hx rfl (Jvm.hb hby at_188) rfl ?_
            exact st403 τ kt)
          obtain ⟨_, T415, L415, X415, ⟨rfl, Nq415, Kq415, f1_415, f2_415, f3_415, f4_415, f5_415, f6_415⟩, st415⟩ := own_virt (y := own_mn6) (b := q) X403 hx hZ hown (own_W39 hw) (own_W40 hw) (own_W42 hw) (own_W41 hw) (by decide) (rmRem_13_x l Z a0 hw [] q (1 : Int32) A B kA kB (0 : Int32) (0 : Int32) (1 : Int32) (0 : UInt64) (FP.i2d j0) (FP.i2d jb) T384.heap n0 (Nat.le_trans Z0 K384.1) f396 f1_384 f2_384 f3_384 f4_384 f5_384 f6_384 naA naB nAB g_q gA gB (by decide)) (own_W43 hw) (own_W2 hw) 0 (by decide) (by decide) f396 eq403 (mkF m 198 (own_LA2 p1 p2 p3 p4 p5 nn j0 j1 j2 jb q (.val (.int j0)) (.val (.int j1)) (.val (.int (-100 : Int32))) (.val (.int (1 : Int32))) .unset .unset) [(.int (1 : Int32)), (.ref q)]) rfl (by rw [hml]; rfl) [(.int (1 : Int32))] [] rfl (lenOf own_pd__I_V rfl) rfl (Nat.le_refl _) (Jvm.hb hby at_198) (by decide) (by decide)
          have N415 := Fr.app N403 Nq415
          have K415 : Keep h0 T415.heap [] := K384.trans Kq415 (allS (Or.inr sz_q) (allS (Or.inr sz_A) (allS (Or.inr sz_B) (all0))))
          have pre416 := fun (τ : State) kt => pre404 τ (by
            refine XS.istore X403.here hx rfl (Jvm.hb hby at_193) rfl (l' := (own_LA2 p1 p2 p3 p4 p5 nn j0 j1 j2 jb q (.val (.int j0)) (.val (.int j1)) (.val (.int (-100 : Int32))) (.val (.int (1 : Int32))) .unset .unset)) rfl ?_
            refine XS.aload X403.here hx rfl (Jvm.hb hby at_195) rfl rfl ?_
            refine XS.iconst X403.here hx rfl (Jvm.hb hby at_197) ?_
            exact st415 τ kt)
          have f417 := f396.keep Kq415
          obtain ⟨_, T418, L418, X418, ⟨rfl, Nq418, eq418⟩, st418⟩ := own_virt (y := own_mn3) (b := q) X415 hx hZ hown (own_W24 hw) (own_W25 hw) (own_W27 hw) (own_W26 hw) (by decide) (rmMax_13 l Z a0 hw [] q A B kA kB (0 : Int32) (0 : Int32) (1 : Int32) (0 : UInt64) (FP.i2d j0) (FP.i2d jb) T415.heap n0 (Nat.le_trans Z0 K415.1) f417 f1_415 f2_415 f3_415 f4_415 f5_415 f6_415 naA naB nAB g_q gA gB) (own_W28 hw) (own_W2 hw) 0 (by decide) (by decide) f417 rfl (mkF m 203 (own_LA2 p1 p2 p3 p4 p5 nn j0 j1 j2 jb q (.val (.int j0)) (.val (.int j1)) (.val (.int (-100 : Int32))) (.val (.int (1 : Int32))) .unset .unset) [(.ref q)]) rfl (by rw [hml]; rfl) [] [] rfl (lenOf own_pd___D rfl) rfl (Nat.le_refl _) (Jvm.hb hby at_203) (by decide) (by decide)
          have N418 := Fr.app N415 Nq418
          have pre419 := fun (τ : State) kt => pre416 τ (by
            refine XS.aload X415.here hx rfl (Jvm.hb hby at_201) rfl rfl ?_
            exact st418 τ kt)
          obtain ⟨_, T420, L420, X420, ⟨rfl, Nq420, eq420⟩, st420⟩ := own_stat (y := own_mn4) X418 hx hZ hown (own_W30 hw) (own_W31 hw) (by decide) (rm_max l Z a0 hw [] j0 j1 T415.heap n0 (Nat.le_trans Z0 K415.1)) (own_W33 hw) (own_W32 hw) 2 (by decide) (by decide) eq418 (mkF m 210 (own_LA2 p1 p2 p3 p4 p5 nn j0 j1 j2 jb q (.val (.int j0)) (.val (.int j1)) (.val (.int (-100 : Int32))) (.val (.int (1 : Int32))) .unset .unset) [(.int j1), (.int j0), (.double (FP.i2d jb))]) rfl (by rw [hml]; rfl) [(.int j0), (.int j1)] [(.double (FP.i2d jb))] rfl (lenOf own_pd__II_I rfl) rfl (Nat.le_refl _) (Jvm.hb hby at_210) (by decide) (by decide)
          have N420 := Fr.app N418 Nq420
          have pre421 := fun (τ : State) kt => pre419 τ (by
            refine XS.iload X418.here hx rfl (Jvm.hb hby at_206) rfl ?_
            refine XS.iload X418.here hx rfl (Jvm.hb hby at_208) rfl ?_
            exact st420 τ kt)
          obtain ⟨_, T422, L422, X422, ⟨rfl, Nq422, eq422⟩, st422⟩ := own_stat (y := own_mn5) X420 hx hZ hown (own_W34 hw) (own_W35 hw) (by decide) (rmE2 l Z a0 hw [] (FP.i2d jb) (own_max j0 j1) jb T415.heap n0 (Nat.le_trans Z0 K415.1) (own_ne100 (by (try simp only [own_max_int, own_m100]); omega)) (own_eq (by simp only [own_max_int, own_min_int, own_m100]; omega) _)) (own_W37 hw) (own_W36 hw) 0 (by decide) (by decide) eq420 (mkF m 215 (own_LA2 p1 p2 p3 p4 p5 nn j0 j1 j2 jb q (.val (.int j0)) (.val (.int j1)) (.val (.int (-100 : Int32))) (.val (.int (1 : Int32))) .unset .unset) [(.int jb), (.int (own_max j0 j1)), (.double (FP.i2d jb))]) rfl (by rw [hml]; rfl) [(.double (FP.i2d jb)), (.int (own_max j0 j1)), (.int jb)] [] rfl (lenOf own_pd__DII_Z rfl) rfl (Nat.le_refl _) (Jvm.hb hby at_215) (by decide) (by decide)
          have N422 := Fr.app N420 Nq422
          have pre423 := fun (τ : State) kt => pre421 τ (by
            refine XS.iload X420.here hx rfl (Jvm.hb hby at_213) rfl ?_
            exact st422 τ kt)
          obtain ⟨_, T452, L452, X452, ⟨rfl, Nq452, Kq452, f1_452, f2_452, f3_452, f4_452, f5_452, f6_452⟩, st452⟩ := own_virt (y := own_mn6) (b := q) X422 hx hZ hown (own_W39 hw) (own_W40 hw) (own_W42 hw) (own_W41 hw) (by decide) (rmRem_13_cx l Z a0 hw [] q (0 : Int32) A B kA kB (0 : Int32) (0 : Int32) (1 : Int32) (0 : UInt64) (FP.i2d j0) (FP.i2d jb) T415.heap n0 (Nat.le_trans Z0 K415.1) f417 f1_415 f2_415 f3_415 f4_415 f5_415 f6_415 naA naB nAB g_q gA gB (by decide) (by decide)) (own_W43 hw) (own_W2 hw) 0 (by decide) (by decide) f417 eq422 (mkF m 223 (own_LA2 p1 p2 p3 p4 p5 nn j0 j1 j2 jb q (.val (.int j0)) (.val (.int j1)) (.val (.int (-100 : Int32))) (.val (.int (1 : Int32))) (.val (.int (1 : Int32))) .unset) [(.int (0 : Int32)), (.ref q)]) rfl (by rw [hml]; rfl) [(.int (0 : Int32))] [] rfl (lenOf own_pd__I_V rfl) rfl (Nat.le_refl _) (Jvm.hb hby at_223) (by decide) (by decide)
          have N452 := Fr.app N422 Nq452
          have K452 : Keep h0 T452.heap [] := K415.trans Kq452 (allS (Or.inr sz_q) (allS (Or.inr sz_A) (allS (Or.inr sz_B) (all0))))
          have pre453 := fun (τ : State) kt => pre423 τ (by
            refine XS.istore X422.here hx rfl (Jvm.hb hby at_218) rfl (l' := (own_LA2 p1 p2 p3 p4 p5 nn j0 j1 j2 jb q (.val (.int j0)) (.val (.int j1)) (.val (.int (-100 : Int32))) (.val (.int (1 : Int32))) (.val (.int (1 : Int32))) .unset)) rfl ?_
            refine XS.aload X422.here hx rfl (Jvm.hb hby at_220) rfl rfl ?_
            refine XS.iconst X422.here hx rfl (Jvm.hb hby at_222) ?_
            exact st452 τ kt)
          have f464 := f417.keep Kq452
          obtain ⟨_, T465, L465, X465, ⟨rfl, Nq465, eq465⟩, st465⟩ := own_virt (y := own_mn3) (b := q) X452 hx hZ hown (own_W24 hw) (own_W25 hw) (own_W27 hw) (own_W26 hw) (by decide) (rmMax_12 l Z a0 hw [] q A B kA kB (0 : Int32) (0 : Int32) (1 : Int32) (0 : UInt64) (FP.i2d j0) (FP.i2d jb) T452.heap n0 (Nat.le_trans Z0 K452.1) f464 f1_452 f2_452 f3_452 f4_452 f5_452 f6_452 naA naB nAB g_q gA gB) (own_W28 hw) (own_W2 hw) 0 (by decide) (by decide) f464 rfl (mkF m 228 (own_LA2 p1 p2 p3 p4 p5 nn j0 j1 j2 jb q (.val (.int j0)) (.val (.int j1)) (.val (.int (-100 : Int32))) (.val (.int (1 : Int32))) (.val (.int (1 : Int32))) .unset) [(.ref q)]) rfl (by rw [hml]; rfl) [] [] rfl (lenOf own_pd___D rfl) rfl (Nat.le_refl _) (Jvm.hb hby at_228) (by decide) (by decide)
          have N465 := Fr.app N452 Nq465
          have pre466 := fun (τ : State) kt => pre453 τ (by
            refine XS.aload X452.here hx rfl (Jvm.hb hby at_226) rfl rfl ?_
            exact st465 τ kt)
          obtain ⟨_, T467, L467, X467, ⟨rfl, Nq467, eq467⟩, st467⟩ := own_stat (y := own_mn5) X465 hx hZ hown (own_W34 hw) (own_W35 hw) (by decide) (rmE2 l Z a0 hw [] (FP.i2d j0) j0 jb T452.heap n0 (Nat.le_trans Z0 K452.1) (own_ne100 (by (try simp only [own_max_int, own_m100]); omega)) (own_eq (by simp only [own_max_int, own_min_int, own_m100]; omega) _)) (own_W37 hw) (own_W36 hw) 0 (by decide) (by decide) eq465 (mkF m 235 (own_LA2 p1 p2 p3 p4 p5 nn j0 j1 j2 jb q (.val (.int j0)) (.val (.int j1)) (.val (.int (-100 : Int32))) (.val (.int (1 : Int32))) (.val (.int (1 : Int32))) .unset) [(.int jb), (.int j0), (.double (FP.i2d j0))]) rfl (by rw [hml]; rfl) [(.double (FP.i2d j0)), (.int j0), (.int jb)] [] rfl (lenOf own_pd__DII_Z rfl) rfl (Nat.le_refl _) (Jvm.hb hby at_235) (by decide) (by decide)
          have N467 := Fr.app N465 Nq467
          have pre468 := fun (τ : State) kt => pre466 τ (by
            refine XS.iload X465.here hx rfl (Jvm.hb hby at_231) rfl ?_
            refine XS.iload X465.here hx rfl (Jvm.hb hby at_233) rfl ?_
            exact st467 τ kt)
          have pre469 := fun (τ : State) kt => pre468 τ (by
            refine XS.istore X467.here hx rfl (Jvm.hb hby at_238) rfl (l' := (own_LA2 p1 p2 p3 p4 p5 nn j0 j1 j2 jb q (.val (.int j0)) (.val (.int j1)) (.val (.int (-100 : Int32))) (.val (.int (1 : Int32))) (.val (.int (1 : Int32))) (.val (.int (1 : Int32))))) rfl ?_
            refine XS.iload X467.here hx rfl (Jvm.hb hby at_240) rfl ?_
            refine XS.ifNo X467.here hx rfl (Jvm.hb hby at_242) rfl ((if0 _ _).trans (feq (by decide)).1) ?_
            refine XS.iload X467.here hx rfl (Jvm.hb hby at_245) rfl ?_
            refine XS.ifNo X467.here hx rfl (Jvm.hb hby at_247) rfl ((if0 _ _).trans (feq (by decide)).1) ?_
            refine XS.iload X467.here hx rfl (Jvm.hb hby at_250) rfl ?_
            refine XS.ifNo X467.here hx rfl (Jvm.hb hby at_252) rfl ((if0 _ _).trans (feq (by decide)).1) ?_
            refine XS.iconst X467.here hx rfl (Jvm.hb hby at_255) ?_
            refine XS.goto X467.here hx rfl (pc0 := 256) (pc' := 260) rfl (Jvm.hb hby at_256) (by decide) (by decide) ?_
            exact kt)
          obtain ⟨fs, hrL, hrun, hended, hW, hsame⟩ := X467.leave (v := some (.int (1 : Int32))) (fun h => by rw [Bd.returns] at h; cases h)
          refine ⟨_, _, cast (congrFun hPS _) (pre469 _ ?_), hrun, hended, _, _, rfl, ?_, ⟨_, rfl⟩, hW, hsame.mono (by decide) (by decide)⟩
          · show Steps p.tables e below (T467.setTop (mkF m 260 (own_LA2 p1 p2 p3 p4 p5 nn j0 j1 j2 jb q (.val (.int j0)) (.val (.int j1)) (.val (.int (-100 : Int32))) (.val (.int (1 : Int32))) (.val (.int (1 : Int32))) (.val (.int (1 : Int32)))) [(.int (1 : Int32))])) _
            exact retN X467 hx (t := .boolean) Bd.returns (by simp) (Jvm.hb hby at_260) hrL
          · show Q0 n0 _ T467.heap _
            exact ⟨rfl, N467⟩
        have f489 := f347.keep Kq348
        obtain ⟨_, T490, L490, X490, ⟨rfl, Nq490, Kq490, f1_490, f2_490, f3_490, f4_490, f5_490, f6_490⟩, st490⟩ := own_virt (y := own_mn2) (b := q) X348 hx hZ hown (own_W19 hw) (own_W20 hw) (own_W22 hw) (own_W21 hw) (by decide) (rmCap_13_xk l Z a0 hw [] q (FP.i2d jb) A B kA kB (0 : Int32) (0 : Int32) (1 : Int32) (0 : UInt64) (FP.i2d j0) (FP.i2d j1) T348.heap n0 (Nat.le_trans Z0 K348.1) f489 f1_348 f2_348 f3_348 f4_348 f5_348 f6_348 naA naB nAB g_q gA gB ((own_lt _ _ _).mpr qc351) (fun z => qb352 ((own_gt _ _ _).mp z))) (own_W23 hw) (own_W2 hw) 0 (by decide) (by decide) f489 rfl (mkF m 126 (own_LA2 p1 p2 p3 p4 p5 nn j0 j1 j2 jb q .unset .unset .unset .unset .unset .unset) [(.double (FP.i2d jb)), (.ref q)]) rfl (by rw [hml]; rfl) [(.double (FP.i2d jb))] [] rfl (lenOf own_pd__D_V rfl) rfl (Nat.le_refl _) (Jvm.hb hby at_126) (by decide) (by decide)
        have N490 := Fr.app N348 Nq490
        have K490 : Keep h0 T490.heap [] := K348.trans Kq490 (allS (Or.inr sz_q) (allS (Or.inr sz_A) (allS (Or.inr sz_B) (all0))))
        have pre491 := fun (τ : State) kt => pre350 τ (st490 τ kt)
        have f492 := f489.keep Kq490
        obtain ⟨_, T493, L493, X493, ⟨rfl, Nq493, eq493⟩, st493⟩ := own_virt (y := own_mn3) (b := q) X490 hx hZ hown (own_W24 hw) (own_W25 hw) (own_W27 hw) (own_W26 hw) (by decide) (rmMax_13 l Z a0 hw [] q A B kA kB (0 : Int32) (0 : Int32) (1 : Int32) (0 : UInt64) (FP.i2d j0) (FP.i2d j1) T490.heap n0 (Nat.le_trans Z0 K490.1) f492 f1_490 f2_490 f3_490 f4_490 f5_490 f6_490 naA naB nAB g_q gA gB) (own_W28 hw) (own_W2 hw) 0 (by decide) (by decide) f492 rfl (mkF m 173 (own_LA2 p1 p2 p3 p4 p5 nn j0 j1 j2 jb q (.val (.int j0)) (.val (.int j1)) (.val (.int (-100 : Int32))) .unset .unset .unset) [(.ref q)]) rfl (by rw [hml]; rfl) [] [] rfl (lenOf own_pd___D rfl) rfl (Nat.le_refl _) (Jvm.hb hby at_173) (by decide) (by decide)
        have N493 := Fr.app N490 Nq493
        have pre494 := fun (τ : State) kt => pre491 τ (by
          refine XS.iload X490.here hx rfl (Jvm.hb hby at_129) rfl ?_
          refine XS.ifNo X490.here hx rfl (Jvm.hb hby at_131) rfl ((if0 _ _).trans (feq (by decide)).1) ?_
          refine XS.iload X490.here hx rfl (Jvm.hb hby at_134) rfl ?_
          refine XS.goto X490.here hx rfl (pc0 := 136) (pc' := 141) rfl (Jvm.hb hby at_136) (by decide) (by decide) ?_
          refine XS.istore X490.here hx rfl (Jvm.hb hby at_141) rfl (l' := (own_LA2 p1 p2 p3 p4 p5 nn j0 j1 j2 jb q (.val (.int j0)) .unset .unset .unset .unset .unset)) rfl ?_
          refine XS.iload X490.here hx rfl (Jvm.hb hby at_143) rfl ?_
          refine XS.ifNo X490.here hx rfl (Jvm.hb hby at_145) rfl ((if0 _ _).trans (feq (by decide)).1) ?_
          refine XS.iload X490.here hx rfl (Jvm.hb hby at_148) rfl ?_
          refine XS.goto X490.here hx rfl (pc0 := 150) (pc' := 155) rfl (Jvm.hb hby at_150) (by decide) (by decide) ?_
          refine XS.istore X490.here hx rfl (Jvm.hb hby at_155) rfl (l' := (own_LA2 p1 p2 p3 p4 p5 nn j0 j1 j2 jb q (.val (.int j0)) (.val (.int j1)) .unset .unset .unset .unset)) rfl ?_
          refine XS.iload X490.here hx rfl (Jvm.hb hby at_157) rfl ?_
          refine XS.ifYes X490.here hx rfl (pc0 := 159) (pc' := 167) rfl (Jvm.hb hby at_159) rfl ((if0 _ _).trans (teq (by decide)).1) (by decide) (by decide) ?_
          refine XS.bipush X490.here hx rfl (Jvm.hb hby at_167) ?_
          refine XS.istore X490.here hx rfl (Jvm.hb hby at_169) rfl (l' := (own_LA2 p1 p2 p3 p4 p5 nn j0 j1 j2 jb q (.val (.int j0)) (.val (.int j1)) (.val (.int (-100 : Int32))) .unset .unset .unset)) rfl ?_
          refine XS.aload X490.here hx rfl (Jvm.hb hby at_171) rfl rfl ?_
          exact st493 τ kt)
        obtain ⟨_, T495, L495, X495, ⟨rfl, Nq495, eq495⟩, st495⟩ := own_stat (y := own_mn4) X493 hx hZ hown (own_W30 hw) (own_W31 hw) (by decide) (rm_max l Z a0 hw [] j1 (-100 : Int32) T490.heap n0 (Nat.le_trans Z0 K490.1)) (own_W33 hw) (own_W32 hw) 3 (by decide) (by decide) eq493 (mkF m 182 (own_LA2 p1 p2 p3 p4 p5 nn j0 j1 j2 jb q (.val (.int j0)) (.val (.int j1)) (.val (.int (-100 : Int32))) .unset .unset .unset) [(.int (-100 : Int32)), (.int j1), (.int j0), (.double (FP.i2d j1))]) rfl (by rw [hml]; rfl) [(.int j1), (.int (-100 : Int32))] [(.int j0), (.double (FP.i2d j1))] rfl (lenOf own_pd__II_I rfl) rfl (Nat.le_refl _) (Jvm.hb hby at_182) (by decide) (by decide)
        have N495 := Fr.app N493 Nq495
        have pre496 := fun (τ : State) kt => pre494 τ (by
          refine XS.iload X493.here hx rfl (Jvm.hb hby at_176) rfl ?_
          refine XS.iload X493.here hx rfl (Jvm.hb hby at_178) rfl ?_
          refine XS.iload X493.here hx rfl (Jvm.hb hby at_180) rfl ?_
          exact st495 τ kt)
        obtain ⟨_, T497, L497, X497, ⟨rfl, Nq497, eq497⟩, st497⟩ := own_stat (y := own_mn4) X495 hx hZ hown (own_W30 hw) (own_W31 hw) (by decide) (rm_max l Z a0 hw [] j0 (own_max j1 (-100 : Int32)) T490.heap n0 (Nat.le_trans Z0 K490.1)) (own_W33 hw) (own_W32 hw) 2 (by decide) (by decide) eq495 (mkF m 185 (own_LA2 p1 p2 p3 p4 p5 nn j0 j1 j2 jb q (.val (.int j0)) (.val (.int j1)) (.val (.int (-100 : Int32))) .unset .unset .unset) [(.int (own_max j1 (-100 : Int32))), (.int j0), (.double (FP.i2d j1))]) rfl (by rw [hml]; rfl) [(.int j0), (.int (own_max j1 (-100 : Int32)))] [(.double (FP.i2d j1))] rfl (lenOf own_pd__II_I rfl) rfl (Nat.le_refl _) (Jvm.hb hby at_185) (by decide) (by decide)
        have N497 := Fr.app N495 Nq497
        have pre498 := fun (τ : State) kt => pre496 τ (st497 τ kt)
        obtain ⟨_, T499, L499, X499, ⟨rfl, Nq499, eq499⟩, st499⟩ := own_stat (y := own_mn5) X497 hx hZ hown (own_W34 hw) (own_W35 hw) (by decide) (rmE2 l Z a0 hw [] (FP.i2d j1) (own_max j0 (own_max j1 (-100 : Int32))) jb T490.heap n0 (Nat.le_trans Z0 K490.1) (own_ne100 (by (try simp only [own_max_int, own_m100]); omega)) (own_eq (by simp only [own_max_int, own_min_int, own_m100]; omega) _)) (own_W37 hw) (own_W36 hw) 0 (by decide) (by decide) eq497 (mkF m 190 (own_LA2 p1 p2 p3 p4 p5 nn j0 j1 j2 jb q (.val (.int j0)) (.val (.int j1)) (.val (.int (-100 : Int32))) .unset .unset .unset) [(.int jb), (.int (own_max j0 (own_max j1 (-100 : Int32)))), (.double (FP.i2d j1))]) rfl (by rw [hml]; rfl) [(.double (FP.i2d j1)), (.int (own_max j0 (own_max j1 (-100 : Int32)))), (.int jb)] [] rfl (lenOf own_pd__DII_Z rfl) rfl (Nat.le_refl _) (Jvm.hb hby at_190) (by decide) (by decide)
        have N499 := Fr.app N497 Nq499
        have pre500 := fun (τ : State) kt => pre498 τ (by
          refine XS.iload X497.here hx rfl (Jvm.hb hby at_188) rfl ?_
          exact st499 τ kt)
        obtain ⟨_, T501, L501, X501, ⟨rfl, Nq501, Kq501, f1_501, f2_501, f3_501, f4_501, f5_501, f6_501⟩, st501⟩ := own_virt (y := own_mn6) (b := q) X499 hx hZ hown (own_W39 hw) (own_W40 hw) (own_W42 hw) (own_W41 hw) (by decide) (rmRem_13_x l Z a0 hw [] q (1 : Int32) A B kA kB (0 : Int32) (0 : Int32) (1 : Int32) (0 : UInt64) (FP.i2d j0) (FP.i2d j1) T490.heap n0 (Nat.le_trans Z0 K490.1) f492 f1_490 f2_490 f3_490 f4_490 f5_490 f6_490 naA naB nAB g_q gA gB (by decide)) (own_W43 hw) (own_W2 hw) 0 (by decide) (by decide) f492 eq499 (mkF m 198 (own_LA2 p1 p2 p3 p4 p5 nn j0 j1 j2 jb q (.val (.int j0)) (.val (.int j1)) (.val (.int (-100 : Int32))) (.val (.int (1 : Int32))) .unset .unset) [(.int (1 : Int32)), (.ref q)]) rfl (by rw [hml]; rfl) [(.int (1 : Int32))] [] rfl (lenOf own_pd__I_V rfl) rfl (Nat.le_refl _) (Jvm.hb hby at_198) (by decide) (by decide)
        have N501 := Fr.app N499 Nq501
        have K501 : Keep h0 T501.heap [] := K490.trans Kq501 (allS (Or.inr sz_q) (allS (Or.inr sz_A) (allS (Or.inr sz_B) (all0))))
        have pre502 := fun (τ : State) kt => pre500 τ (by
          refine XS.istore X499.here hx rfl (Jvm.hb hby at_193) rfl (l' := (own_LA2 p1 p2 p3 p4 p5 nn j0 j1 j2 jb q (.val (.int j0)) (.val (.int j1)) (.val (.int (-100 : Int32))) (.val (.int (1 : Int32))) .unset .unset)) rfl ?_
          refine XS.aload X499.here hx rfl (Jvm.hb hby at_195) rfl rfl ?_
          refine XS.iconst X499.here hx rfl (Jvm.hb hby at_197) ?_
          exact st501 τ kt)
        have f503 := f492.keep Kq501
        obtain ⟨_, T504, L504, X504, ⟨rfl, Nq504, eq504⟩, st504⟩ := own_virt (y := own_mn3) (b := q) X501 hx hZ hown (own_W24 hw) (own_W25 hw) (own_W27 hw) (own_W26 hw) (by decide) (rmMax_13 l Z a0 hw [] q A B kA kB (0 : Int32) (0 : Int32) (1 : Int32) (0 : UInt64) (FP.i2d j0) (FP.i2d j1) T501.heap n0 (Nat.le_trans Z0 K501.1) f503 f1_501 f2_501 f3_501 f4_501 f5_501 f6_501 naA naB nAB g_q gA gB) (own_W28 hw) (own_W2 hw) 0 (by decide) (by decide) f503 rfl (mkF m 203 (own_LA2 p1 p2 p3 p4 p5 nn j0 j1 j2 jb q (.val (.int j0)) (.val (.int j1)) (.val (.int (-100 : Int32))) (.val (.int (1 : Int32))) .unset .unset) [(.ref q)]) rfl (by rw [hml]; rfl) [] [] rfl (lenOf own_pd___D rfl) rfl (Nat.le_refl _) (Jvm.hb hby at_203) (by decide) (by decide)
        have N504 := Fr.app N501 Nq504
        have pre505 := fun (τ : State) kt => pre502 τ (by
          refine XS.aload X501.here hx rfl (Jvm.hb hby at_201) rfl rfl ?_
          exact st504 τ kt)
        obtain ⟨_, T506, L506, X506, ⟨rfl, Nq506, eq506⟩, st506⟩ := own_stat (y := own_mn4) X504 hx hZ hown (own_W30 hw) (own_W31 hw) (by decide) (rm_max l Z a0 hw [] j0 j1 T501.heap n0 (Nat.le_trans Z0 K501.1)) (own_W33 hw) (own_W32 hw) 2 (by decide) (by decide) eq504 (mkF m 210 (own_LA2 p1 p2 p3 p4 p5 nn j0 j1 j2 jb q (.val (.int j0)) (.val (.int j1)) (.val (.int (-100 : Int32))) (.val (.int (1 : Int32))) .unset .unset) [(.int j1), (.int j0), (.double (FP.i2d j1))]) rfl (by rw [hml]; rfl) [(.int j0), (.int j1)] [(.double (FP.i2d j1))] rfl (lenOf own_pd__II_I rfl) rfl (Nat.le_refl _) (Jvm.hb hby at_210) (by decide) (by decide)
        have N506 := Fr.app N504 Nq506
        have pre507 := fun (τ : State) kt => pre505 τ (by
          refine XS.iload X504.here hx rfl (Jvm.hb hby at_206) rfl ?_
          refine XS.iload X504.here hx rfl (Jvm.hb hby at_208) rfl ?_
          exact st506 τ kt)
        obtain ⟨_, T508, L508, X508, ⟨rfl, Nq508, eq508⟩, st508⟩ := own_stat (y := own_mn5) X506 hx hZ hown (own_W34 hw) (own_W35 hw) (by decide) (rmE2 l Z a0 hw [] (FP.i2d j1) (own_max j0 j1) jb T501.heap n0 (Nat.le_trans Z0 K501.1) (own_ne100 (by (try simp only [own_max_int, own_m100]); omega)) (own_eq (by simp only [own_max_int, own_min_int, own_m100]; omega) _)) (own_W37 hw) (own_W36 hw) 0 (by decide) (by decide) eq506 (mkF m 215 (own_LA2 p1 p2 p3 p4 p5 nn j0 j1 j2 jb q (.val (.int j0)) (.val (.int j1)) (.val (.int (-100 : Int32))) (.val (.int (1 : Int32))) .unset .unset) [(.int jb), (.int (own_max j0 j1)), (.double (FP.i2d j1))]) rfl (by rw [hml]; rfl) [(.double (FP.i2d j1)), (.int (own_max j0 j1)), (.int jb)] [] rfl (lenOf own_pd__DII_Z rfl) rfl (Nat.le_refl _) (Jvm.hb hby at_215) (by decide) (by decide)
        have N508 := Fr.app N506 Nq508
        have pre509 := fun (τ : State) kt => pre507 τ (by
          refine XS.iload X506.here hx rfl (Jvm.hb hby at_213) rfl ?_
          exact st508 τ kt)
        obtain ⟨_, T510, L510, X510, ⟨rfl, Nq510, Kq510, f1_510, f2_510, f3_510, f4_510, f5_510, f6_510⟩, st510⟩ := own_virt (y := own_mn6) (b := q) X508 hx hZ hown (own_W39 hw) (own_W40 hw) (own_W42 hw) (own_W41 hw) (by decide) (rmRem_13_cx l Z a0 hw [] q (0 : Int32) A B kA kB (0 : Int32) (0 : Int32) (1 : Int32) (0 : UInt64) (FP.i2d j0) (FP.i2d j1) T501.heap n0 (Nat.le_trans Z0 K501.1) f503 f1_501 f2_501 f3_501 f4_501 f5_501 f6_501 naA naB nAB g_q gA gB (by decide) (by decide)) (own_W43 hw) (own_W2 hw) 0 (by decide) (by decide) f503 eq508 (mkF m 223 (own_LA2 p1 p2 p3 p4 p5 nn j0 j1 j2 jb q (.val (.int j0)) (.val (.int j1)) (.val (.int (-100 : Int32))) (.val (.int (1 : Int32))) (.val (.int (1 : Int32))) .unset) [(.int (0 : Int32)), (.ref q)]) rfl (by rw [hml]; rfl) [(.int (0 : Int32))] [] rfl (lenOf own_pd__I_V rfl) rfl (Nat.le_refl _) (Jvm.hb hby at_223) (by decide) (by decide)
        have N510 := Fr.app N508 Nq510
        have K510 : Keep h0 T510.heap [] := K501.trans Kq510 (allS (Or.inr sz_q) (allS (Or.inr sz_A) (allS (Or.inr sz_B) (all0))))
        have pre511 := fun (τ : State) kt => pre509 τ (by
          refine XS.istore X508.here hx rfl (Jvm.hb hby at_218) rfl (l' := (own_LA2 p1 p2 p3 p4 p5 nn j0 j1 j2 jb q (.val (.int j0)) (.val (.int j1)) (.val (.int (-100 : Int32))) (.val (.int (1 : Int32))) (.val (.int (1 : Int32))) .unset)) rfl ?_
          refine XS.aload X508.here hx rfl (Jvm.hb hby at_220) rfl rfl ?_
          refine XS.iconst X508.here hx rfl (Jvm.hb hby at_222) ?_
          exact st510 τ kt)
        have f512 := f503.keep Kq510
        obtain ⟨_, T513, L513, X513, ⟨rfl, Nq513, eq513⟩, st513⟩ := own_virt (y := own_mn3) (b := q) X510 hx hZ hown (own_W24 hw) (own_W25 hw) (own_W27 hw) (own_W26 hw) (by decide) (rmMax_12 l Z a0 hw [] q A B kA kB (0 : Int32) (0 : Int32) (1 : Int32) (0 : UInt64) (FP.i2d j0) (FP.i2d j1) T510.heap n0 (Nat.le_trans Z0 K510.1) f512 f1_510 f2_510 f3_510 f4_510 f5_510 f6_510 naA naB nAB g_q gA gB) (own_W28 hw) (own_W2 hw) 0 (by decide) (by decide) f512 rfl (mkF m 228 (own_LA2 p1 p2 p3 p4 p5 nn j0 j1 j2 jb q (.val (.int j0)) (.val (.int j1)) (.val (.int (-100 : Int32))) (.val (.int (1 : Int32))) (.val (.int (1 : Int32))) .unset) [(.ref q)]) rfl (by rw [hml]; rfl) [] [] rfl (lenOf own_pd___D rfl) rfl (Nat.le_refl _) (Jvm.hb hby at_228) (by decide) (by decide)
        have N513 := Fr.app N510 Nq513
        have pre514 := fun (τ : State) kt => pre511 τ (by
          refine XS.aload X510.here hx rfl (Jvm.hb hby at_226) rfl rfl ?_
          exact st513 τ kt)
        obtain ⟨_, T515, L515, X515, ⟨rfl, Nq515, eq515⟩, st515⟩ := own_stat (y := own_mn5) X513 hx hZ hown (own_W34 hw) (own_W35 hw) (by decide) (rmE2 l Z a0 hw [] (FP.i2d j0) j0 jb T510.heap n0 (Nat.le_trans Z0 K510.1) (own_ne100 (by (try simp only [own_max_int, own_m100]); omega)) (own_eq (by simp only [own_max_int, own_min_int, own_m100]; omega) _)) (own_W37 hw) (own_W36 hw) 0 (by decide) (by decide) eq513 (mkF m 235 (own_LA2 p1 p2 p3 p4 p5 nn j0 j1 j2 jb q (.val (.int j0)) (.val (.int j1)) (.val (.int (-100 : Int32))) (.val (.int (1 : Int32))) (.val (.int (1 : Int32))) .unset) [(.int jb), (.int j0), (.double (FP.i2d j0))]) rfl (by rw [hml]; rfl) [(.double (FP.i2d j0)), (.int j0), (.int jb)] [] rfl (lenOf own_pd__DII_Z rfl) rfl (Nat.le_refl _) (Jvm.hb hby at_235) (by decide) (by decide)
        have N515 := Fr.app N513 Nq515
        have pre516 := fun (τ : State) kt => pre514 τ (by
          refine XS.iload X513.here hx rfl (Jvm.hb hby at_231) rfl ?_
          refine XS.iload X513.here hx rfl (Jvm.hb hby at_233) rfl ?_
          exact st515 τ kt)
        have pre517 := fun (τ : State) kt => pre516 τ (by
          refine XS.istore X515.here hx rfl (Jvm.hb hby at_238) rfl (l' := (own_LA2 p1 p2 p3 p4 p5 nn j0 j1 j2 jb q (.val (.int j0)) (.val (.int j1)) (.val (.int (-100 : Int32))) (.val (.int (1 : Int32))) (.val (.int (1 : Int32))) (.val (.int (1 : Int32))))) rfl ?_
          refine XS.iload X515.here hx rfl (Jvm.hb hby at_240) rfl ?_
          refine XS.ifNo X515.here hx rfl (Jvm.hb hby at_242) rfl ((if0 _ _).trans (feq (by decide)).1) ?_
          refine XS.iload X515.here hx rfl (Jvm.hb hby at_245) rfl ?_
          refine XS.ifNo X515.here hx rfl (Jvm.hb hby at_247) rfl ((if0 _ _).trans (feq (by decide)).1) ?_
          refine XS.iload X515.here hx rfl (Jvm.hb hby at_250) rfl ?_
          refine XS.ifNo X515.here hx rfl (Jvm.hb hby at_252) rfl ((if0 _ _).trans (feq (by decide)).1) ?_
          refine XS.iconst X515.here hx rfl (Jvm.hb hby at_255) ?_
          refine XS.goto X515.here hx rfl (pc0 := 256) (pc' := 260) rfl (Jvm.hb hby at_256) (by decide) (by decide) ?_
          exact kt)
        obtain ⟨fs, hrL, hrun, hended, hW, hsame⟩ := X515.leave (v := some (.int (1 : Int32))) (fun h => by rw [Bd.returns] at h; cases h)
        refine ⟨_, _, cast (congrFun hPS _) (pre517 _ ?_), hrun, hended, _, _, rfl, ?_, ⟨_, rfl⟩, hW, hsame.mono (by decide) (by decide)⟩
        · show Steps p.tables e below (T515.setTop (mkF m 260 (own_LA2 p1 p2 p3 p4 p5 nn j0 j1 j2 jb q (.val (.int j0)) (.val (.int j1)) (.val (.int (-100 : Int32))) (.val (.int (1 : Int32))) (.val (.int (1 : Int32))) (.val (.int (1 : Int32)))) [(.int (1 : Int32))])) _
          exact retN X515 hx (t := .boolean) Bd.returns (by simp) (Jvm.hb hby at_260) hrL
        · show Q0 n0 _ T515.heap _
          exact ⟨rfl, N515⟩
      by_cases qb518 : jb.toInt < j0.toInt
      · skip
        have f562 := f347.keep Kq348
        obtain ⟨_, T563, L563, X563, ⟨rfl, Nq563, Kq563, f1_563, f2_563, f3_563, f4_563, f5_563, f6_563⟩, st563⟩ := own_virt (y := own_mn2) (b := q) X348 hx hZ hown (own_W19 hw) (own_W20 hw) (own_W22 hw) (own_W21 hw) (by decide) (rmCap_13_cos l Z a0 hw [] q (FP.i2d jb) A B kA kB (0 : Int32) (0 : Int32) (1 : Int32) (0 : UInt64) (FP.i2d j0) (FP.i2d j1) T348.heap n0 (Nat.le_trans Z0 K348.1) f562 f1_348 f2_348 f3_348 f4_348 f5_348 f6_348 naA naB nAB g_q gA gB (fun z => qc351 ((own_lt _ _ _).mp z)) ((own_gt _ _ _).mpr qb518)) (own_W23 hw) (own_W2 hw) 0 (by decide) (by decide) f562 rfl (mkF m 126 (own_LA2 p1 p2 p3 p4 p5 nn j0 j1 j2 jb q .unset .unset .unset .unset .unset .unset) [(.double (FP.i2d jb)), (.ref q)]) rfl (by rw [hml]; rfl) [(.double (FP.i2d jb))] [] rfl (lenOf own_pd__D_V rfl) rfl (Nat.le_refl _) (Jvm.hb hby at_126) (by decide) (by decide)
        have N563 := Fr.app N348 Nq563
        have K563 : Keep h0 T563.heap [] := K348.trans Kq563 (allS (Or.inr sz_q) (allS (Or.inr sz_A) (allS (Or.inr sz_B) (all0))))
        have pre564 := fun (τ : State) kt => pre350 τ (st563 τ kt)
        have f565 := f562.keep Kq563
        obtain ⟨_, T566, L566, X566, ⟨rfl, Nq566, eq566⟩, st566⟩ := own_virt (y := own_mn3) (b := q) X563 hx hZ hown (own_W24 hw) (own_W25 hw) (own_W27 hw) (own_W26 hw) (by decide) (rmMax_12 l Z a0 hw [] q A B kA kB (0 : Int32) (0 : Int32) (1 : Int32) (0 : UInt64) (FP.i2d jb) (FP.i2d j1) T563.heap n0 (Nat.le_trans Z0 K563.1) f565 f1_563 f2_563 f3_563 f4_563 f5_563 f6_563 naA naB nAB g_q gA gB) (own_W28 hw) (own_W2 hw) 0 (by decide) (by decide) f565 rfl (mkF m 173 (own_LA2 p1 p2 p3 p4 p5 nn j0 j1 j2 jb q (.val (.int j0)) (.val (.int j1)) (.val (.int (-100 : Int32))) .unset .unset .unset) [(.ref q)]) rfl (by rw [hml]; rfl) [] [] rfl (lenOf own_pd___D rfl) rfl (Nat.le_refl _) (Jvm.hb hby at_173) (by decide) (by decide)
        have N566 := Fr.app N563 Nq566
        have pre567 := fun (τ : State) kt => pre564 τ (by
          refine XS.iload X563.here hx rfl (Jvm.hb hby at_129) rfl ?_
          refine XS.ifNo X563.here hx rfl (Jvm.hb hby at_131) rfl ((if0 _ _).trans (feq (by decide)).1) ?_
          refine XS.iload X563.here hx rfl (Jvm.hb hby at_134) rfl ?_
          refine XS.goto X563.here hx rfl (pc0 := 136) (pc' := 141) rfl (Jvm.hb hby at_136) (by decide) (by decide) ?_
          refine XS.istore X563.here hx rfl (Jvm.hb hby at_141) rfl (l' := (own_LA2 p1 p2 p3 p4 p5 nn j0 j1 j2 jb q (.val (.int j0)) .unset .unset .unset .unset .unset)) rfl ?_
          refine XS.iload X563.here hx rfl (Jvm.hb hby at_143) rfl ?_
          refine XS.ifNo X563.here hx rfl (Jvm.hb hby at_145) rfl ((if0 _ _).trans (feq (by decide)).1) ?_
          refine XS.iload X563.here hx rfl (Jvm.hb hby at_148) rfl ?_
          refine XS.goto X563.here hx rfl (pc0 := 150) (pc' := 155) rfl (Jvm.hb hby at_150) (by decide) (by decide) ?_
          refine XS.istore X563.here hx rfl (Jvm.hb hby at_155) rfl (l' := (own_LA2 p1 p2 p3 p4 p5 nn j0 j1 j2 jb q (.val (.int j0)) (.val (.int j1)) .unset .unset .unset .unset)) rfl ?_
          refine XS.iload X563.here hx rfl (Jvm.hb hby at_157) rfl ?_
          refine XS.ifYes X563.here hx rfl (pc0 := 159) (pc' := 167) rfl (Jvm.hb hby at_159) rfl ((if0 _ _).trans (teq (by decide)).1) (by decide) (by decide) ?_
          refine XS.bipush X563.here hx rfl (Jvm.hb hby at_167) ?_
          refine XS.istore X563.here hx rfl (Jvm.hb hby at_169) rfl (l' := (own_LA2 p1 p2 p3 p4 p5 nn j0 j1 j2 jb q (.val (.int j0)) (.val (.int j1)) (.val (.int (-100 : Int32))) .unset .unset .unset)) rfl ?_
          refine XS.aload X563.here hx rfl (Jvm.hb hby at_171) rfl rfl ?_
          exact st566 τ kt)
        obtain ⟨_, T568, L568, X568, ⟨rfl, Nq568, eq568⟩, st568⟩ := own_stat (y := own_mn4) X566 hx hZ hown (own_W30 hw) (own_W31 hw) (by decide) (rm_max l Z a0 hw [] j1 (-100 : Int32) T563.heap n0 (Nat.le_trans Z0 K563.1)) (own_W33 hw) (own_W32 hw) 3 (by decide) (by decide) eq566 (mkF m 182 (own_LA2 p1 p2 p3 p4 p5 nn j0 j1 j2 jb q (.val (.int j0)) (.val (.int j1)) (.val (.int (-100 : Int32))) .unset .unset .unset) [(.int (-100 : Int32)), (.int j1), (.int j0), (.double (FP.i2d jb))]) rfl (by rw [hml]; rfl) [(.int j1), (.int (-100 : Int32))] [(.int j0), (.double (FP.i2d jb))] rfl (lenOf own_pd__II_I rfl) rfl (Nat.le_refl _) (Jvm.hb hby at_182) (by decide) (by decide)
        have N568 := Fr.app N566 Nq568
        have pre569 := fun (τ : State) kt => pre567 τ (by
          refine XS.iload X566.here hx rfl (Jvm.hb hby at_176) rfl ?_
          refine XS.iload X566.here hx rfl (Jvm.hb hby at_178) rfl ?_
          refine XS.iload X566.here hx rfl (Jvm.hb hby at_180) rfl ?_
          exact st568 τ kt)
        obtain ⟨_, T570, L570, X570, ⟨rfl, Nq570, eq570⟩, st570⟩ := own_stat (y := own_mn4) X568 hx hZ hown (own_W30 hw) (own_W31 hw) (by decide) (rm_max l Z a0 hw [] j0 (own_max j1 (-100 : Int32)) T563.heap n0 (Nat.le_trans Z0 K563.1)) (own_W33 hw) (own_W32 hw) 2 (by decide) (by decide) eq568 (mkF m 185 (own_LA2 p1 p2 p3 p4 p5 nn j0 j1 j2 jb q (.val (.int j0)) (.val (.int j1)) (.val (.int (-100 : Int32))) .unset .unset .unset) [(.int (own_max j1 (-100 : Int32))), (.int j0), (.double (FP.i2d jb))]) rfl (by rw [hml]; rfl) [(.int j0), (.int (own_max j1 (-100 : Int32)))] [(.double (FP.i2d jb))] rfl (lenOf own_pd__II_I rfl) rfl (Nat.le_refl _) (Jvm.hb hby at_185) (by decide) (by decide)
        have N570 := Fr.app N568 Nq570
        have pre571 := fun (τ : State) kt => pre569 τ (st570 τ kt)
        obtain ⟨_, T572, L572, X572, ⟨rfl, Nq572, eq572⟩, st572⟩ := own_stat (y := own_mn5) X570 hx hZ hown (own_W34 hw) (own_W35 hw) (by decide) (rmE2 l Z a0 hw [] (FP.i2d jb) (own_max j0 (own_max j1 (-100 : Int32))) jb T563.heap n0 (Nat.le_trans Z0 K563.1) (own_ne100 (by (try simp only [own_max_int, own_m100]); omega)) (own_eq (by simp only [own_max_int, own_min_int, own_m100]; omega) _)) (own_W37 hw) (own_W36 hw) 0 (by decide) (by decide) eq570 (mkF m 190 (own_LA2 p1 p2 p3 p4 p5 nn j0 j1 j2 jb q (.val (.int j0)) (.val (.int j1)) (.val (.int (-100 : Int32))) .unset .unset .unset) [(.int jb), (.int (own_max j0 (own_max j1 (-100 : Int32)))), (.double (FP.i2d jb))]) rfl (by rw [hml]; rfl) [(.double (FP.i2d jb)), (.int (own_max j0 (own_max j1 (-100 : Int32)))), (.int jb)] [] rfl (lenOf own_pd__DII_Z rfl) rfl (Nat.le_refl _) (Jvm.hb hby at_190) (by decide) (by decide)
        have N572 := Fr.app N570 Nq572
        have pre573 := fun (τ : State) kt => pre571 τ (by
          refine XS.iload X570.here hx rfl (Jvm.hb hby at_188) rfl ?_
          exact st572 τ kt)
        obtain ⟨_, T584, L584, X584, ⟨rfl, Nq584, Kq584, f1_584, f2_584, f3_584, f4_584, f5_584, f6_584⟩, st584⟩ := own_virt (y := own_mn6) (b := q) X572 hx hZ hown (own_W39 hw) (own_W40 hw) (own_W42 hw) (own_W41 hw) (by decide) (rmRem_12_x l Z a0 hw [] q (1 : Int32) A B kA kB (0 : Int32) (0 : Int32) (1 : Int32) (0 : UInt64) (FP.i2d jb) (FP.i2d j1) T563.heap n0 (Nat.le_trans Z0 K563.1) f565 f1_563 f2_563 f3_563 f4_563 f5_563 f6_563 naA naB nAB g_q gA gB (by decide)) (own_W43 hw) (own_W2 hw) 0 (by decide) (by decide) f565 eq572 (mkF m 198 (own_LA2 p1 p2 p3 p4 p5 nn j0 j1 j2 jb q (.val (.int j0)) (.val (.int j1)) (.val (.int (-100 : Int32))) (.val (.int (1 : Int32))) .unset .unset) [(.int (1 : Int32)), (.ref q)]) rfl (by rw [hml]; rfl) [(.int (1 : Int32))] [] rfl (lenOf own_pd__I_V rfl) rfl (Nat.le_refl _) (Jvm.hb hby at_198) (by decide) (by decide)
        have N584 := Fr.app N572 Nq584
        have K584 : Keep h0 T584.heap [] := K563.trans Kq584 (allS (Or.inr sz_q) (allS (Or.inr sz_A) (allS (Or.inr sz_B) (all0))))
        have pre585 := fun (τ : State) kt => pre573 τ (by
          refine XS.istore X572.here hx rfl (Jvm.hb hby at_193) rfl (l' := (own_LA2 p1 p2 p3 p4 p5 nn j0 j1 j2 jb q (.val (.int j0)) (.val (.int j1)) (.val (.int (-100 : Int32))) (.val (.int (1 : Int32))) .unset .unset)) rfl ?_
          refine XS.aload X572.here hx rfl (Jvm.hb hby at_195) rfl rfl ?_
          refine XS.iconst X572.here hx rfl (Jvm.hb hby at_197) ?_
          exact st584 τ kt)
        have f586 := f565.keep Kq584
        obtain ⟨_, T587, L587, X587, ⟨rfl, Nq587, eq587⟩, st587⟩ := own_virt (y := own_mn3) (b := q) X584 hx hZ hown (own_W24 hw) (own_W25 hw) (own_W27 hw) (own_W26 hw) (by decide) (rmMax_12 l Z a0 hw [] q A B kA kB (0 : Int32) (0 : Int32) (1 : Int32) (0 : UInt64) (FP.i2d jb) (FP.i2d j1) T584.heap n0 (Nat.le_trans Z0 K584.1) f586 f1_584 f2_584 f3_584 f4_584 f5_584 f6_584 naA naB nAB g_q gA gB) (own_W28 hw) (own_W2 hw) 0 (by decide) (by decide) f586 rfl (mkF m 203 (own_LA2 p1 p2 p3 p4 p5 nn j0 j1 j2 jb q (.val (.int j0)) (.val (.int j1)) (.val (.int (-100 : Int32))) (.val (.int (1 : Int32))) .unset .unset) [(.ref q)]) rfl (by rw [hml]; rfl) [] [] rfl (lenOf own_pd___D rfl) rfl (Nat.le_refl _) (Jvm.hb hby at_203) (by decide) (by decide)
        have N587 := Fr.app N584 Nq587
        have pre588 := fun (τ : State) kt => pre585 τ (by
          refine XS.aload X584.here hx rfl (Jvm.hb hby at_201) rfl rfl ?_
          exact st587 τ kt)
        obtain ⟨_, T589, L589, X589, ⟨rfl, Nq589, eq589⟩, st589⟩ := own_stat (y := own_mn4) X587 hx hZ hown (own_W30 hw) (own_W31 hw) (by decide) (rm_max l Z a0 hw [] j0 j1 T584.heap n0 (Nat.le_trans Z0 K584.1)) (own_W33 hw) (own_W32 hw) 2 (by decide) (by decide) eq587 (mkF m 210 (own_LA2 p1 p2 p3 p4 p5 nn j0 j1 j2 jb q (.val (.int j0)) (.val (.int j1)) (.val (.int (-100 : Int32))) (.val (.int (1 : Int32))) .unset .unset) [(.int j1), (.int j0), (.double (FP.i2d jb))]) rfl (by rw [hml]; rfl) [(.int j0), (.int j1)] [(.double (FP.i2d jb))] rfl (lenOf own_pd__II_I rfl) rfl (Nat.le_refl _) (Jvm.hb hby at_210) (by decide) (by decide)
        have N589 := Fr.app N587 Nq589
        have pre590 := fun (τ : State) kt => pre588 τ (by
          refine XS.iload X587.here hx rfl (Jvm.hb hby at_206) rfl ?_
          refine XS.iload X587.here hx rfl (Jvm.hb hby at_208) rfl ?_
          exact st589 τ kt)
        obtain ⟨_, T591, L591, X591, ⟨rfl, Nq591, eq591⟩, st591⟩ := own_stat (y := own_mn5) X589 hx hZ hown (own_W34 hw) (own_W35 hw) (by decide) (rmE2 l Z a0 hw [] (FP.i2d jb) (own_max j0 j1) jb T584.heap n0 (Nat.le_trans Z0 K584.1) (own_ne100 (by (try simp only [own_max_int, own_m100]); omega)) (own_eq (by simp only [own_max_int, own_min_int, own_m100]; omega) _)) (own_W37 hw) (own_W36 hw) 0 (by decide) (by decide) eq589 (mkF m 215 (own_LA2 p1 p2 p3 p4 p5 nn j0 j1 j2 jb q (.val (.int j0)) (.val (.int j1)) (.val (.int (-100 : Int32))) (.val (.int (1 : Int32))) .unset .unset) [(.int jb), (.int (own_max j0 j1)), (.double (FP.i2d jb))]) rfl (by rw [hml]; rfl) [(.double (FP.i2d jb)), (.int (own_max j0 j1)), (.int jb)] [] rfl (lenOf own_pd__DII_Z rfl) rfl (Nat.le_refl _) (Jvm.hb hby at_215) (by decide) (by decide)
        have N591 := Fr.app N589 Nq591
        have pre592 := fun (τ : State) kt => pre590 τ (by
          refine XS.iload X589.here hx rfl (Jvm.hb hby at_213) rfl ?_
          exact st591 τ kt)
        obtain ⟨_, T593, L593, X593, ⟨rfl, Nq593, Kq593, f1_593, f2_593, f3_593, f4_593, f5_593, f6_593⟩, st593⟩ := own_virt (y := own_mn6) (b := q) X591 hx hZ hown (own_W39 hw) (own_W40 hw) (own_W42 hw) (own_W41 hw) (by decide) (rmRem_12_x l Z a0 hw [] q (0 : Int32) A B kA kB (0 : Int32) (0 : Int32) (1 : Int32) (0 : UInt64) (FP.i2d jb) (FP.i2d j1) T584.heap n0 (Nat.le_trans Z0 K584.1) f586 f1_584 f2_584 f3_584 f4_584 f5_584 f6_584 naA naB nAB g_q gA gB (by decide)) (own_W43 hw) (own_W2 hw) 0 (by decide) (by decide) f586 eq591 (mkF m 223 (own_LA2 p1 p2 p3 p4 p5 nn j0 j1 j2 jb q (.val (.int j0)) (.val (.int j1)) (.val (.int (-100 : Int32))) (.val (.int (1 : Int32))) (.val (.int (1 : Int32))) .unset) [(.int (0 : Int32)), (.ref q)]) rfl (by rw [hml]; rfl) [(.int (0 : Int32))] [] rfl (lenOf own_pd__I_V rfl) rfl (Nat.le_refl _) (Jvm.hb hby at_223) (by decide) (by decide)
        have N593 := Fr.app N591 Nq593
        have K593 : Keep h0 T593.heap [] := K584.trans Kq593 (allS (Or.inr sz_q) (allS (Or.inr sz_A) (allS (Or.inr sz_B) (all0))))
        have pre594 := fun (τ : State) kt => pre592 τ (by
          refine XS.istore X591.here hx rfl (Jvm.hb hby at_218) rfl (l' := (own_LA2 p1 p2 p3 p4 p5 nn j0 j1 j2 jb q (.val (.int j0)) (.val (.int j1)) (.val (.int (-100 : Int32))) (.val (.int (1 : Int32))) (.val (.int (1 : Int32))) .unset)) rfl ?_
          refine XS.aload X591.here hx rfl (Jvm.hb hby at_220) rfl rfl ?_
          refine XS.iconst X591.here hx rfl (Jvm.hb hby at_222) ?_
          exact st593 τ kt)
        have f595 := f586.keep Kq593
        obtain ⟨_, T596, L596, X596, ⟨rfl, Nq596, eq596⟩, st596⟩ := own_virt (y := own_mn3) (b := q) X593 hx hZ hown (own_W24 hw) (own_W25 hw) (own_W27 hw) (own_W26 hw) (by decide) (rmMax_12 l Z a0 hw [] q A B kA kB (0 : Int32) (0 : Int32) (1 : Int32) (0 : UInt64) (FP.i2d jb) (FP.i2d j1) T593.heap n0 (Nat.le_trans Z0 K593.1) f595 f1_593 f2_593 f3_593 f4_593 f5_593 f6_593 naA naB nAB g_q gA gB) (own_W28 hw) (own_W2 hw) 0 (by decide) (by decide) f595 rfl (mkF m 228 (own_LA2 p1 p2 p3 p4 p5 nn j0 j1 j2 jb q (.val (.int j0)) (.val (.int j1)) (.val (.int (-100 : Int32))) (.val (.int (1 : Int32))) (.val (.int (1 : Int32))) .unset) [(.ref q)]) rfl (by rw [hml]; rfl) [] [] rfl (lenOf own_pd___D rfl) rfl (Nat.le_refl _) (Jvm.hb hby at_228) (by decide) (by decide)
        have N596 := Fr.app N593 Nq596
        have pre597 := fun (τ : State) kt => pre594 τ (by
          refine XS.aload X593.here hx rfl (Jvm.hb hby at_226) rfl rfl ?_
          exact st596 τ kt)
        obtain ⟨_, T598, L598, X598, ⟨rfl, Nq598, eq598⟩, st598⟩ := own_stat (y := own_mn5) X596 hx hZ hown (own_W34 hw) (own_W35 hw) (by decide) (rmE2 l Z a0 hw [] (FP.i2d jb) j0 jb T593.heap n0 (Nat.le_trans Z0 K593.1) (own_ne100 (by (try simp only [own_max_int, own_m100]); omega)) (own_eq (by simp only [own_max_int, own_min_int, own_m100]; omega) _)) (own_W37 hw) (own_W36 hw) 0 (by decide) (by decide) eq596 (mkF m 235 (own_LA2 p1 p2 p3 p4 p5 nn j0 j1 j2 jb q (.val (.int j0)) (.val (.int j1)) (.val (.int (-100 : Int32))) (.val (.int (1 : Int32))) (.val (.int (1 : Int32))) .unset) [(.int jb), (.int j0), (.double (FP.i2d jb))]) rfl (by rw [hml]; rfl) [(.double (FP.i2d jb)), (.int j0), (.int jb)] [] rfl (lenOf own_pd__DII_Z rfl) rfl (Nat.le_refl _) (Jvm.hb hby at_235) (by decide) (by decide)
        have N598 := Fr.app N596 Nq598
        have pre599 := fun (τ : State) kt => pre597 τ (by
          refine XS.iload X596.here hx rfl (Jvm.hb hby at_231) rfl ?_
          refine XS.iload X596.here hx rfl (Jvm.hb hby at_233) rfl ?_
          exact st598 τ kt)
        have pre600 := fun (τ : State) kt => pre599 τ (by
          refine XS.istore X598.here hx rfl (Jvm.hb hby at_238) rfl (l' := (own_LA2 p1 p2 p3 p4 p5 nn j0 j1 j2 jb q (.val (.int j0)) (.val (.int j1)) (.val (.int (-100 : Int32))) (.val (.int (1 : Int32))) (.val (.int (1 : Int32))) (.val (.int (1 : Int32))))) rfl ?_
          refine XS.iload X598.here hx rfl (Jvm.hb hby at_240) rfl ?_
          refine XS.ifNo X598.here hx rfl (Jvm.hb hby at_242) rfl ((if0 _ _).trans (feq (by decide)).1) ?_
          refine XS.iload X598.here hx rfl (Jvm.hb hby at_245) rfl ?_
          refine XS.ifNo X598.here hx rfl (Jvm.hb hby at_247) rfl ((if0 _ _).trans (feq (by decide)).1) ?_
          refine XS.iload X598.here hx rfl (Jvm.hb hby at_250) rfl ?_
          refine XS.ifNo X598.here hx rfl (Jvm.hb hby at_252) rfl ((if0 _ _).trans (feq (by decide)).1) ?_
          refine XS.iconst X598.here hx rfl (Jvm.hb hby at_255) ?_
          refine XS.goto X598.here hx rfl (pc0 := 256) (pc' := 260) rfl (Jvm.hb hby at_256) (by decide) (by decide) ?_
          exact kt)
        obtain ⟨fs, hrL, hrun, hended, hW, hsame⟩ := X598.leave (v := some (.int (1 : Int32))) (fun h => by rw [Bd.returns] at h; cases h)
        refine ⟨_, _, cast (congrFun hPS _) (pre600 _ ?_), hrun, hended, _, _, rfl, ?_, ⟨_, rfl⟩, hW, hsame.mono (by decide) (by decide)⟩
        · show Steps p.tables e below (T598.setTop (mkF m 260 (own_LA2 p1 p2 p3 p4 p5 nn j0 j1 j2 jb q (.val (.int j0)) (.val (.int j1)) (.val (.int (-100 : Int32))) (.val (.int (1 : Int32))) (.val (.int (1 : Int32))) (.val (.int (1 : Int32)))) [(.int (1 : Int32))])) _
          exact retN X598 hx (t := .boolean) Bd.returns (by simp) (Jvm.hb hby at_260) hrL
        · show Q0 n0 _ T598.heap _
          exact ⟨rfl, N598⟩
      have f633 := f347.keep Kq348
      obtain ⟨_, T634, L634, X634, ⟨rfl, Nq634, Kq634, f1_634, f2_634, f3_634, f4_634, f5_634, f6_634⟩, st634⟩ := own_virt (y := own_mn2) (b := q) X348 hx hZ hown (own_W19 hw) (own_W20 hw) (own_W22 hw) (own_W21 hw) (by decide) (rmCap_13_cok l Z a0 hw [] q (FP.i2d jb) A B kA kB (0 : Int32) (0 : Int32) (1 : Int32) (0 : UInt64) (FP.i2d j0) (FP.i2d j1) T348.heap n0 (Nat.le_trans Z0 K348.1) f633 f1_348 f2_348 f3_348 f4_348 f5_348 f6_348 naA naB nAB g_q gA gB (fun z => qc351 ((own_lt _ _ _).mp z)) (fun z => qb518 ((own_gt _ _ _).mp z))) (own_W23 hw) (own_W2 hw) 0 (by decide) (by decide) f633 rfl (mkF m 126 (own_LA2 p1 p2 p3 p4 p5 nn j0 j1 j2 jb q .unset .unset .unset .unset .unset .unset) [(.double (FP.i2d jb)), (.ref q)]) rfl (by rw [hml]; rfl) [(.double (FP.i2d jb))] [] rfl (lenOf own_pd__D_V rfl) rfl (Nat.le_refl _) (Jvm.hb hby at_126) (by decide) (by decide)
      have N634 := Fr.app N348 Nq634
      have K634 : Keep h0 T634.heap [] := K348.trans Kq634 (allS (Or.inr sz_q) (allS (Or.inr sz_A) (allS (Or.inr sz_B) (all0))))
      have pre635 := fun (τ : State) kt => pre350 τ (st634 τ kt)
      have f636 := f633.keep Kq634
      obtain ⟨_, T637, L637, X637, ⟨rfl, Nq637, eq637⟩, st637⟩ := own_virt (y := own_mn3) (b := q) X634 hx hZ hown (own_W24 hw) (own_W25 hw) (own_W27 hw) (own_W26 hw) (by decide) (rmMax_12 l Z a0 hw [] q A B kA kB (0 : Int32) (0 : Int32) (1 : Int32) (0 : UInt64) (FP.i2d j0) (FP.i2d j1) T634.heap n0 (Nat.le_trans Z0 K634.1) f636 f1_634 f2_634 f3_634 f4_634 f5_634 f6_634 naA naB nAB g_q gA gB) (own_W28 hw) (own_W2 hw) 0 (by decide) (by decide) f636 rfl (mkF m 173 (own_LA2 p1 p2 p3 p4 p5 nn j0 j1 j2 jb q (.val (.int j0)) (.val (.int j1)) (.val (.int (-100 : Int32))) .unset .unset .unset) [(.ref q)]) rfl (by rw [hml]; rfl) [] [] rfl (lenOf own_pd___D rfl) rfl (Nat.le_refl _) (Jvm.hb hby at_173) (by decide) (by decide)
      have N637 := Fr.app N634 Nq637
      have pre638 := fun (τ : State) kt => pre635 τ (by
        refine XS.iload X634.here hx rfl (Jvm.hb hby at_129) rfl ?_
        refine XS.ifNo X634.here hx rfl (Jvm.hb hby at_131) rfl ((if0 _ _).trans (feq (by decide)).1) ?_
        refine XS.iload X634.here hx rfl (Jvm.hb hby at_134) rfl ?_
        refine XS.goto X634.here hx rfl (pc0 := 136) (pc' := 141) rfl (Jvm.hb hby at_136) (by decide) (by decide) ?_
        refine XS.istore X634.here hx rfl (Jvm.hb hby at_141) rfl (l' := (own_LA2 p1 p2 p3 p4 p5 nn j0 j1 j2 jb q (.val (.int j0)) .unset .unset .unset .unset .unset)) rfl ?_
        refine XS.iload X634.here hx rfl (Jvm.hb hby at_143) rfl ?_
        refine XS.ifNo X634.here hx rfl (Jvm.hb hby at_145) rfl ((if0 _ _).trans (feq (by decide)).1) ?_
        refine XS.iload X634.here hx rfl (Jvm.hb hby at_148) rfl ?_
        refine XS.goto X634.here hx rfl (pc0 := 150) (pc' := 155) rfl (Jvm.hb hby at_150) (by decide) (by decide) ?_
        refine XS.istore X634.here hx rfl (Jvm.hb hby at_155) rfl (l' := (own_LA2 p1 p2 p3 p4 p5 nn j0 j1 j2 jb q (.val (.int j0)) (.val (.int j1)) .unset .unset .unset .unset)) rfl ?_
        refine XS.iload X634.here hx rfl (Jvm.hb hby at_157) rfl ?_
        refine XS.ifYes X634.here hx rfl (pc0 := 159) (pc' := 167) rfl (Jvm.hb hby at_159) rfl ((if0 _ _).trans (teq (by decide)).1) (by decide) (by decide) ?_
        refine XS.bipush X634.here hx rfl (Jvm.hb hby at_167) ?_
        refine XS.istore X634.here hx rfl (Jvm.hb hby at_169) rfl (l' := (own_LA2 p1 p2 p3 p4 p5 nn j0 j1 j2 jb q (.val (.int j0)) (.val (.int j1)) (.val (.int (-100 : Int32))) .unset .unset .unset)) rfl ?_
        refine XS.aload X634.here hx rfl (Jvm.hb hby at_171) rfl rfl ?_
        exact st637 τ kt)
      obtain ⟨_, T639, L639, X639, ⟨rfl, Nq639, eq639⟩, st639⟩ := own_stat (y := own_mn4) X637 hx hZ hown (own_W30 hw) (own_W31 hw) (by decide) (rm_max l Z a0 hw [] j1 (-100 : Int32) T634.heap n0 (Nat.le_trans Z0 K634.1)) (own_W33 hw) (own_W32 hw) 3 (by decide) (by decide) eq637 (mkF m 182 (own_LA2 p1 p2 p3 p4 p5 nn j0 j1 j2 jb q (.val (.int j0)) (.val (.int j1)) (.val (.int (-100 : Int32))) .unset .unset .unset) [(.int (-100 : Int32)), (.int j1), (.int j0), (.double (FP.i2d j0))]) rfl (by rw [hml]; rfl) [(.int j1), (.int (-100 : Int32))] [(.int j0), (.double (FP.i2d j0))] rfl (lenOf own_pd__II_I rfl) rfl (Nat.le_refl _) (Jvm.hb hby at_182) (by decide) (by decide)
      have N639 := Fr.app N637 Nq639
      have pre640 := fun (τ : State) kt => pre638 τ (by
        refine XS.iload X637.here hx rfl (Jvm.hb hby at_176) rfl ?_
        refine XS.iload X637.here hx rfl (Jvm.hb hby at_178) rfl ?_
        refine XS.iload X637.here hx rfl (Jvm.hb hby at_180) rfl ?_
        exact st639 τ kt)
      obtain ⟨_, T641, L641, X641, ⟨rfl, Nq641, eq641⟩, st641⟩ := own_stat (y := own_mn4) X639 hx hZ hown (own_W30 hw) (own_W31 hw) (by decide) (rm_max l Z a0 hw [] j0 (own_max j1 (-100 : Int32)) T634.heap n0 (Nat.le_trans Z0 K634.1)) (own_W33 hw) (own_W32 hw) 2 (by decide) (by decide) eq639 (mkF m 185 (own_LA2 p1 p2 p3 p4 p5 nn j0 j1 j2 jb q (.val (.int j0)) (.val (.int j1)) (.val (.int (-100 : Int32))) .unset .unset .unset) [(.int (own_max j1 (-100 : Int32))), (.int j0), (.double (FP.i2d j0))]) rfl (by rw [hml]; rfl) [(.int j0), (.int (own_max j1 (-100 : Int32)))] [(.double (FP.i2d j0))] rfl (lenOf own_pd__II_I rfl) rfl (Nat.le_refl _) (Jvm.hb hby at_185) (by decide) (by decide)
      have N641 := Fr.app N639 Nq641
      have pre642 := fun (τ : State) kt => pre640 τ (st641 τ kt)
      obtain ⟨_, T643, L643, X643, ⟨rfl, Nq643, eq643⟩, st643⟩ := own_stat (y := own_mn5) X641 hx hZ hown (own_W34 hw) (own_W35 hw) (by decide) (rmE2 l Z a0 hw [] (FP.i2d j0) (own_max j0 (own_max j1 (-100 : Int32))) jb T634.heap n0 (Nat.le_trans Z0 K634.1) (own_ne100 (by (try simp only [own_max_int, own_m100]); omega)) (own_eq (by simp only [own_max_int, own_min_int, own_m100]; omega) _)) (own_W37 hw) (own_W36 hw) 0 (by decide) (by decide) eq641 (mkF m 190 (own_LA2 p1 p2 p3 p4 p5 nn j0 j1 j2 jb q (.val (.int j0)) (.val (.int j1)) (.val (.int (-100 : Int32))) .unset .unset .unset) [(.int jb), (.int (own_max j0 (own_max j1 (-100 : Int32)))), (.double (FP.i2d j0))]) rfl (by rw [hml]; rfl) [(.double (FP.i2d j0)), (.int (own_max j0 (own_max j1 (-100 : Int32)))), (.int jb)] [] rfl (lenOf own_pd__DII_Z rfl) rfl (Nat.le_refl _) (Jvm.hb hby at_190) (by decide) (by decide)
      have N643 := Fr.app N641 Nq643
      have pre644 := fun (τ : State) kt => pre642 τ (by
        refine XS.iload X641.here hx rfl (Jvm.hb hby at_188) rfl ?_
        exact st643 τ kt)
      obtain ⟨_, T645, L645, X645, ⟨rfl, Nq645, Kq645, f1_645, f2_645, f3_645, f4_645, f5_645, f6_645⟩, st645⟩ := own_virt (y := own_mn6) (b := q) X643 hx hZ hown (own_W39 hw) (own_W40 hw) (own_W42 hw) (own_W41 hw) (by decide) (rmRem_12_x l Z a0 hw [] q (1 : Int32) A B kA kB (0 : Int32) (0 : Int32) (1 : Int32) (0 : UInt64) (FP.i2d j0) (FP.i2d j1) T634.heap n0 (Nat.le_trans Z0 K634.1) f636 f1_634 f2_634 f3_634 f4_634 f5_634 f6_634 naA naB nAB g_q gA gB (by decide)) (own_W43 hw) (own_W2 hw) 0 (by decide) (by decide) f636 eq643 (mkF m 198 (own_LA2 p1 p2 p3 p4 p5 nn j0 j1 j2 jb q (.val (.int j0)) (.val (.int j1)) (.val (.int (-100 : Int32))) (.val (.int (1 : Int32))) .unset .unset) [(.int (1 : Int32)), (.ref q)]) rfl (by rw [hml]; rfl) [(.int (1 : Int32))] [] rfl (lenOf own_pd__I_V rfl) rfl (Nat.le_refl _) (Jvm.hb hby at_198) (by decide) (by decide)
      have N645 := Fr.app N643 Nq645
      have K645 : Keep h0 T645.heap [] := K634.trans Kq645 (allS (Or.inr sz_q) (allS (Or.inr sz_A) (allS (Or.inr sz_B) (all0))))
      have pre646 := fun (τ : State) kt => pre644 τ (by
        refine XS.istore X643.here hx rfl (Jvm.hb hby at_193) rfl (l' := (own_LA2 p1 p2 p3 p4 p5 nn j0 j1 j2 jb q (.val (.int j0)) (.val (.int j1)) (.val (.int (-100 : Int32))) (.val (.int (1 : Int32))) .unset .unset)) rfl ?_
        refine XS.aload X643.here hx rfl (Jvm.hb hby at_195) rfl rfl ?_
        refine XS.iconst X643.here hx rfl (Jvm.hb hby at_197) ?_
        exact st645 τ kt)
      have f647 := f636.keep Kq645
      obtain ⟨_, T648, L648, X648, ⟨rfl, Nq648, eq648⟩, st648⟩ := own_virt (y := own_mn3) (b := q) X645 hx hZ hown (own_W24 hw) (own_W25 hw) (own_W27 hw) (own_W26 hw) (by decide) (rmMax_12 l Z a0 hw [] q A B kA kB (0 : Int32) (0 : Int32) (1 : Int32) (0 : UInt64) (FP.i2d j0) (FP.i2d j1) T645.heap n0 (Nat.le_trans Z0 K645.1) f647 f1_645 f2_645 f3_645 f4_645 f5_645 f6_645 naA naB nAB g_q gA gB) (own_W28 hw) (own_W2 hw) 0 (by decide) (by decide) f647 rfl (mkF m 203 (own_LA2 p1 p2 p3 p4 p5 nn j0 j1 j2 jb q (.val (.int j0)) (.val (.int j1)) (.val (.int (-100 : Int32))) (.val (.int (1 : Int32))) .unset .unset) [(.ref q)]) rfl (by rw [hml]; rfl) [] [] rfl (lenOf own_pd___D rfl) rfl (Nat.le_refl _) (Jvm.hb hby at_203) (by decide) (by decide)
      have N648 := Fr.app N645 Nq648
      have pre649 := fun (τ : State) kt => pre646 τ (by
        refine XS.aload X645.here hx rfl (Jvm.hb hby at_201) rfl rfl ?_
        exact st648 τ kt)
      obtain ⟨_, T650, L650, X650, ⟨rfl, Nq650, eq650⟩, st650⟩ := own_stat (y := own_mn4) X648 hx hZ hown (own_W30 hw) (own_W31 hw) (by decide) (rm_max l Z a0 hw [] j0 j1 T645.heap n0 (Nat.le_trans Z0 K645.1)) (own_W33 hw) (own_W32 hw) 2 (by decide) (by decide) eq648 (mkF m 210 (own_LA2 p1 p2 p3 p4 p5 nn j0 j1 j2 jb q (.val (.int j0)) (.val (.int j1)) (.val (.int (-100 : Int32))) (.val (.int (1 : Int32))) .unset .unset) [(.int j1), (.int j0), (.double (FP.i2d j0))]) rfl (by rw [hml]; rfl) [(.int j0), (.int j1)] [(.double (FP.i2d j0))] rfl (lenOf own_pd__II_I rfl) rfl (Nat.le_refl _) (Jvm.hb hby at_210) (by decide) (by decide)
      have N650 := Fr.app N648 Nq650
      have pre651 := fun (τ : State) kt => pre649 τ (by
        refine XS.iload X648.here hx rfl (Jvm.hb hby at_206) rfl ?_
        refine XS.iload X648.here hx rfl (Jvm.hb hby at_208) rfl ?_
        exact st650 τ kt)
      obtain ⟨_, T652, L652, X652, ⟨rfl, Nq652, eq652⟩, st652⟩ := own_stat (y := own_mn5) X650 hx hZ hown (own_W34 hw) (own_W35 hw) (by decide) (rmE2 l Z a0 hw [] (FP.i2d j0) (own_max j0 j1) jb T645.heap n0 (Nat.le_trans Z0 K645.1) (own_ne100 (by (try simp only [own_max_int, own_m100]); omega)) (own_eq (by simp only [own_max_int, own_min_int, own_m100]; omega) _)) (own_W37 hw) (own_W36 hw) 0 (by decide) (by decide) eq650 (mkF m 215 (own_LA2 p1 p2 p3 p4 p5 nn j0 j1 j2 jb q (.val (.int j0)) (.val (.int j1)) (.val (.int (-100 : Int32))) (.val (.int (1 : Int32))) .unset .unset) [(.int jb), (.int (own_max j0 j1)), (.double (FP.i2d j0))]) rfl (by rw [hml]; rfl) [(.double (FP.i2d j0)), (.int (own_max j0 j1)), (.int jb)] [] rfl (lenOf own_pd__DII_Z rfl) rfl (Nat.le_refl _) (Jvm.hb hby at_215) (by decide) (by decide)
      have N652 := Fr.app N650 Nq652
      have pre653 := fun (τ : State) kt => pre651 τ (by
        refine XS.iload X650.here hx rfl (Jvm.hb hby at_213) rfl ?_
        exact st652 τ kt)
      obtain ⟨_, T654, L654, X654, ⟨rfl, Nq654, Kq654, f1_654, f2_654, f3_654, f4_654, f5_654, f6_654⟩, st654⟩ := own_virt (y := own_mn6) (b := q) X652 hx hZ hown (own_W39 hw) (own_W40 hw) (own_W42 hw) (own_W41 hw) (by decide) (rmRem_12_x l Z a0 hw [] q (0 : Int32) A B kA kB (0 : Int32) (0 : Int32) (1 : Int32) (0 : UInt64) (FP.i2d j0) (FP.i2d j1) T645.heap n0 (Nat.le_trans Z0 K645.1) f647 f1_645 f2_645 f3_645 f4_645 f5_645 f6_645 naA naB nAB g_q gA gB (by decide)) (own_W43 hw) (own_W2 hw) 0 (by decide) (by decide) f647 eq652 (mkF m 223 (own_LA2 p1 p2 p3 p4 p5 nn j0 j1 j2 jb q (.val (.int j0)) (.val (.int j1)) (.val (.int (-100 : Int32))) (.val (.int (1 : Int32))) (.val (.int (1 : Int32))) .unset) [(.int (0 : Int32)), (.ref q)]) rfl (by rw [hml]; rfl) [(.int (0 : Int32))] [] rfl (lenOf own_pd__I_V rfl) rfl (Nat.le_refl _) (Jvm.hb hby at_223) (by decide) (by decide)
      have N654 := Fr.app N652 Nq654
      have K654 : Keep h0 T654.heap [] := K645.trans Kq654 (allS (Or.inr sz_q) (allS (Or.inr sz_A) (allS (Or.inr sz_B) (all0))))
      have pre655 := fun (τ : State) kt => pre653 τ (by
        refine XS.istore X652.here hx rfl (Jvm.hb hby at_218) rfl (l' := (own_LA2 p1 p2 p3 p4 p5 nn j0 j1 j2 jb q (.val (.int j0)) (.val (.int j1)) (.val (.int (-100 : Int32))) (.val (.int (1 : Int32))) (.val (.int (1 : Int32))) .unset)) rfl ?_
        refine XS.aload X652.here hx rfl (Jvm.hb hby at_220) rfl rfl ?_
        refine XS.iconst X652.here hx rfl (Jvm.hb hby at_222) ?_
        exact st654 τ kt)
      have f656 := f647.keep Kq654
      obtain ⟨_, T657, L657, X657, ⟨rfl, Nq657, eq657⟩, st657⟩ := own_virt (y := own_mn3) (b := q) X654 hx hZ hown (own_W24 hw) (own_W25 hw) (own_W27 hw) (own_W26 hw) (by decide) (rmMax_12 l Z a0 hw [] q A B kA kB (0 : Int32) (0 : Int32) (1 : Int32) (0 : UInt64) (FP.i2d j0) (FP.i2d j1) T654.heap n0 (Nat.le_trans Z0 K654.1) f656 f1_654 f2_654 f3_654 f4_654 f5_654 f6_654 naA naB nAB g_q gA gB) (own_W28 hw) (own_W2 hw) 0 (by decide) (by decide) f656 rfl (mkF m 228 (own_LA2 p1 p2 p3 p4 p5 nn j0 j1 j2 jb q (.val (.int j0)) (.val (.int j1)) (.val (.int (-100 : Int32))) (.val (.int (1 : Int32))) (.val (.int (1 : Int32))) .unset) [(.ref q)]) rfl (by rw [hml]; rfl) [] [] rfl (lenOf own_pd___D rfl) rfl (Nat.le_refl _) (Jvm.hb hby at_228) (by decide) (by decide)
      have N657 := Fr.app N654 Nq657
      have pre658 := fun (τ : State) kt => pre655 τ (by
        refine XS.aload X654.here hx rfl (Jvm.hb hby at_226) rfl rfl ?_
        exact st657 τ kt)
      obtain ⟨_, T659, L659, X659, ⟨rfl, Nq659, eq659⟩, st659⟩ := own_stat (y := own_mn5) X657 hx hZ hown (own_W34 hw) (own_W35 hw) (by decide) (rmE2 l Z a0 hw [] (FP.i2d j0) j0 jb T654.heap n0 (Nat.le_trans Z0 K654.1) (own_ne100 (by (try simp only [own_max_int, own_m100]); omega)) (own_eq (by simp only [own_max_int, own_min_int, own_m100]; omega) _)) (own_W37 hw) (own_W36 hw) 0 (by decide) (by decide) eq657 (mkF m 235 (own_LA2 p1 p2 p3 p4 p5 nn j0 j1 j2 jb q (.val (.int j0)) (.val (.int j1)) (.val (.int (-100 : Int32))) (.val (.int (1 : Int32))) (.val (.int (1 : Int32))) .unset) [(.int jb), (.int j0), (.double (FP.i2d j0))]) rfl (by rw [hml]; rfl) [(.double (FP.i2d j0)), (.int j0), (.int jb)] [] rfl (lenOf own_pd__DII_Z rfl) rfl (Nat.le_refl _) (Jvm.hb hby at_235) (by decide) (by decide)
      have N659 := Fr.app N657 Nq659
      have pre660 := fun (τ : State) kt => pre658 τ (by
        refine XS.iload X657.here hx rfl (Jvm.hb hby at_231) rfl ?_
        refine XS.iload X657.here hx rfl (Jvm.hb hby at_233) rfl ?_
        exact st659 τ kt)
      have pre661 := fun (τ : State) kt => pre660 τ (by
        refine XS.istore X659.here hx rfl (Jvm.hb hby at_238) rfl (l' := (own_LA2 p1 p2 p3 p4 p5 nn j0 j1 j2 jb q (.val (.int j0)) (.val (.int j1)) (.val (.int (-100 : Int32))) (.val (.int (1 : Int32))) (.val (.int (1 : Int32))) (.val (.int (1 : Int32))))) rfl ?_
        refine XS.iload X659.here hx rfl (Jvm.hb hby at_240) rfl ?_
        refine XS.ifNo X659.here hx rfl (Jvm.hb hby at_242) rfl ((if0 _ _).trans (feq (by decide)).1) ?_
        refine XS.iload X659.here hx rfl (Jvm.hb hby at_245) rfl ?_
        refine XS.ifNo X659.here hx rfl (Jvm.hb hby at_247) rfl ((if0 _ _).trans (feq (by decide)).1) ?_
        refine XS.iload X659.here hx rfl (Jvm.hb hby at_250) rfl ?_
        refine XS.ifNo X659.here hx rfl (Jvm.hb hby at_252) rfl ((if0 _ _).trans (feq (by decide)).1) ?_
        refine XS.iconst X659.here hx rfl (Jvm.hb hby at_255) ?_
        refine XS.goto X659.here hx rfl (pc0 := 256) (pc' := 260) rfl (Jvm.hb hby at_256) (by decide) (by decide) ?_
        exact kt)
      obtain ⟨fs, hrL, hrun, hended, hW, hsame⟩ := X659.leave (v := some (.int (1 : Int32))) (fun h => by rw [Bd.returns] at h; cases h)
      refine ⟨_, _, cast (congrFun hPS _) (pre661 _ ?_), hrun, hended, _, _, rfl, ?_, ⟨_, rfl⟩, hW, hsame.mono (by decide) (by decide)⟩
      · show Steps p.tables e below (T659.setTop (mkF m 260 (own_LA2 p1 p2 p3 p4 p5 nn j0 j1 j2 jb q (.val (.int j0)) (.val (.int j1)) (.val (.int (-100 : Int32))) (.val (.int (1 : Int32))) (.val (.int (1 : Int32))) (.val (.int (1 : Int32)))) [(.int (1 : Int32))])) _
        exact retN X659 hx (t := .boolean) Bd.returns (by simp) (Jvm.hb hby at_260) hrL
      · show Q0 n0 _ T659.heap _
        exact ⟨rfl, N659⟩
    have f718 := f300.keep Kq301
    obtain ⟨_, T719, L719, X719, ⟨rfl, Nq719, Kq719, f1_719, f2_719, f3_719, f4_719, f5_719, f6_719⟩, st719⟩ := own_virt (y := own_mn7) (b := q) X301 hx hZ hown (own_W44 hw) (own_W45 hw) (own_W47 hw) (own_W46 hw) (by decide) (rmAdd_23_ce l Z a0 hw [] q (0 : Int32) (FP.i2d j0) A B kA kB (0 : Int32) (0 : Int32) (1 : Int32) (0 : UInt64) (0 : UInt64) (FP.i2d j1) T301.heap n0 (Nat.le_trans Z0 K301.1) f718 f1_301 f2_301 f3_301 f4_301 f5_301 f6_301 naA naB nAB g_q gA gB (fun z => qa304 ((own_gt _ _ _).mp z))) (own_W48 hw) (own_W2 hw) 0 (by decide) (by decide) f718 rfl (mkF m 118 (own_LA2 p1 p2 p3 p4 p5 nn j0 j1 j2 jb q .unset .unset .unset .unset .unset .unset) [(.double (FP.i2d j0)), (.int (0 : Int32)), (.ref q)]) rfl (by rw [hml]; rfl) [(.int (0 : Int32)), (.double (FP.i2d j0))] [] rfl (lenOf own_pd__ID_V rfl) rfl (Nat.le_refl _) (Jvm.hb hby at_118) (by decide) (by decide)
    have N719 := Fr.app N301 Nq719
    have K719 : Keep h0 T719.heap [] := K301.trans Kq719 (allS (Or.inr sz_q) (allS (Or.inr sz_A) (allS (Or.inr sz_B) (all0))))
    have pre720 := fun (τ : State) kt => pre303 τ (st719 τ kt)
    have pre721 := fun (τ : State) kt => pre720 τ (by
      refine XS.aload X719.here hx rfl (Jvm.hb hby at_121) rfl rfl ?_
      refine XS.iload X719.here hx rfl (Jvm.hb hby at_123) rfl ?_
      refine own_i2d X719.here hx rfl (Jvm.hb hby at_125) rfl ?_
      exact kt)
    by_cases qb722 : jb.toInt < j0.toInt
    · skip
      have f723 := f718.keep Kq719
      obtain ⟨_, T724, L724, X724, ⟨rfl, Nq724, Kq724, f1_724, f2_724, f3_724, f4_724, f5_724, f6_724⟩, st724⟩ := own_virt (y := own_mn2) (b := q) X719 hx hZ hown (own_W19 hw) (own_W20 hw) (own_W22 hw) (own_W21 hw) (by decide) (rmCap_23_os l Z a0 hw [] q (FP.i2d jb) A B kA kB (0 : Int32) (0 : Int32) (0 : Int32) (0 : UInt64) (0 : UInt64) (FP.i2d j0) T719.heap n0 (Nat.le_trans Z0 K719.1) f723 f1_719 f2_719 f3_719 f4_719 f5_719 f6_719 naA naB nAB g_q gA gB ((own_gt _ _ _).mpr qb722)) (own_W23 hw) (own_W2 hw) 0 (by decide) (by decide) f723 rfl (mkF m 126 (own_LA2 p1 p2 p3 p4 p5 nn j0 j1 j2 jb q .unset .unset .unset .unset .unset .unset) [(.double (FP.i2d jb)), (.ref q)]) rfl (by rw [hml]; rfl) [(.double (FP.i2d jb))] [] rfl (lenOf own_pd__D_V rfl) rfl (Nat.le_refl _) (Jvm.hb hby at_126) (by decide) (by decide)
      have N724 := Fr.app N719 Nq724
      have K724 : Keep h0 T724.heap [] := K719.trans Kq724 (allS (Or.inr sz_q) (allS (Or.inr sz_A) (allS (Or.inr sz_B) (all0))))
      have pre725 := fun (τ : State) kt => pre721 τ (st724 τ kt)
      have f726 := f723.keep Kq724
      obtain ⟨_, T727, L727, X727, ⟨rfl, Nq727, eq727⟩, st727⟩ := own_virt (y := own_mn3) (b := q) X724 hx hZ hown (own_W24 hw) (own_W25 hw) (own_W27 hw) (own_W26 hw) (by decide) (rmMax_23 l Z a0 hw [] q A B kA kB (0 : Int32) (0 : Int32) (0 : Int32) (0 : UInt64) (0 : UInt64) (FP.i2d jb) T724.heap n0 (Nat.le_trans Z0 K724.1) f726 f1_724 f2_724 f3_724 f4_724 f5_724 f6_724 naA naB nAB g_q gA gB) (own_W28 hw) (own_W2 hw) 0 (by decide) (by decide) f726 rfl (mkF m 173 (own_LA2 p1 p2 p3 p4 p5 nn j0 j1 j2 jb q (.val (.int j0)) (.val (.int j1)) (.val (.int (-100 : Int32))) .unset .unset .unset) [(.ref q)]) rfl (by rw [hml]; rfl) [] [] rfl (lenOf own_pd___D rfl) rfl (Nat.le_refl _) (Jvm.hb hby at_173) (by decide) (by decide)
      have N727 := Fr.app N724 Nq727
      have pre728 := fun (τ : State) kt => pre725 τ (by
        refine XS.iload X724.here hx rfl (Jvm.hb hby at_129) rfl ?_
        refine XS.ifNo X724.here hx rfl (Jvm.hb hby at_131) rfl ((if0 _ _).trans (feq (by decide)).1) ?_
        refine XS.iload X724.here hx rfl (Jvm.hb hby at_134) rfl ?_
        refine XS.goto X724.here hx rfl (pc0 := 136) (pc' := 141) rfl (Jvm.hb hby at_136) (by decide) (by decide) ?_
        refine XS.istore X724.here hx rfl (Jvm.hb hby at_141) rfl (l' := (own_LA2 p1 p2 p3 p4 p5 nn j0 j1 j2 jb q (.val (.int j0)) .unset .unset .unset .unset .unset)) rfl ?_
        refine XS.iload X724.here hx rfl (Jvm.hb hby at_143) rfl ?_
        refine XS.ifNo X724.here hx rfl (Jvm.hb hby at_145) rfl ((if0 _ _).trans (feq (by decide)).1) ?_
        refine XS.iload X724.here hx rfl (Jvm.hb hby at_148) rfl ?_
        refine XS.goto X724.here hx rfl (pc0 := 150) (pc' := 155) rfl (Jvm.hb hby at_150) (by decide) (by decide) ?_
        refine XS.istore X724.here hx rfl (Jvm.hb hby at_155) rfl (l' := (own_LA2 p1 p2 p3 p4 p5 nn j0 j1 j2 jb q (.val (.int j0)) (.val (.int j1)) .unset .unset .unset .unset)) rfl ?_
        refine XS.iload X724.here hx rfl (Jvm.hb hby at_157) rfl ?_
        refine XS.ifYes X724.here hx rfl (pc0 := 159) (pc' := 167) rfl (Jvm.hb hby at_159) rfl ((if0 _ _).trans (teq (by decide)).1) (by decide) (by decide) ?_
        refine XS.bipush X724.here hx rfl (Jvm.hb hby at_167) ?_
        refine XS.istore X724.here hx rfl (Jvm.hb hby at_169) rfl (l' := (own_LA2 p1 p2 p3 p4 p5 nn j0 j1 j2 jb q (.val (.int j0)) (.val (.int j1)) (.val (.int (-100 : Int32))) .unset .unset .unset)) rfl ?_
        refine XS.aload X724.here hx rfl (Jvm.hb hby at_171) rfl rfl ?_
        exact st727 τ kt)
      obtain ⟨_, T729, L729, X729, ⟨rfl, Nq729, eq729⟩, st729⟩ := own_stat (y := own_mn4) X727 hx hZ hown (own_W30 hw) (own_W31 hw) (by decide) (rm_max l Z a0 hw [] j1 (-100 : Int32) T724.heap n0 (Nat.le_trans Z0 K724.1)) (own_W33 hw) (own_W32 hw) 3 (by decide) (by decide) eq727 (mkF m 182 (own_LA2 p1 p2 p3 p4 p5 nn j0 j1 j2 jb q (.val (.int j0)) (.val (.int j1)) (.val (.int (-100 : Int32))) .unset .unset .unset) [(.int (-100 : Int32)), (.int j1), (.int j0), (.double (FP.i2d jb))]) rfl (by rw [hml]; rfl) [(.int j1), (.int (-100 : Int32))] [(.int j0), (.double (FP.i2d jb))] rfl (lenOf own_pd__II_I rfl) rfl (Nat.le_refl _) (Jvm.hb hby at_182) (by decide) (by decide)
      have N729 := Fr.app N727 Nq729
      have pre730 := fun (τ : State) kt => pre728 τ (by
        refine XS.iload X727.here hx rfl (Jvm.hb hby at_176) rfl ?_
        refine XS.iload X727.here hx rfl (Jvm.hb hby at_178) rfl ?_
        refine XS.iload X727.here hx rfl (Jvm.hb hby at_180) rfl ?_
        exact st729 τ kt)
      obtain ⟨_, T731, L731, X731, ⟨rfl, Nq731, eq731⟩, st731⟩ := own_stat (y := own_mn4) X729 hx hZ hown (own_W30 hw) (own_W31 hw) (by decide) (rm_max l Z a0 hw [] j0 (own_max j1 (-100 : Int32)) T724.heap n0 (Nat.le_trans Z0 K724.1)) (own_W33 hw) (own_W32 hw) 2 (by decide) (by decide) eq729 (mkF m 185 (own_LA2 p1 p2 p3 p4 p5 nn j0 j1 j2 jb q (.val (.int j0)) (.val (.int j1)) (.val (.int (-100 : Int32))) .unset .unset .unset) [(.int (own_max j1 (-100 : Int32))), (.int j0), (.double (FP.i2d jb))]) rfl (by rw [hml]; rfl) [(.int j0), (.int (own_max j1 (-100 : Int32)))] [(.double (FP.i2d jb))] rfl (lenOf own_pd__II_I rfl) rfl (Nat.le_refl _) (Jvm.hb hby at_185) (by decide) (by decide)
      have N731 := Fr.app N729 Nq731
      have pre732 := fun (τ : State) kt => pre730 τ (st731 τ kt)
      obtain ⟨_, T733, L733, X733, ⟨rfl, Nq733, eq733⟩, st733⟩ := own_stat (y := own_mn5) X731 hx hZ hown (own_W34 hw) (own_W35 hw) (by decide) (rmE2 l Z a0 hw [] (FP.i2d jb) (own_max j0 (own_max j1 (-100 : Int32))) jb T724.heap n0 (Nat.le_trans Z0 K724.1) (own_ne100 (by (try simp only [own_max_int, own_m100]); omega)) (own_eq (by simp only [own_max_int, own_min_int, own_m100]; omega) _)) (own_W37 hw) (own_W36 hw) 0 (by decide) (by decide) eq731 (mkF m 190 (own_LA2 p1 p2 p3 p4 p5 nn j0 j1 j2 jb q (.val (.int j0)) (.val (.int j1)) (.val (.int (-100 : Int32))) .unset .unset .unset) [(.int jb), (.int (own_max j0 (own_max j1 (-100 : Int32)))), (.double (FP.i2d jb))]) rfl (by rw [hml]; rfl) [(.double (FP.i2d jb)), (.int (own_max j0 (own_max j1 (-100 : Int32)))), (.int jb)] [] rfl (lenOf own_pd__DII_Z rfl) rfl (Nat.le_refl _) (Jvm.hb hby at_190) (by decide) (by decide)
      have N733 := Fr.app N731 Nq733
      have pre734 := fun (τ : State) kt => pre732 τ (by
        refine XS.iload X731.here hx rfl (Jvm.hb hby at_188) rfl ?_
        exact st733 τ kt)
      obtain ⟨_, T735, L735, X735, ⟨rfl, Nq735, Kq735, f1_735, f2_735, f3_735, f4_735, f5_735, f6_735⟩, st735⟩ := own_virt (y := own_mn6) (b := q) X733 hx hZ hown (own_W39 hw) (own_W40 hw) (own_W42 hw) (own_W41 hw) (by decide) (rmRem_23_x l Z a0 hw [] q (1 : Int32) A B kA kB (0 : Int32) (0 : Int32) (0 : Int32) (0 : UInt64) (0 : UInt64) (FP.i2d jb) T724.heap n0 (Nat.le_trans Z0 K724.1) f726 f1_724 f2_724 f3_724 f4_724 f5_724 f6_724 naA naB nAB g_q gA gB (by decide)) (own_W43 hw) (own_W2 hw) 0 (by decide) (by decide) f726 eq733 (mkF m 198 (own_LA2 p1 p2 p3 p4 p5 nn j0 j1 j2 jb q (.val (.int j0)) (.val (.int j1)) (.val (.int (-100 : Int32))) (.val (.int (1 : Int32))) .unset .unset) [(.int (1 : Int32)), (.ref q)]) rfl (by rw [hml]; rfl) [(.int (1 : Int32))] [] rfl (lenOf own_pd__I_V rfl) rfl (Nat.le_refl _) (Jvm.hb hby at_198) (by decide) (by decide)
      have N735 := Fr.app N733 Nq735
      have K735 : Keep h0 T735.heap [] := K724.trans Kq735 (allS (Or.inr sz_q) (allS (Or.inr sz_A) (allS (Or.inr sz_B) (all0))))
      have pre736 := fun (τ : State) kt => pre734 τ (by
        refine XS.istore X733.here hx rfl (Jvm.hb hby at_193) rfl (l' := (own_LA2 p1 p2 p3 p4 p5 nn j0 j1 j2 jb q (.val (.int j0)) (.val (.int j1)) (.val (.int (-100 : Int32))) (.val (.int (1 : Int32))) .unset .unset)) rfl ?_
        refine XS.aload X733.here hx rfl (Jvm.hb hby at_195) rfl rfl ?_
        refine XS.iconst X733.here hx rfl (Jvm.hb hby at_197) ?_
        exact st735 τ kt)
      have f737 := f726.keep Kq735
      obtain ⟨_, T738, L738, X738, ⟨rfl, Nq738, eq738⟩, st738⟩ := own_virt (y := own_mn3) (b := q) X735 hx hZ hown (own_W24 hw) (own_W25 hw) (own_W27 hw) (own_W26 hw) (by decide) (rmMax_23 l Z a0 hw [] q A B kA kB (0 : Int32) (0 : Int32) (0 : Int32) (0 : UInt64) (0 : UInt64) (FP.i2d jb) T735.heap n0 (Nat.le_trans Z0 K735.1) f737 f1_735 f2_735 f3_735 f4_735 f5_735 f6_735 naA naB nAB g_q gA gB) (own_W28 hw) (own_W2 hw) 0 (by decide) (by decide) f737 rfl (mkF m 203 (own_LA2 p1 p2 p3 p4 p5 nn j0 j1 j2 jb q (.val (.int j0)) (.val (.int j1)) (.val (.int (-100 : Int32))) (.val (.int (1 : Int32))) .unset .unset) [(.ref q)]) rfl (by rw [hml]; rfl) [] [] rfl (lenOf own_pd___D rfl) rfl (Nat.le_refl _) (Jvm.hb hby at_203) (by decide) (by decide)
      have N738 := Fr.app N735 Nq738
      have pre739 := fun (τ : State) kt => pre736 τ (by
        refine XS.aload X735.here hx rfl (Jvm.hb hby at_201) rfl rfl ?_
        exact st738 τ kt)
      obtain ⟨_, T740, L740, X740, ⟨rfl, Nq740, eq740⟩, st740⟩ := own_stat (y := own_mn4) X738 hx hZ hown (own_W30 hw) (own_W31 hw) (by decide) (rm_max l Z a0 hw [] j0 j1 T735.heap n0 (Nat.le_trans Z0 K735.1)) (own_W33 hw) (own_W32 hw) 2 (by decide) (by decide) eq738 (mkF m 210 (own_LA2 p1 p2 p3 p4 p5 nn j0 j1 j2 jb q (.val (.int j0)) (.val (.int j1)) (.val (.int (-100 : Int32))) (.val (.int (1 : Int32))) .unset .unset) [(.int j1), (.int j0), (.double (FP.i2d jb))]) rfl (by rw [hml]; rfl) [(.int j0), (.int j1)] [(.double (FP.i2d jb))] rfl (lenOf own_pd__II_I rfl) rfl (Nat.le_refl _) (Jvm.hb hby at_210) (by decide) (by decide)
      have N740 := Fr.app N738 Nq740
      have pre741 := fun (τ : State) kt => pre739 τ (by
        refine XS.iload X738.here hx rfl (Jvm.hb hby at_206) rfl ?_
        refine XS.iload X738.here hx rfl (Jvm.hb hby at_208) rfl ?_
        exact st740 τ kt)
      obtain ⟨_, T742, L742, X742, ⟨rfl, Nq742, eq742⟩, st742⟩ := own_stat (y := own_mn5) X740 hx hZ hown (own_W34 hw) (own_W35 hw) (by decide) (rmE2 l Z a0 hw [] (FP.i2d jb) (own_max j0 j1) jb T735.heap n0 (Nat.le_trans Z0 K735.1) (own_ne100 (by (try simp only [own_max_int, own_m100]); omega)) (own_eq (by simp only [own_max_int, own_min_int, own_m100]; omega) _)) (own_W37 hw) (own_W36 hw) 0 (by decide) (by decide) eq740 (mkF m 215 (own_LA2 p1 p2 p3 p4 p5 nn j0 j1 j2 jb q (.val (.int j0)) (.val (.int j1)) (.val (.int (-100 : Int32))) (.val (.int (1 : Int32))) .unset .unset) [(.int jb), (.int (own_max j0 j1)), (.double (FP.i2d jb))]) rfl (by rw [hml]; rfl) [(.double (FP.i2d jb)), (.int (own_max j0 j1)), (.int jb)] [] rfl (lenOf own_pd__DII_Z rfl) rfl (Nat.le_refl _) (Jvm.hb hby at_215) (by decide) (by decide)
      have N742 := Fr.app N740 Nq742
      have pre743 := fun (τ : State) kt => pre741 τ (by
        refine XS.iload X740.here hx rfl (Jvm.hb hby at_213) rfl ?_
        exact st742 τ kt)
      obtain ⟨_, T744, L744, X744, ⟨rfl, Nq744, Kq744, f1_744, f2_744, f3_744, f4_744, f5_744, f6_744⟩, st744⟩ := own_virt (y := own_mn6) (b := q) X742 hx hZ hown (own_W39 hw) (own_W40 hw) (own_W42 hw) (own_W41 hw) (by decide) (rmRem_23_x l Z a0 hw [] q (0 : Int32) A B kA kB (0 : Int32) (0 : Int32) (0 : Int32) (0 : UInt64) (0 : UInt64) (FP.i2d jb) T735.heap n0 (Nat.le_trans Z0 K735.1) f737 f1_735 f2_735 f3_735 f4_735 f5_735 f6_735 naA naB nAB g_q gA gB (by decide)) (own_W43 hw) (own_W2 hw) 0 (by decide) (by decide) f737 eq742 (mkF m 223 (own_LA2 p1 p2 p3 p4 p5 nn j0 j1 j2 jb q (.val (.int j0)) (.val (.int j1)) (.val (.int (-100 : Int32))) (.val (.int (1 : Int32))) (.val (.int (1 : Int32))) .unset) [(.int (0 : Int32)), (.ref q)]) rfl (by rw [hml]; rfl) [(.int (0 : Int32))] [] rfl (lenOf own_pd__I_V rfl) rfl (Nat.le_refl _) (Jvm.hb hby at_223) (by decide) (by decide)
      have N744 := Fr.app N742 Nq744
      have K744 : Keep h0 T744.heap [] := K735.trans Kq744 (allS (Or.inr sz_q) (allS (Or.inr sz_A) (allS (Or.inr sz_B) (all0))))
      have pre745 := fun (τ : State) kt => pre743 τ (by
        refine XS.istore X742.here hx rfl (Jvm.hb hby at_218) rfl (l' := (own_LA2 p1 p2 p3 p4 p5 nn j0 j1 j2 jb q (.val (.int j0)) (.val (.int j1)) (.val (.int (-100 : Int32))) (.val (.int (1 : Int32))) (.val (.int (1 : Int32))) .unset)) rfl ?_
        refine XS.aload X742.here hx rfl (Jvm.hb hby at_220) rfl rfl ?_
        refine XS.iconst X742.here hx rfl (Jvm.hb hby at_222) ?_
        exact st744 τ kt)
      have f746 := f737.keep Kq744
      obtain ⟨_, T747, L747, X747, ⟨rfl, Nq747, eq747⟩, st747⟩ := own_virt (y := own_mn3) (b := q) X744 hx hZ hown (own_W24 hw) (own_W25 hw) (own_W27 hw) (own_W26 hw) (by decide) (rmMax_23 l Z a0 hw [] q A B kA kB (0 : Int32) (0 : Int32) (0 : Int32) (0 : UInt64) (0 : UInt64) (FP.i2d jb) T744.heap n0 (Nat.le_trans Z0 K744.1) f746 f1_744 f2_744 f3_744 f4_744 f5_744 f6_744 naA naB nAB g_q gA gB) (own_W28 hw) (own_W2 hw) 0 (by decide) (by decide) f746 rfl (mkF m 228 (own_LA2 p1 p2 p3 p4 p5 nn j0 j1 j2 jb q (.val (.int j0)) (.val (.int j1)) (.val (.int (-100 : Int32))) (.val (.int (1 : Int32))) (.val (.int (1 : Int32))) .unset) [(.ref q)]) rfl (by rw [hml]; rfl) [] [] rfl (lenOf own_pd___D rfl) rfl (Nat.le_refl _) (Jvm.hb hby at_228) (by decide) (by decide)
      have N747 := Fr.app N744 Nq747
      have pre748 := fun (τ : State) kt => pre745 τ (by
        refine XS.aload X744.here hx rfl (Jvm.hb hby at_226) rfl rfl ?_
        exact st747 τ kt)
      obtain ⟨_, T749, L749, X749, ⟨rfl, Nq749, eq749⟩, st749⟩ := own_stat (y := own_mn5) X747 hx hZ hown (own_W34 hw) (own_W35 hw) (by decide) (rmE2 l Z a0 hw [] (FP.i2d jb) j0 jb T744.heap n0 (Nat.le_trans Z0 K744.1) (own_ne100 (by (try simp only [own_max_int, own_m100]); omega)) (own_eq (by simp only [own_max_int, own_min_int, own_m100]; omega) _)) (own_W37 hw) (own_W36 hw) 0 (by decide) (by decide) eq747 (mkF m 235 (own_LA2 p1 p2 p3 p4 p5 nn j0 j1 j2 jb q (.val (.int j0)) (.val (.int j1)) (.val (.int (-100 : Int32))) (.val (.int (1 : Int32))) (.val (.int (1 : Int32))) .unset) [(.int jb), (.int j0), (.double (FP.i2d jb))]) rfl (by rw [hml]; rfl) [(.double (FP.i2d jb)), (.int j0), (.int jb)] [] rfl (lenOf own_pd__DII_Z rfl) rfl (Nat.le_refl _) (Jvm.hb hby at_235) (by decide) (by decide)
      have N749 := Fr.app N747 Nq749
      have pre750 := fun (τ : State) kt => pre748 τ (by
        refine XS.iload X747.here hx rfl (Jvm.hb hby at_231) rfl ?_
        refine XS.iload X747.here hx rfl (Jvm.hb hby at_233) rfl ?_
        exact st749 τ kt)
      have pre751 := fun (τ : State) kt => pre750 τ (by
        refine XS.istore X749.here hx rfl (Jvm.hb hby at_238) rfl (l' := (own_LA2 p1 p2 p3 p4 p5 nn j0 j1 j2 jb q (.val (.int j0)) (.val (.int j1)) (.val (.int (-100 : Int32))) (.val (.int (1 : Int32))) (.val (.int (1 : Int32))) (.val (.int (1 : Int32))))) rfl ?_
        refine XS.iload X749.here hx rfl (Jvm.hb hby at_240) rfl ?_
        refine XS.ifNo X749.here hx rfl (Jvm.hb hby at_242) rfl ((if0 _ _).trans (feq (by decide)).1) ?_
        refine XS.iload X749.here hx rfl (Jvm.hb hby at_245) rfl ?_
        refine XS.ifNo X749.here hx rfl (Jvm.hb hby at_247) rfl ((if0 _ _).trans (feq (by decide)).1) ?_
        refine XS.iload X749.here hx rfl (Jvm.hb hby at_250) rfl ?_
        refine XS.ifNo X749.here hx rfl (Jvm.hb hby at_252) rfl ((if0 _ _).trans (feq (by decide)).1) ?_
        refine XS.iconst X749.here hx rfl (Jvm.hb hby at_255) ?_
        refine XS.goto X749.here hx rfl (pc0 := 256) (pc' := 260) rfl (Jvm.hb hby at_256) (by decide) (by decide) ?_
        exact kt)
      obtain ⟨fs, hrL, hrun, hended, hW, hsame⟩ := X749.leave (v := some (.int (1 : Int32))) (fun h => by rw [Bd.returns] at h; cases h)
      refine ⟨_, _, cast (congrFun hPS _) (pre751 _ ?_), hrun, hended, _, _, rfl, ?_, ⟨_, rfl⟩, hW, hsame.mono (by decide) (by decide)⟩
      · show Steps p.tables e below (T749.setTop (mkF m 260 (own_LA2 p1 p2 p3 p4 p5 nn j0 j1 j2 jb q (.val (.int j0)) (.val (.int j1)) (.val (.int (-100 : Int32))) (.val (.int (1 : Int32))) (.val (.int (1 : Int32))) (.val (.int (1 : Int32)))) [(.int (1 : Int32))])) _
        exact retN X749 hx (t := .boolean) Bd.returns (by simp) (Jvm.hb hby at_260) hrL
      · show Q0 n0 _ T749.heap _
        exact ⟨rfl, N749⟩
    have f752 := f718.keep Kq719
    obtain ⟨_, T753, L753, X753, ⟨rfl, Nq753, Kq753, f1_753, f2_753, f3_753, f4_753, f5_753, f6_753⟩, st753⟩ := own_virt (y := own_mn2) (b := q) X719 hx hZ hown (own_W19 hw) (own_W20 hw) (own_W22 hw) (own_W21 hw) (by decide) (rmCap_23_ok l Z a0 hw [] q (FP.i2d jb) A B kA kB (0 : Int32) (0 : Int32) (0 : Int32) (0 : UInt64) (0 : UInt64) (FP.i2d j0) T719.heap n0 (Nat.le_trans Z0 K719.1) f752 f1_719 f2_719 f3_719 f4_719 f5_719 f6_719 naA naB nAB g_q gA gB (fun z => qb722 ((own_gt _ _ _).mp z))) (own_W23 hw) (own_W2 hw) 0 (by decide) (by decide) f752 rfl (mkF m 126 (own_LA2 p1 p2 p3 p4 p5 nn j0 j1 j2 jb q .unset .unset .unset .unset .unset .unset) [(.double (FP.i2d jb)), (.ref q)]) rfl (by rw [hml]; rfl) [(.double (FP.i2d jb))] [] rfl (lenOf own_pd__D_V rfl) rfl (Nat.le_refl _) (Jvm.hb hby at_126) (by decide) (by decide)
    have N753 := Fr.app N719 Nq753
    have K753 : Keep h0 T753.heap [] := K719.trans Kq753 (allS (Or.inr sz_q) (allS (Or.inr sz_A) (allS (Or.inr sz_B) (all0))))
    have pre754 := fun (τ : State) kt => pre721 τ (st753 τ kt)
    have f755 := f752.keep Kq753
    obtain ⟨_, T756, L756, X756, ⟨rfl, Nq756, eq756⟩, st756⟩ := own_virt (y := own_mn3) (b := q) X753 hx hZ hown (own_W24 hw) (own_W25 hw) (own_W27 hw) (own_W26 hw) (by decide) (rmMax_23 l Z a0 hw [] q A B kA kB (0 : Int32) (0 : Int32) (0 : Int32) (0 : UInt64) (0 : UInt64) (FP.i2d j0) T753.heap n0 (Nat.le_trans Z0 K753.1) f755 f1_753 f2_753 f3_753 f4_753 f5_753 f6_753 naA naB nAB g_q gA gB) (own_W28 hw) (own_W2 hw) 0 (by decide) (by decide) f755 rfl (mkF m 173 (own_LA2 p1 p2 p3 p4 p5 nn j0 j1 j2 jb q (.val (.int j0)) (.val (.int j1)) (.val (.int (-100 : Int32))) .unset .unset .unset) [(.ref q)]) rfl (by rw [hml]; rfl) [] [] rfl (lenOf own_pd___D rfl) rfl (Nat.le_refl _) (Jvm.hb hby at_173) (by decide) (by decide)
    have N756 := Fr.app N753 Nq756
    have pre757 := fun (τ : State) kt => pre754 τ (by
      refine XS.iload X753.here hx rfl (Jvm.hb hby at_129) rfl ?_
      refine XS.ifNo X753.here hx rfl (Jvm.hb hby at_131) rfl ((if0 _ _).trans (feq (by decide)).1) ?_
      refine XS.iload X753.here hx rfl (Jvm.hb hby at_134) rfl ?_
      refine XS.goto X753.here hx rfl (pc0 := 136) (pc' := 141) rfl (Jvm.hb hby at_136) (by decide) (by decide) ?_
      refine XS.istore X753.here hx rfl (Jvm.hb hby at_141) rfl (l' := (own_LA2 p1 p2 p3 p4 p5 nn j0 j1 j2 jb q (.val (.int j0)) .unset .unset .unset .unset .unset)) rfl ?_
      refine XS.iload X753.here hx rfl (Jvm.hb hby at_143) rfl ?_
      refine XS.ifNo X753.here hx rfl (Jvm.hb hby at_145) rfl ((if0 _ _).trans (feq (by decide)).1) ?_
      refine XS.iload X753.here hx rfl (Jvm.hb hby at_148) rfl ?_
      refine XS.goto X753.here hx rfl (pc0 := 150) (pc' := 155) rfl (Jvm.hb hby at_150) (by decide) (by decide) ?_
      refine XS.istore X753.here hx rfl (Jvm.hb hby at_155) rfl (l' := (own_LA2 p1 p2 p3 p4 p5 nn j0 j1 j2 jb q (.val (.int j0)) (.val (.int j1)) .unset .unset .unset .unset)) rfl ?_
      refine XS.iload X753.here hx rfl (Jvm.hb hby at_157) rfl ?_
      refine XS.ifYes X753.here hx rfl (pc0 := 159) (pc' := 167) rfl (Jvm.hb hby at_159) rfl ((if0 _ _).trans (teq (by decide)).1) (by decide) (by decide) ?_
      refine XS.bipush X753.here hx rfl (Jvm.hb hby at_167) ?_
      refine XS.istore X753.here hx rfl (Jvm.hb hby at_169) rfl (l' := (own_LA2 p1 p2 p3 p4 p5 nn j0 j1 j2 jb q (.val (.int j0)) (.val (.int j1)) (.val (.int (-100 : Int32))) .unset .unset .unset)) rfl ?_
      refine XS.aload X753.here hx rfl (Jvm.hb hby at_171) rfl rfl ?_
      exact st756 τ kt)
    obtain ⟨_, T758, L758, X758, ⟨rfl, Nq758, eq758⟩, st758⟩ := own_stat (y := own_mn4) X756 hx hZ hown (own_W30 hw) (own_W31 hw) (by decide) (rm_max l Z a0 hw [] j1 (-100 : Int32) T753.heap n0 (Nat.le_trans Z0 K753.1)) (own_W33 hw) (own_W32 hw) 3 (by decide) (by decide) eq756 (mkF m 182 (own_LA2 p1 p2 p3 p4 p5 nn j0 j1 j2 jb q (.val (.int j0)) (.val (.int j1)) (.val (.int (-100 : Int32))) .unset .unset .unset) [(.int (-100 : Int32)), (.int j1), (.int j0), (.double (FP.i2d j0))]) rfl (by rw [hml]; rfl) [(.int j1), (.int (-100 : Int32))] [(.int j0), (.double (FP.i2d j0))] rfl (lenOf own_pd__II_I rfl) rfl (Nat.le_refl _) (Jvm.hb hby at_182) (by decide) (by decide)
    have N758 := Fr.app N756 Nq758
    have pre759 := fun (τ : State) kt => pre757 τ (by
      refine XS.iload X756.here hx rfl (Jvm.hb hby at_176) rfl ?_
      refine XS.iload X756.here hx rfl (Jvm.hb hby at_178) rfl ?_
      refine XS.iload X756.here hx rfl (Jvm.hb hby at_180) rfl ?_
      exact st758 τ kt)
    obtain ⟨_, T760, L760, X760, ⟨rfl, Nq760, eq760⟩, st760⟩ := own_stat (y := own_mn4) X758 hx hZ hown (own_W30 hw) (own_W31 hw) (by decide) (rm_max l Z a0 hw [] j0 (own_max j1 (-100 : Int32)) T753.heap n0 (Nat.le_trans Z0 K753.1)) (own_W33 hw) (own_W32 hw) 2 (by decide) (by decide) eq758 (mkF m 185 (own_LA2 p1 p2 p3 p4 p5 nn j0 j1 j2 jb q (.val (.int j0)) (.val (.int j1)) (.val (.int (-100 : Int32))) .unset .unset .unset) [(.int (own_max j1 (-100 : Int32))), (.int j0), (.double (FP.i2d j0))]) rfl (by rw [hml]; rfl) [(.int j0), (.int (own_max j1 (-100 : Int32)))] [(.double (FP.i2d j0))] rfl (lenOf own_pd__II_I rfl) rfl (Nat.le_refl _) (Jvm.hb hby at_185) (by decide) (by decide)
    have N760 := Fr.app N758 Nq760
    have pre761 := fun (τ : State) kt => pre759 τ (st760 τ kt)
    obtain ⟨_, T762, L762, X762, ⟨rfl, Nq762, eq762⟩, st762⟩ := own_stat (y := own_mn5) X760 hx hZ hown (own_W34 hw) (own_W35 hw) (by decide) (rmE2 l Z a0 hw [] (FP.i2d j0) (own_max j0 (own_max j1 (-100 : Int32))) jb T753.heap n0 (Nat.le_trans Z0 K753.1) (own_ne100 (by (try simp only [own_max_int, own_m100]); omega)) (own_eq (by simp only [own_max_int, own_min_int, own_m100]; omega) _)) (own_W37 hw) (own_W36 hw) 0 (by decide) (by decide) eq760 (mkF m 190 (own_LA2 p1 p2 p3 p4 p5 nn j0 j1 j2 jb q (.val (.int j0)) (.val (.int j1)) (.val (.int (-100 : Int32))) .unset .unset .unset) [(.int jb), (.int (own_max j0 (own_max j1 (-100 : Int32)))), (.double (FP.i2d j0))]) rfl (by rw [hml]; rfl) [(.double (FP.i2d j0)), (.int (own_max j0 (own_max j1 (-100 : Int32)))), (.int jb)] [] rfl (lenOf own_pd__DII_Z rfl) rfl (Nat.le_refl _) (Jvm.hb hby at_190) (by decide) (by decide)
    have N762 := Fr.app N760 Nq762
    have pre763 := fun (τ : State) kt => pre761 τ (by
      refine XS.iload X760.here hx rfl (Jvm.hb hby at_188) rfl ?_
      exact st762 τ kt)
    obtain ⟨_, T764, L764, X764, ⟨rfl, Nq764, Kq764, f1_764, f2_764, f3_764, f4_764, f5_764, f6_764⟩, st764⟩ := own_virt (y := own_mn6) (b := q) X762 hx hZ hown (own_W39 hw) (own_W40 hw) (own_W42 hw) (own_W41 hw) (by decide) (rmRem_23_x l Z a0 hw [] q (1 : Int32) A B kA kB (0 : Int32) (0 : Int32) (0 : Int32) (0 : UInt64) (0 : UInt64) (FP.i2d j0) T753.heap n0 (Nat.le_trans Z0 K753.1) f755 f1_753 f2_753 f3_753 f4_753 f5_753 f6_753 naA naB nAB g_q gA gB (by decide)) (own_W43 hw) (own_W2 hw) 0 (by decide) (by decide) f755 eq762 (mkF m 198 (own_LA2 p1 p2 p3 p4 p5 nn j0 j1 j2 jb q (.val (.int j0)) (.val (.int j1)) (.val (.int (-100 : Int32))) (.val (.int (1 : Int32))) .unset .unset) [(.int (1 : Int32)), (.ref q)]) rfl (by rw [hml]; rfl) [(.int (1 : Int32))] [] rfl (lenOf own_pd__I_V rfl) rfl (Nat.le_refl _) (Jvm.hb hby at_198) (by decide) (by decide)
    have N764 := Fr.app N762 Nq764
    have K764 : Keep h0 T764.heap [] := K753.trans Kq764 (allS (Or.inr sz_q) (allS (Or.inr sz_A) (allS (Or.inr sz_B) (all0))))
    have pre765 := fun (τ : State) kt => pre763 τ (by
      refine XS.istore X762.here hx rfl (Jvm.hb hby at_193) rfl (l' := (own_LA2 p1 p2 p3 p4 p5 nn j0 j1 j2 jb q (.val (.int j0)) (.val (.int j1)) (.val (.int (-100 : Int32))) (.val (.int (1 : Int32))) .unset .unset)) rfl ?_
      refine XS.aload X762.here hx rfl (Jvm.hb hby at_195) rfl rfl ?_
      refine XS.iconst X762.here hx rfl (Jvm.hb hby at_197) ?_
      exact st764 τ kt)
    have f766 := f755.keep Kq764
    obtain ⟨_, T767, L767, X767, ⟨rfl, Nq767, eq767⟩, st767⟩ := own_virt (y := own_mn3) (b := q) X764 hx hZ hown (own_W24 hw) (own_W25 hw) (own_W27 hw) (own_W26 hw) (by decide) (rmMax_23 l Z a0 hw [] q A B kA kB (0 : Int32) (0 : Int32) (0 : Int32) (0 : UInt64) (0 : UInt64) (FP.i2d j0) T764.heap n0 (Nat.le_trans Z0 K764.1) f766 f1_764 f2_764 f3_764 f4_764 f5_764 f6_764 naA naB nAB g_q gA gB) (own_W28 hw) (own_W2 hw) 0 (by decide) (by decide) f766 rfl (mkF m 203 (own_LA2 p1 p2 p3 p4 p5 nn j0 j1 j2 jb q (.val (.int j0)) (.val (.int j1)) (.val (.int (-100 : Int32))) (.val (.int (1 : Int32))) .unset .unset) [(.ref q)]) rfl (by rw [hml]; rfl) [] [] rfl (lenOf own_pd___D rfl) rfl (Nat.le_refl _) (Jvm.hb hby at_203) (by decide) (by decide)
    have N767 := Fr.app N764 Nq767
    have pre768 := fun (τ : State) kt => pre765 τ (by
      refine XS.aload X764.here hx rfl (Jvm.hb hby at_201) rfl rfl ?_
      exact st767 τ kt)
    obtain ⟨_, T769, L769, X769, ⟨rfl, Nq769, eq769⟩, st769⟩ := own_stat (y := own_mn4) X767 hx hZ hown (own_W30 hw) (own_W31 hw) (by decide) (rm_max l Z a0 hw [] j0 j1 T764.heap n0 (Nat.le_trans Z0 K764.1)) (own_W33 hw) (own_W32 hw) 2 (by decide) (by decide) eq767 (mkF m 210 (own_LA2 p1 p2 p3 p4 p5 nn j0 j1 j2 jb q (.val (.int j0)) (.val (.int j1)) (.val (.int (-100 : Int32))) (.val (.int (1 : Int32))) .unset .unset) [(.int j1), (.int j0), (.double (FP.i2d j0))]) rfl (by rw [hml]; rfl) [(.int j0), (.int j1)] [(.double (FP.i2d j0))] rfl (lenOf own_pd__II_I rfl) rfl (Nat.le_refl _) (Jvm.hb hby at_210) (by decide) (by decide)
    have N769 := Fr.app N767 Nq769
    have pre770 := fun (τ : State) kt => pre768 τ (by
      refine XS.iload X767.here hx rfl (Jvm.hb hby at_206) rfl ?_
      refine XS.iload X767.here hx rfl (Jvm.hb hby at_208) rfl ?_
      exact st769 τ kt)
    obtain ⟨_, T771, L771, X771, ⟨rfl, Nq771, eq771⟩, st771⟩ := own_stat (y := own_mn5) X769 hx hZ hown (own_W34 hw) (own_W35 hw) (by decide) (rmE2 l Z a0 hw [] (FP.i2d j0) (own_max j0 j1) jb T764.heap n0 (Nat.le_trans Z0 K764.1) (own_ne100 (by (try simp only [own_max_int, own_m100]); omega)) (own_eq (by simp only [own_max_int, own_min_int, own_m100]; omega) _)) (own_W37 hw) (own_W36 hw) 0 (by decide) (by decide) eq769 (mkF m 215 (own_LA2 p1 p2 p3 p4 p5 nn j0 j1 j2 jb q (.val (.int j0)) (.val (.int j1)) (.val (.int (-100 : Int32))) (.val (.int (1 : Int32))) .unset .unset) [(.int jb), (.int (own_max j0 j1)), (.double (FP.i2d j0))]) rfl (by rw [hml]; rfl) [(.double (FP.i2d j0)), (.int (own_max j0 j1)), (.int jb)] [] rfl (lenOf own_pd__DII_Z rfl) rfl (Nat.le_refl _) (Jvm.hb hby at_215) (by decide) (by decide)
    have N771 := Fr.app N769 Nq771
    have pre772 := fun (τ : State) kt => pre770 τ (by
      refine XS.iload X769.here hx rfl (Jvm.hb hby at_213) rfl ?_
      exact st771 τ kt)
    obtain ⟨_, T773, L773, X773, ⟨rfl, Nq773, Kq773, f1_773, f2_773, f3_773, f4_773, f5_773, f6_773⟩, st773⟩ := own_virt (y := own_mn6) (b := q) X771 hx hZ hown (own_W39 hw) (own_W40 hw) (own_W42 hw) (own_W41 hw) (by decide) (rmRem_23_x l Z a0 hw [] q (0 : Int32) A B kA kB (0 : Int32) (0 : Int32) (0 : Int32) (0 : UInt64) (0 : UInt64) (FP.i2d j0) T764.heap n0 (Nat.le_trans Z0 K764.1) f766 f1_764 f2_764 f3_764 f4_764 f5_764 f6_764 naA naB nAB g_q gA gB (by decide)) (own_W43 hw) (own_W2 hw) 0 (by decide) (by decide) f766 eq771 (mkF m 223 (own_LA2 p1 p2 p3 p4 p5 nn j0 j1 j2 jb q (.val (.int j0)) (.val (.int j1)) (.val (.int (-100 : Int32))) (.val (.int (1 : Int32))) (.val (.int (1 : Int32))) .unset) [(.int (0 : Int32)), (.ref q)]) rfl (by rw [hml]; rfl) [(.int (0 : Int32))] [] rfl (lenOf own_pd__I_V rfl) rfl (Nat.le_refl _) (Jvm.hb hby at_223) (by decide) (by decide)
    have N773 := Fr.app N771 Nq773
    have K773 : Keep h0 T773.heap [] := K764.trans Kq773 (allS (Or.inr sz_q) (allS (Or.inr sz_A) (allS (Or.inr sz_B) (all0))))
    have pre774 := fun (τ : State) kt => pre772 τ (by
      refine XS.istore X771.here hx rfl (Jvm.hb hby at_218) rfl (l' := (own_LA2 p1 p2 p3 p4 p5 nn j0 j1 j2 jb q (.val (.int j0)) (.val (.int j1)) (.val (.int (-100 : Int32))) (.val (.int (1 : Int32))) (.val (.int (1 : Int32))) .unset)) rfl ?_
      refine XS.aload X771.here hx rfl (Jvm.hb hby at_220) rfl rfl ?_
      refine XS.iconst X771.here hx rfl (Jvm.hb hby at_222) ?_
      exact st773 τ kt)
    have f775 := f766.keep Kq773
    obtain ⟨_, T776, L776, X776, ⟨rfl, Nq776, eq776⟩, st776⟩ := own_virt (y := own_mn3) (b := q) X773 hx hZ hown (own_W24 hw) (own_W25 hw) (own_W27 hw) (own_W26 hw) (by decide) (rmMax_23 l Z a0 hw [] q A B kA kB (0 : Int32) (0 : Int32) (0 : Int32) (0 : UInt64) (0 : UInt64) (FP.i2d j0) T773.heap n0 (Nat.le_trans Z0 K773.1) f775 f1_773 f2_773 f3_773 f4_773 f5_773 f6_773 naA naB nAB g_q gA gB) (own_W28 hw) (own_W2 hw) 0 (by decide) (by decide) f775 rfl (mkF m 228 (own_LA2 p1 p2 p3 p4 p5 nn j0 j1 j2 jb q (.val (.int j0)) (.val (.int j1)) (.val (.int (-100 : Int32))) (.val (.int (1 : Int32))) (.val (.int (1 : Int32))) .unset) [(.ref q)]) rfl (by rw [hml]; rfl) [] [] rfl (lenOf own_pd___D rfl) rfl (Nat.le_refl _) (Jvm.hb hby at_228) (by decide) (by decide)
    have N776 := Fr.app N773 Nq776
    have pre777 := fun (τ : State) kt => pre774 τ (by
      refine XS.aload X773.here hx rfl (Jvm.hb hby at_226) rfl rfl ?_
      exact st776 τ kt)
    obtain ⟨_, T778, L778, X778, ⟨rfl, Nq778, eq778⟩, st778⟩ := own_stat (y := own_mn5) X776 hx hZ hown (own_W34 hw) (own_W35 hw) (by decide) (rmE2 l Z a0 hw [] (FP.i2d j0) j0 jb T773.heap n0 (Nat.le_trans Z0 K773.1) (own_ne100 (by (try simp only [own_max_int, own_m100]); omega)) (own_eq (by simp only [own_max_int, own_min_int, own_m100]; omega) _)) (own_W37 hw) (own_W36 hw) 0 (by decide) (by decide) eq776 (mkF m 235 (own_LA2 p1 p2 p3 p4 p5 nn j0 j1 j2 jb q (.val (.int j0)) (.val (.int j1)) (.val (.int (-100 : Int32))) (.val (.int (1 : Int32))) (.val (.int (1 : Int32))) .unset) [(.int jb), (.int j0), (.double (FP.i2d j0))]) rfl (by rw [hml]; rfl) [(.double (FP.i2d j0)), (.int j0), (.int jb)] [] rfl (lenOf own_pd__DII_Z rfl) rfl (Nat.le_refl _) (Jvm.hb hby at_235) (by decide) (by decide)
    have N778 := Fr.app N776 Nq778
    have pre779 := fun (τ : State) kt => pre777 τ (by
      refine XS.iload X776.here hx rfl (Jvm.hb hby at_231) rfl ?_
      refine XS.iload X776.here hx rfl (Jvm.hb hby at_233) rfl ?_
      exact st778 τ kt)
    have pre780 := fun (τ : State) kt => pre779 τ (by
      refine XS.istore X778.here hx rfl (Jvm.hb hby at_238) rfl (l' := (own_LA2 p1 p2 p3 p4 p5 nn j0 j1 j2 jb q (.val (.int j0)) (.val (.int j1)) (.val (.int (-100 : Int32))) (.val (.int (1 : Int32))) (.val (.int (1 : Int32))) (.val (.int (1 : Int32))))) rfl ?_
      refine XS.iload X778.here hx rfl (Jvm.hb hby at_240) rfl ?_
      refine XS.ifNo X778.here hx rfl (Jvm.hb hby at_242) rfl ((if0 _ _).trans (feq (by decide)).1) ?_
      refine XS.iload X778.here hx rfl (Jvm.hb hby at_245) rfl ?_
      refine XS.ifNo X778.here hx rfl (Jvm.hb hby at_247) rfl ((if0 _ _).trans (feq (by decide)).1) ?_
      refine XS.iload X778.here hx rfl (Jvm.hb hby at_250) rfl ?_
      refine XS.ifNo X778.here hx rfl (Jvm.hb hby at_252) rfl ((if0 _ _).trans (feq (by decide)).1) ?_
      refine XS.iconst X778.here hx rfl (Jvm.hb hby at_255) ?_
      refine XS.goto X778.here hx rfl (pc0 := 256) (pc' := 260) rfl (Jvm.hb hby at_256) (by decide) (by decide) ?_
      exact kt)
    obtain ⟨fs, hrL, hrun, hended, hW, hsame⟩ := X778.leave (v := some (.int (1 : Int32))) (fun h => by rw [Bd.returns] at h; cases h)
    refine ⟨_, _, cast (congrFun hPS _) (pre780 _ ?_), hrun, hended, _, _, rfl, ?_, ⟨_, rfl⟩, hW, hsame.mono (by decide) (by decide)⟩
    · show Steps p.tables e below (T778.setTop (mkF m 260 (own_LA2 p1 p2 p3 p4 p5 nn j0 j1 j2 jb q (.val (.int j0)) (.val (.int j1)) (.val (.int (-100 : Int32))) (.val (.int (1 : Int32))) (.val (.int (1 : Int32))) (.val (.int (1 : Int32)))) [(.int (1 : Int32))])) _
      exact retN X778 hx (t := .boolean) Bd.returns (by simp) (Jvm.hb hby at_260) hrL
    · show Q0 n0 _ T778.heap _
      exact ⟨rfl, N778⟩
  have pre781 := fun (τ : State) kt => pre59 τ (by
    refine XS.icmpNo X0.here hx rfl (Jvm.hb hby at_8) rfl (flt fun z => n3 (own_lt_up z (by decide))).1 ?_
    refine XS.iconst X0.here hx rfl (Jvm.hb hby at_11) ?_
    refine XS.goto X0.here hx rfl (pc0 := 12) (pc' := 16) rfl (Jvm.hb hby at_12) (by decide) (by decide) ?_
    refine XS.istore X0.here hx rfl (Jvm.hb hby at_16) rfl (l' := #[.val (.int p1), .val (.int p2), .val (.int p3), .val (.int p4), .val (.int p5), .val (.int nn), .val (.int (1 : Int32)), .unset, .unset, .unset, .unset, .unset, .unset, .unset, .unset, .unset, .unset, .unset, .unset, .unset]) rfl ?_
    refine XS.iload X0.here hx rfl (Jvm.hb hby at_18) rfl ?_
    refine XS.iconst X0.here hx rfl (Jvm.hb hby at_20) ?_
    refine XS.icmpNo X0.here hx rfl (Jvm.hb hby at_21) rfl (flt fun z => n3 (own_lt_up z (by decide))).1 ?_
    refine XS.iconst X0.here hx rfl (Jvm.hb hby at_24) ?_
    refine XS.goto X0.here hx rfl (pc0 := 25) (pc' := 29) rfl (Jvm.hb hby at_25) (by decide) (by decide) ?_
    refine XS.istore X0.here hx rfl (Jvm.hb hby at_29) rfl (l' := #[.val (.int p1), .val (.int p2), .val (.int p3), .val (.int p4), .val (.int p5), .val (.int nn), .val (.int (1 : Int32)), .val (.int (1 : Int32)), .unset, .unset, .unset, .unset, .unset, .unset, .unset, .unset, .unset, .unset, .unset, .unset]) rfl ?_
    refine XS.iload X0.here hx rfl (Jvm.hb hby at_31) rfl ?_
    refine XS.iconst X0.here hx rfl (Jvm.hb hby at_33) ?_
    refine XS.icmpNo X0.here hx rfl (Jvm.hb hby at_34) rfl (flt n3).1 ?_
    refine XS.iconst X0.here hx rfl (Jvm.hb hby at_37) ?_
    refine XS.goto X0.here hx rfl (pc0 := 38) (pc' := 42) rfl (Jvm.hb hby at_38) (by decide) (by decide) ?_
    refine XS.istore X0.here hx rfl (Jvm.hb hby at_42) rfl (l' := #[.val (.int p1), .val (.int p2), .val (.int p3), .val (.int p4), .val (.int p5), .val (.int nn), .val (.int (1 : Int32)), .val (.int (1 : Int32)), .val (.int (1 : Int32)), .unset, .unset, .unset, .unset, .unset, .unset, .unset, .unset, .unset, .unset, .unset]) rfl ?_
    refine XS.iloadN X0.here hx rfl (Jvm.hb hby at_44) rfl ?_
    refine XS.bipush X0.here hx rfl (Jvm.hb hby at_45) ?_
    refine iremM X0 hx rfl (Jvm.hb hby at_47) rfl (by decide) ?_
    refine XS.istore X0.here hx rfl (Jvm.hb hby at_48) rfl (l' := #[.val (.int p1), .val (.int p2), .val (.int p3), .val (.int p4), .val (.int p5), .val (.int nn), .val (.int (1 : Int32)), .val (.int (1 : Int32)), .val (.int (1 : Int32)), .val (.int (p2 % (9 : Int32))), .unset, .unset, .unset, .unset, .unset, .unset, .unset, .unset, .unset, .unset]) rfl ?_
    refine XS.iloadN X0.here hx rfl (Jvm.hb hby at_50) rfl ?_
    refine XS.bipush X0.here hx rfl (Jvm.hb hby at_51) ?_
    refine iremM X0 hx rfl (Jvm.hb hby at_53) rfl (by decide) ?_
    refine XS.istore X0.here hx rfl (Jvm.hb hby at_54) rfl (l' := #[.val (.int p1), .val (.int p2), .val (.int p3), .val (.int p4), .val (.int p5), .val (.int nn), .val (.int (1 : Int32)), .val (.int (1 : Int32)), .val (.int (1 : Int32)), .val (.int (p2 % (9 : Int32))), .val (.int (p3 % (9 : Int32))), .unset, .unset, .unset, .unset, .unset, .unset, .unset, .unset, .unset]) rfl ?_
    refine XS.iloadN X0.here hx rfl (Jvm.hb hby at_56) rfl ?_
    refine XS.bipush X0.here hx rfl (Jvm.hb hby at_57) ?_
    refine iremM X0 hx rfl (Jvm.hb hby at_59) rfl (by decide) ?_
    refine XS.istore X0.here hx rfl (Jvm.hb hby at_60) rfl (l' := #[.val (.int p1), .val (.int p2), .val (.int p3), .val (.int p4), .val (.int p5), .val (.int nn), .val (.int (1 : Int32)), .val (.int (1 : Int32)), .val (.int (1 : Int32)), .val (.int (p2 % (9 : Int32))), .val (.int (p3 % (9 : Int32))), .val (.int (p4 % (9 : Int32))), .unset, .unset, .unset, .unset, .unset, .unset, .unset, .unset]) rfl ?_
    refine XS.iload X0.here hx rfl (Jvm.hb hby at_62) rfl ?_
    refine XS.bipush X0.here hx rfl (Jvm.hb hby at_64) ?_
    refine iremM X0 hx rfl (Jvm.hb hby at_66) rfl (by decide) ?_
    refine XS.istore X0.here hx rfl (Jvm.hb hby at_67) rfl (l' := #[.val (.int p1), .val (.int p2), .val (.int p3), .val (.int p4), .val (.int p5), .val (.int nn), .val (.int (1 : Int32)), .val (.int (1 : Int32)), .val (.int (1 : Int32)), .val (.int (p2 % (9 : Int32))), .val (.int (p3 % (9 : Int32))), .val (.int (p4 % (9 : Int32))), .val (.int (p5 % (9 : Int32))), .unset, .unset, .unset, .unset, .unset, .unset, .unset]) rfl ?_
    exact kt)
  obtain ⟨j0, e_j0⟩ : ∃ z : Int32, z = (p2 % (9 : Int32)) := ⟨_, rfl⟩
  have pre782 : ∀ τ, Steps p.tables e below (s₁.setTop (mkF m 69 #[.val (.int p1), .val (.int p2), .val (.int p3), .val (.int p4), .val (.int p5), .val (.int nn), .val (.int (1 : Int32)), .val (.int (1 : Int32)), .val (.int (1 : Int32)), .val (.int j0), .val (.int (p3 % (9 : Int32))), .val (.int (p4 % (9 : Int32))), .val (.int (p5 % (9 : Int32))), .unset, .unset, .unset, .unset, .unset, .unset, .unset] [])) τ → PS τ := by rw [e_j0]; exact pre781
  have r_j0 := own_rem9 p2
  rw [← e_j0] at r_j0
  obtain ⟨j1, e_j1⟩ : ∃ z : Int32, z = (p3 % (9 : Int32)) := ⟨_, rfl⟩
  have pre783 : ∀ τ, Steps p.tables e below (s₁.setTop (mkF m 69 #[.val (.int p1), .val (.int p2), .val (.int p3), .val (.int p4), .val (.int p5), .val (.int nn), .val (.int (1 : Int32)), .val (.int (1 : Int32)), .val (.int (1 : Int32)), .val (.int j0), .val (.int j1), .val (.int (p4 % (9 : Int32))), .val (.int (p5 % (9 : Int32))), .unset, .unset, .unset, .unset, .unset, .unset, .unset] [])) τ → PS τ := by rw [e_j1]; exact pre782
  have r_j1 := own_rem9 p3
  rw [← e_j1] at r_j1
  obtain ⟨j2, e_j2⟩ : ∃ z : Int32, z = (p4 % (9 : Int32)) := ⟨_, rfl⟩
  have pre784 : ∀ τ, Steps p.tables e below (s₁.setTop (mkF m 69 #[.val (.int p1), .val (.int p2), .val (.int p3), .val (.int p4), .val (.int p5), .val (.int nn), .val (.int (1 : Int32)), .val (.int (1 : Int32)), .val (.int (1 : Int32)), .val (.int j0), .val (.int j1), .val (.int j2), .val (.int (p5 % (9 : Int32))), .unset, .unset, .unset, .unset, .unset, .unset, .unset] [])) τ → PS τ := by rw [e_j2]; exact pre783
  have r_j2 := own_rem9 p4
  rw [← e_j2] at r_j2
  obtain ⟨jb, e_jb⟩ : ∃ z : Int32, z = (p5 % (9 : Int32)) := ⟨_, rfl⟩
  have pre785 : ∀ τ, Steps p.tables e below (s₁.setTop (mkF m 69 #[.val (.int p1), .val (.int p2), .val (.int p3), .val (.int p4), .val (.int p5), .val (.int nn), .val (.int (1 : Int32)), .val (.int (1 : Int32)), .val (.int (1 : Int32)), .val (.int j0), .val (.int j1), .val (.int j2), .val (.int jb), .unset, .unset, .unset, .unset, .unset, .unset, .unset] [])) τ → PS τ := by rw [e_jb]; exact pre784
  have r_jb := own_rem9 p5
  rw [← e_jb] at r_jb
  obtain ⟨T786, h786, X786, e786, E786, A786, D786, -, st786⟩ := newO X0 hx hZ hown (own_W0 hw) (own_W1 hw) (own_W2 hw) e0 (g := (mkF m 69 #[.val (.int p1), .val (.int p2), .val (.int p3), .val (.int p4), .val (.int p5), .val (.int nn), .val (.int (1 : Int32)), .val (.int (1 : Int32)), .val (.int (1 : Int32)), .val (.int j0), .val (.int j1), .val (.int j2), .val (.int jb), .unset, .unset, .unset, .unset, .unset, .unset, .unset] [])) rfl (Jvm.hb hby at_69) (by decide) (by decide)
  obtain ⟨q, g786⟩ : ∃ z, z = h0.size := ⟨_, rfl⟩
  rw [← g786] at A786 D786 st786
  have g_q : n0 ≤ q := Nat.le_trans (Nat.le_trans Z0 KK0.1) (Nat.le_of_eq g786.symm)
  have sz_q : h0.size ≤ q := Nat.le_trans KK0.1 (Nat.le_of_eq g786.symm)
  have K786 : Keep h0 h786 [] := KK0.ext E786
  have F_samples_q : Fld Z h786 q "com/example/counterpath/counterpath/core/CappedMaximum" "samples" "[I" .null := D786 (Or.inr (own_W11 hw)) (ty := (.array .int)) (by decide)
  have F_values_q : Fld Z h786 q "com/example/counterpath/counterpath/core/CappedMaximum" "values" "[D" .null := D786 (Or.inr (own_W14 hw)) (ty := (.array .double)) (by decide)
  have F_head_q : Fld Z h786 q "com/example/counterpath/counterpath/core/CappedMaximum" "head" "I" (.int (0 : Int32)) := D786 (Or.inl (own_W16 hw)) (ty := .int) (by decide)
  have F_tail_q : Fld Z h786 q "com/example/counterpath/counterpath/core/CappedMaximum" "tail" "I" (.int (0 : Int32)) := D786 (Or.inl (own_W18 hw)) (ty := .int) (by decide)
  have pre787 := fun (τ : State) kt => pre785 τ (st786 τ kt)
  obtain ⟨_, T788, L788, X788, ⟨rfl, Nq788, Kq788, A, B, kA, kB, gA, gB, zA, zB, naA, naB, nAB, f1_788, f2_788, f3_788, f4_788, f5_788, f6_788⟩, st788⟩ := own_spec (y := own_mn1) (b := q) X786 hx hZ rfl hown (own_W3 hw) (own_W4 hw) (by decide) (rmI l Z a0 hw [] q (3 : Int32) h786 n0 (Nat.le_trans Z0 K786.1) rfl A786 F_samples_q F_values_q F_head_q F_tail_q g_q) (own_W5 hw) (own_W2 hw) 1 (by decide) (by decide) e786 (mkF m 74 #[.val (.int p1), .val (.int p2), .val (.int p3), .val (.int p4), .val (.int p5), .val (.int nn), .val (.int (1 : Int32)), .val (.int (1 : Int32)), .val (.int (1 : Int32)), .val (.int j0), .val (.int j1), .val (.int j2), .val (.int jb), .unset, .unset, .unset, .unset, .unset, .unset, .unset] [(.int (3 : Int32)), (.ref q), (.ref q)]) rfl (by rw [hml]; rfl) [(.int (3 : Int32))] [(.ref q)] rfl (lenOf own_pd__I_V rfl) rfl (Nat.le_refl _) (Jvm.hb hby at_74) (by decide) (by decide)
  have N788 := Fr.app N0 Nq788
  have K788 : Keep h0 T788.heap [] := K786.trans Kq788 (allS (Or.inr sz_q) (all0))
  have pre789 := fun (τ : State) kt => pre787 τ (by
    refine XS.dup X786.here hx rfl (Jvm.hb hby at_72) rfl rfl ?_
    refine XS.iconst X786.here hx rfl (Jvm.hb hby at_73) ?_
    exact st788 τ kt)
  have sz_A : h0.size ≤ A := Nat.le_trans K786.1 zA
  have sz_B : h0.size ≤ B := Nat.le_trans K786.1 zB
  have pre790 := fun (τ : State) kt => pre789 τ (by
    refine XS.astore X788.here hx rfl (Jvm.hb hby at_77) rfl rfl (l' := #[.val (.int p1), .val (.int p2), .val (.int p3), .val (.int p4), .val (.int p5), .val (.int nn), .val (.int (1 : Int32)), .val (.int (1 : Int32)), .val (.int (1 : Int32)), .val (.int j0), .val (.int j1), .val (.int j2), .val (.int jb), .val (.ref q), .unset, .unset, .unset, .unset, .unset, .unset]) rfl ?_
    refine XS.iload X788.here hx rfl (Jvm.hb hby at_79) rfl ?_
    exact kt)
  have pre791 := fun (τ : State) kt => pre790 τ (by
    refine XS.ifNo X788.here hx rfl (Jvm.hb hby at_81) rfl ((if0 _ _).trans (feq (by decide)).1) ?_
    refine XS.aload X788.here hx rfl (Jvm.hb hby at_84) rfl rfl ?_
    refine XS.iconst X788.here hx rfl (Jvm.hb hby at_86) ?_
    refine XS.iload X788.here hx rfl (Jvm.hb hby at_87) rfl ?_
    refine own_i2d X788.here hx rfl (Jvm.hb hby at_89) rfl ?_
    exact kt)
  have f792 := A786.keep Kq788
  obtain ⟨_, T793, L793, X793, ⟨rfl, Nq793, Kq793, f1_793, f2_793, f3_793, f4_793, f5_793, f6_793⟩, st793⟩ := own_virt (y := own_mn7) (b := q) X788 hx hZ hown (own_W44 hw) (own_W45 hw) (own_W47 hw) (own_W46 hw) (by decide) (rmAdd_33_e l Z a0 hw [] q (2 : Int32) (FP.i2d j2) A B kA kB (0 : Int32) (0 : Int32) (0 : Int32) (0 : UInt64) (0 : UInt64) (0 : UInt64) T788.heap n0 (Nat.le_trans Z0 K788.1) f792 f1_788 f2_788 f3_788 f4_788 f5_788 f6_788 naA naB nAB g_q gA gB ) (own_W48 hw) (own_W2 hw) 0 (by decide) (by decide) f792 rfl (mkF m 90 (own_LA3 p1 p2 p3 p4 p5 nn j0 j1 j2 jb q .unset .unset .unset .unset .unset .unset) [(.double (FP.i2d j2)), (.int (2 : Int32)), (.ref q)]) rfl (by rw [hml]; rfl) [(.int (2 : Int32)), (.double (FP.i2d j2))] [] rfl (lenOf own_pd__ID_V rfl) rfl (Nat.le_refl _) (Jvm.hb hby at_90) (by decide) (by decide)
  have N793 := Fr.app N788 Nq793
  have K793 : Keep h0 T793.heap [] := K788.trans Kq793 (allS (Or.inr sz_q) (allS (Or.inr sz_A) (allS (Or.inr sz_B) (all0))))
  have pre794 := fun (τ : State) kt => pre791 τ (st793 τ kt)
  have pre795 := fun (τ : State) kt => pre794 τ (by
    refine XS.iload X793.here hx rfl (Jvm.hb hby at_93) rfl ?_
    refine XS.ifNo X793.here hx rfl (Jvm.hb hby at_95) rfl ((if0 _ _).trans (feq (by decide)).1) ?_
    refine XS.aload X793.here hx rfl (Jvm.hb hby at_98) rfl rfl ?_
    refine XS.iconst X793.here hx rfl (Jvm.hb hby at_100) ?_
    refine XS.iload X793.here hx rfl (Jvm.hb hby at_101) rfl ?_
    refine own_i2d X793.here hx rfl (Jvm.hb hby at_103) rfl ?_
    exact kt)
  by_cases qa796 : j1.toInt < j2.toInt
  · skip
    have f797 := f792.keep Kq793
    obtain ⟨_, T798, L798, X798, ⟨rfl, Nq798, Kq798, f1_798, f2_798, f3_798, f4_798, f5_798, f6_798⟩, st798⟩ := own_virt (y := own_mn7) (b := q) X793 hx hZ hown (own_W44 hw) (own_W45 hw) (own_W47 hw) (own_W46 hw) (by decide) (rmAdd_23_x l Z a0 hw [] q (1 : Int32) (FP.i2d j1) A B kA kB (0 : Int32) (0 : Int32) (2 : Int32) (0 : UInt64) (0 : UInt64) (FP.i2d j2) T793.heap n0 (Nat.le_trans Z0 K793.1) f797 f1_793 f2_793 f3_793 f4_793 f5_793 f6_793 naA naB nAB g_q gA gB ((own_gt _ _ _).mpr qa796)) (own_W48 hw) (own_W2 hw) 0 (by decide) (by decide) f797 rfl (mkF m 104 (own_LA3 p1 p2 p3 p4 p5 nn j0 j1 j2 jb q .unset .unset .unset .unset .unset .unset) [(.double (FP.i2d j1)), (.int (1 : Int32)), (.ref q)]) rfl (by rw [hml]; rfl) [(.int (1 : Int32)), (.double (FP.i2d j1))] [] rfl (lenOf own_pd__ID_V rfl) rfl (Nat.le_refl _) (Jvm.hb hby at_104) (by decide) (by decide)
    have N798 := Fr.app N793 Nq798
    have K798 : Keep h0 T798.heap [] := K793.trans Kq798 (allS (Or.inr sz_q) (allS (Or.inr sz_A) (allS (Or.inr sz_B) (all0))))
    have pre799 := fun (τ : State) kt => pre795 τ (st798 τ kt)
    have pre800 := fun (τ : State) kt => pre799 τ (by
      refine XS.iload X798.here hx rfl (Jvm.hb hby at_107) rfl ?_
      refine XS.ifNo X798.here hx rfl (Jvm.hb hby at_109) rfl ((if0 _ _).trans (feq (by decide)).1) ?_
      refine XS.aload X798.here hx rfl (Jvm.hb hby at_112) rfl rfl ?_
      refine XS.iconst X798.here hx rfl (Jvm.hb hby at_114) ?_
      refine XS.iload X798.here hx rfl (Jvm.hb hby at_115) rfl ?_
      refine own_i2d X798.here hx rfl (Jvm.hb hby at_117) rfl ?_
      exact kt)
    by_cases qa801 : j0.toInt < j1.toInt
    · skip
      have f844 := f797.keep Kq798
      obtain ⟨_, T845, L845, X845, ⟨rfl, Nq845, Kq845, f1_845, f2_845, f3_845, f4_845, f5_845, f6_845⟩, st845⟩ := own_virt (y := own_mn7) (b := q) X798 hx hZ hown (own_W44 hw) (own_W45 hw) (own_W47 hw) (own_W46 hw) (by decide) (rmAdd_13_x l Z a0 hw [] q (0 : Int32) (FP.i2d j0) A B kA kB (0 : Int32) (1 : Int32) (2 : Int32) (0 : UInt64) (FP.i2d j1) (FP.i2d j2) T798.heap n0 (Nat.le_trans Z0 K798.1) f844 f1_798 f2_798 f3_798 f4_798 f5_798 f6_798 naA naB nAB g_q gA gB ((own_gt _ _ _).mpr qa801)) (own_W48 hw) (own_W2 hw) 0 (by decide) (by decide) f844 rfl (mkF m 118 (own_LA3 p1 p2 p3 p4 p5 nn j0 j1 j2 jb q .unset .unset .unset .unset .unset .unset) [(.double (FP.i2d j0)), (.int (0 : Int32)), (.ref q)]) rfl (by rw [hml]; rfl) [(.int (0 : Int32)), (.double (FP.i2d j0))] [] rfl (lenOf own_pd__ID_V rfl) rfl (Nat.le_refl _) (Jvm.hb hby at_118) (by decide) (by decide)
      have N845 := Fr.app N798 Nq845
      have K845 : Keep h0 T845.heap [] := K798.trans Kq845 (allS (Or.inr sz_q) (allS (Or.inr sz_A) (allS (Or.inr sz_B) (all0))))
      have pre846 := fun (τ : State) kt => pre800 τ (st845 τ kt)
      have pre847 := fun (τ : State) kt => pre846 τ (by
        refine XS.aload X845.here hx rfl (Jvm.hb hby at_121) rfl rfl ?_
        refine XS.iload X845.here hx rfl (Jvm.hb hby at_123) rfl ?_
        refine own_i2d X845.here hx rfl (Jvm.hb hby at_125) rfl ?_
        exact kt)
      by_cases qc848 : j1.toInt < jb.toInt
      · skip
        by_cases qb849 : jb.toInt < j2.toInt
        · skip
          have f880 := f844.keep Kq845
          obtain ⟨_, T881, L881, X881, ⟨rfl, Nq881, Kq881, f1_881, f2_881, f3_881, f4_881, f5_881, f6_881⟩, st881⟩ := own_virt (y := own_mn2) (b := q) X845 hx hZ hown (own_W19 hw) (own_W20 hw) (own_W22 hw) (own_W21 hw) (by decide) (rmCap_03_xs l Z a0 hw [] q (FP.i2d jb) A B kA kB (0 : Int32) (1 : Int32) (2 : Int32) (FP.i2d j0) (FP.i2d j1) (FP.i2d j2) T845.heap n0 (Nat.le_trans Z0 K845.1) f880 f1_845 f2_845 f3_845 f4_845 f5_845 f6_845 naA naB nAB g_q gA gB ((own_lt _ _ _).mpr qc848) ((own_gt _ _ _).mpr qb849)) (own_W23 hw) (own_W2 hw) 0 (by decide) (by decide) f880 rfl (mkF m 126 (own_LA3 p1 p2 p3 p4 p5 nn j0 j1 j2 jb q .unset .unset .unset .unset .unset .unset) [(.double (FP.i2d jb)), (.ref q)]) rfl (by rw [hml]; rfl) [(.double (FP.i2d jb))] [] rfl (lenOf own_pd__D_V rfl) rfl (Nat.le_refl _) (Jvm.hb hby at_126) (by decide) (by decide)
          have N881 := Fr.app N845 Nq881
          have K881 : Keep h0 T881.heap [] := K845.trans Kq881 (allS (Or.inr sz_q) (allS (Or.inr sz_A) (allS (Or.inr sz_B) (all0))))
          have pre882 := fun (τ : State) kt => pre847 τ (st881 τ kt)
          have f893 := f880.keep Kq881
          obtain ⟨_, T894, L894, X894, ⟨rfl, Nq894, eq894⟩, st894⟩ := own_virt (y := own_mn3) (b := q) X881 hx hZ hown (own_W24 hw) (own_W25 hw) (own_W27 hw) (own_W26 hw) (by decide) (rmMax_03 l Z a0 hw [] q A B kA kB (0 : Int32) (1 : Int32) (2 : Int32) (FP.i2d j0) (FP.i2d j1) (FP.i2d jb) T881.heap n0 (Nat.le_trans Z0 K881.1) f893 f1_881 f2_881 f3_881 f4_881 f5_881 f6_881 naA naB nAB g_q gA gB) (own_W28 hw) (own_W2 hw) 0 (by decide) (by decide) f893 rfl (mkF m 173 (own_LA3 p1 p2 p3 p4 p5 nn j0 j1 j2 jb q (.val (.int j0)) (.val (.int j1)) (.val (.int j2)) .unset .unset .unset) [(.ref q)]) rfl (by rw [hml]; rfl) [] [] rfl (lenOf own_pd___D rfl) rfl (Nat.le_refl _) (Jvm.hb hby at_173) (by decide) (by decide)
          have N894 := Fr.app N881 Nq894
          have pre895 := fun (τ : State) kt => pre882 τ (by
            refine XS.iload X881.here hx rfl (Jvm.hb hby at_129) rfl ?_
            refine XS.ifNo X881.here hx rfl (Jvm.hb hby at_131) rfl ((if0 _ _).trans (feq (by decide)).1) ?_
            refine XS.iload X881.here hx rfl (Jvm.hb hby at_134) rfl ?_
            refine XS.goto X881.here hx rfl (pc0 := 136) (pc' := 141) rfl (Jvm.hb hby at_136) (by decide) (by decide) ?_
            refine XS.istore X881.here hx rfl (Jvm.hb hby at_141) rfl (l' := (own_LA3 p1 p2 p3 p4 p5 nn j0 j1 j2 jb q (.val (.int j0)) .unset .unset .unset .unset .unset)) rfl ?_
            refine XS.iload X881.here hx rfl (Jvm.hb hby at_143) rfl ?_
            refine XS.ifNo X881.here hx rfl (Jvm.hb hby at_145) rfl ((if0 _ _).trans (feq (by decide)).1) ?_
            refine XS.iload X881.here hx rfl (Jvm.hb hby at_148) rfl ?_
            refine XS.goto X881.here hx rfl (pc0 := 150) (pc' := 155) rfl (Jvm.hb hby at_150) (by decide) (by decide) ?_
            refine XS.istore X881.here hx rfl (Jvm.hb hby at_155) rfl (l' := (own_LA3 p1 p2 p3 p4 p5 nn j0 j1 j2 jb q (.val (.int j0)) (.val (.int j1)) .unset .unset .unset .unset)) rfl ?_
            refine XS.iload X881.here hx rfl (Jvm.hb hby at_157) rfl ?_
            refine XS.ifNo X881.here hx rfl (Jvm.hb hby at_159) rfl ((if0 _ _).trans (feq (by decide)).1) ?_
            refine XS.iload X881.here hx rfl (Jvm.hb hby at_162) rfl ?_
            refine XS.goto X881.here hx rfl (pc0 := 164) (pc' := 169) rfl (Jvm.hb hby at_164) (by decide) (by decide) ?_
            refine XS.istore X881.here hx rfl (Jvm.hb hby at_169) rfl (l' := (own_LA3 p1 p2 p3 p4 p5 nn j0 j1 j2 jb q (.val (.int j0)) (.val (.int j1)) (.val (.int j2)) .unset .unset .unset)) rfl ?_
            refine XS.aload X881.here hx rfl (Jvm.hb hby at_171) rfl rfl ?_
            exact st894 τ kt)
          obtain ⟨_, T896, L896, X896, ⟨rfl, Nq896, eq896⟩, st896⟩ := own_stat (y := own_mn4) X894 hx hZ hown (own_W30 hw) (own_W31 hw) (by decide) (rm_max l Z a0 hw [] j1 j2 T881.heap n0 (Nat.le_trans Z0 K881.1)) (own_W33 hw) (own_W32 hw) 3 (by decide) (by decide) eq894 (mkF m 182 (own_LA3 p1 p2 p3 p4 p5 nn j0 j1 j2 jb q (.val (.int j0)) (.val (.int j1)) (.val (.int j2)) .unset .unset .unset) [(.int j2), (.int j1), (.int j0), (.double (FP.i2d jb))]) rfl (by rw [hml]; rfl) [(.int j1), (.int j2)] [(.int j0), (.double (FP.i2d jb))] rfl (lenOf own_pd__II_I rfl) rfl (Nat.le_refl _) (Jvm.hb hby at_182) (by decide) (by decide)
          have N896 := Fr.app N894 Nq896
          have pre897 := fun (τ : State) kt => pre895 τ (by
            refine XS.iload X894.here hx rfl (Jvm.hb hby at_176) rfl ?_
            refine XS.iload X894.here hx rfl (Jvm.hb hby at_178) rfl ?_
            refine XS.iload X894.here hx rfl (Jvm.hb hby at_180) rfl ?_
            exact st896 τ kt)
          obtain ⟨_, T898, L898, X898, ⟨rfl, Nq898, eq898⟩, st898⟩ := own_stat (y := own_mn4) X896 hx hZ hown (own_W30 hw) (own_W31 hw) (by decide) (rm_max l Z a0 hw [] j0 (own_max j1 j2) T881.heap n0 (Nat.le_trans Z0 K881.1)) (own_W33 hw) (own_W32 hw) 2 (by decide) (by decide) eq896 (mkF m 185 (own_LA3 p1 p2 p3 p4 p5 nn j0 j1 j2 jb q (.val (.int j0)) (.val (.int j1)) (.val (.int j2)) .unset .unset .unset) [(.int (own_max j1 j2)), (.int j0), (.double (FP.i2d jb))]) rfl (by rw [hml]; rfl) [(.int j0), (.int (own_max j1 j2))] [(.double (FP.i2d jb))] rfl (lenOf own_pd__II_I rfl) rfl (Nat.le_refl _) (Jvm.hb hby at_185) (by decide) (by decide)
          have N898 := Fr.app N896 Nq898
          have pre899 := fun (τ : State) kt => pre897 τ (st898 τ kt)
          obtain ⟨_, T900, L900, X900, ⟨rfl, Nq900, eq900⟩, st900⟩ := own_stat (y := own_mn5) X898 hx hZ hown (own_W34 hw) (own_W35 hw) (by decide) (rmE2 l Z a0 hw [] (FP.i2d jb) (own_max j0 (own_max j1 j2)) jb T881.heap n0 (Nat.le_trans Z0 K881.1) (own_ne100 (by (try simp only [own_max_int, own_m100]); omega)) (own_eq (by simp only [own_max_int, own_min_int, own_m100]; omega) _)) (own_W37 hw) (own_W36 hw) 0 (by decide) (by decide) eq898 (mkF m 190 (own_LA3 p1 p2 p3 p4 p5 nn j0 j1 j2 jb q (.val (.int j0)) (.val (.int j1)) (.val (.int j2)) .unset .unset .unset) [(.int jb), (.int (own_max j0 (own_max j1 j2))), (.double (FP.i2d jb))]) rfl (by rw [hml]; rfl) [(.double (FP.i2d jb)), (.int (own_max j0 (own_max j1 j2))), (.int jb)] [] rfl (lenOf own_pd__DII_Z rfl) rfl (Nat.le_refl _) (Jvm.hb hby at_190) (by decide) (by decide)
          have N900 := Fr.app N898 Nq900
          have pre901 := fun (τ : State) kt => pre899 τ (by
            refine XS.iload X898.here hx rfl (Jvm.hb hby at_188) rfl ?_
            exact st900 τ kt)
          obtain ⟨_, T930, L930, X930, ⟨rfl, Nq930, Kq930, f1_930, f2_930, f3_930, f4_930, f5_930, f6_930⟩, st930⟩ := own_virt (y := own_mn6) (b := q) X900 hx hZ hown (own_W39 hw) (own_W40 hw) (own_W42 hw) (own_W41 hw) (by decide) (rmRem_03_cx l Z a0 hw [] q (1 : Int32) A B kA kB (0 : Int32) (1 : Int32) (2 : Int32) (FP.i2d j0) (FP.i2d j1) (FP.i2d jb) T881.heap n0 (Nat.le_trans Z0 K881.1) f893 f1_881 f2_881 f3_881 f4_881 f5_881 f6_881 naA naB nAB g_q gA gB (by decide) (by decide)) (own_W43 hw) (own_W2 hw) 0 (by decide) (by decide) f893 eq900 (mkF m 198 (own_LA3 p1 p2 p3 p4 p5 nn j0 j1 j2 jb q (.val (.int j0)) (.val (.int j1)) (.val (.int j2)) (.val (.int (1 : Int32))) .unset .unset) [(.int (1 : Int32)), (.ref q)]) rfl (by rw [hml]; rfl) [(.int (1 : Int32))] [] rfl (lenOf own_pd__I_V rfl) rfl (Nat.le_refl _) (Jvm.hb hby at_198) (by decide) (by decide)
          have N930 := Fr.app N900 Nq930
          have K930 : Keep h0 T930.heap [] := K881.trans Kq930 (allS (Or.inr sz_q) (allS (Or.inr sz_A) (allS (Or.inr sz_B) (all0))))
          have pre931 := fun (τ : State) kt => pre901 τ (by
            refine XS.istore X900.here hx rfl (Jvm.hb hby at_193) rfl (l' := (own_LA3 p1 p2 p3 p4 p5 nn j0 j1 j2 jb q (.val (.int j0)) (.val (.int j1)) (.val (.int j2)) (.val (.int (1 : Int32))) .unset .unset)) rfl ?_
            refine XS.aload X900.here hx rfl (Jvm.hb hby at_195) rfl rfl ?_
            refine XS.iconst X900.here hx rfl (Jvm.hb hby at_197) ?_
            exact st930 τ kt)
          have f942 := f893.keep Kq930
          obtain ⟨_, T943, L943, X943, ⟨rfl, Nq943, eq943⟩, st943⟩ := own_virt (y := own_mn3) (b := q) X930 hx hZ hown (own_W24 hw) (own_W25 hw) (own_W27 hw) (own_W26 hw) (by decide) (rmMax_02 l Z a0 hw [] q A B kA kB (0 : Int32) (1 : Int32) (2 : Int32) (FP.i2d j0) (FP.i2d j1) (FP.i2d jb) T930.heap n0 (Nat.le_trans Z0 K930.1) f942 f1_930 f2_930 f3_930 f4_930 f5_930 f6_930 naA naB nAB g_q gA gB) (own_W28 hw) (own_W2 hw) 0 (by decide) (by decide) f942 rfl (mkF m 203 (own_LA3 p1 p2 p3 p4 p5 nn j0 j1 j2 jb q (.val (.int j0)) (.val (.int j1)) (.val (.int j2)) (.val (.int (1 : Int32))) .unset .unset) [(.ref q)]) rfl (by rw [hml]; rfl) [] [] rfl (lenOf own_pd___D rfl) rfl (Nat.le_refl _) (Jvm.hb hby at_203) (by decide) (by decide)
          have N943 := Fr.app N930 Nq943
          have pre944 := fun (τ : State) kt => pre931 τ (by
            refine XS.aload X930.here hx rfl (Jvm.hb hby at_201) rfl rfl ?_
            exact st943 τ kt)
          obtain ⟨_, T945, L945, X945, ⟨rfl, Nq945, eq945⟩, st945⟩ := own_stat (y := own_mn4) X943 hx hZ hown (own_W30 hw) (own_W31 hw) (by decide) (rm_max l Z a0 hw [] j0 j1 T930.heap n0 (Nat.le_trans Z0 K930.1)) (own_W33 hw) (own_W32 hw) 2 (by decide) (by decide) eq943 (mkF m 210 (own_LA3 p1 p2 p3 p4 p5 nn j0 j1 j2 jb q (.val (.int j0)) (.val (.int j1)) (.val (.int j2)) (.val (.int (1 : Int32))) .unset .unset) [(.int j1), (.int j0), (.double (FP.i2d j1))]) rfl (by rw [hml]; rfl) [(.int j0), (.int j1)] [(.double (FP.i2d j1))] rfl (lenOf own_pd__II_I rfl) rfl (Nat.le_refl _) (Jvm.hb hby at_210) (by decide) (by decide)
          have N945 := Fr.app N943 Nq945
          have pre946 := fun (τ : State) kt => pre944 τ (by
            refine XS.iload X943.here hx rfl (Jvm.hb hby at_206) rfl ?_
            refine XS.iload X943.here hx rfl (Jvm.hb hby at_208) rfl ?_
            exact st945 τ kt)
          obtain ⟨_, T947, L947, X947, ⟨rfl, Nq947, eq947⟩, st947⟩ := own_stat (y := own_mn5) X945 hx hZ hown (own_W34 hw) (own_W35 hw) (by decide) (rmE2 l Z a0 hw [] (FP.i2d j1) (own_max j0 j1) jb T930.heap n0 (Nat.le_trans Z0 K930.1) (own_ne100 (by (try simp only [own_max_int, own_m100]); omega)) (own_eq (by simp only [own_max_int, own_min_int, own_m100]; omega) _)) (own_W37 hw) (own_W36 hw) 0 (by decide) (by decide) eq945 (mkF m 215 (own_LA3 p1 p2 p3 p4 p5 nn j0 j1 j2 jb q (.val (.int j0)) (.val (.int j1)) (.val (.int j2)) (.val (.int (1 : Int32))) .unset .unset) [(.int jb), (.int (own_max j0 j1)), (.double (FP.i2d j1))]) rfl (by rw [hml]; rfl) [(.double (FP.i2d j1)), (.int (own_max j0 j1)), (.int jb)] [] rfl (lenOf own_pd__DII_Z rfl) rfl (Nat.le_refl _) (Jvm.hb hby at_215) (by decide) (by decide)
          have N947 := Fr.app N945 Nq947
          have pre948 := fun (τ : State) kt => pre946 τ (by
            refine XS.iload X945.here hx rfl (Jvm.hb hby at_213) rfl ?_
            exact st947 τ kt)
          obtain ⟨_, T977, L977, X977, ⟨rfl, Nq977, Kq977, f1_977, f2_977, f3_977, f4_977, f5_977, f6_977⟩, st977⟩ := own_virt (y := own_mn6) (b := q) X947 hx hZ hown (own_W39 hw) (own_W40 hw) (own_W42 hw) (own_W41 hw) (by decide) (rmRem_02_cx l Z a0 hw [] q (0 : Int32) A B kA kB (0 : Int32) (1 : Int32) (2 : Int32) (FP.i2d j0) (FP.i2d j1) (FP.i2d jb) T930.heap n0 (Nat.le_trans Z0 K930.1) f942 f1_930 f2_930 f3_930 f4_930 f5_930 f6_930 naA naB nAB g_q gA gB (by decide) (by decide)) (own_W43 hw) (own_W2 hw) 0 (by decide) (by decide) f942 eq947 (mkF m 223 (own_LA3 p1 p2 p3 p4 p5 nn j0 j1 j2 jb q (.val (.int j0)) (.val (.int j1)) (.val (.int j2)) (.val (.int (1 : Int32))) (.val (.int (1 : Int32))) .unset) [(.int (0 : Int32)), (.ref q)]) rfl (by rw [hml]; rfl) [(.int (0 : Int32))] [] rfl (lenOf own_pd__I_V rfl) rfl (Nat.le_refl _) (Jvm.hb hby at_223) (by decide) (by decide)
          have N977 := Fr.app N947 Nq977
          have K977 : Keep h0 T977.heap [] := K930.trans Kq977 (allS (Or.inr sz_q) (allS (Or.inr sz_A) (allS (Or.inr sz_B) (all0))))
          have pre978 := fun (τ : State) kt => pre948 τ (by
            refine XS.istore X947.here hx rfl (Jvm.hb hby at_218) rfl (l' := (own_LA3 p1 p2 p3 p4 p5 nn j0 j1 j2 jb q (.val (.int j0)) (.val (.int j1)) (.val (.int j2)) (.val (.int (1 : Int32))) (.val (.int (1 : Int32))) .unset)) rfl ?_
            refine XS.aload X947.here hx rfl (Jvm.hb hby at_220) rfl rfl ?_
            refine XS.iconst X947.here hx rfl (Jvm.hb hby at_222) ?_
            exact st977 τ kt)
          have f989 := f942.keep Kq977
          obtain ⟨_, T990, L990, X990, ⟨rfl, Nq990, eq990⟩, st990⟩ := own_virt (y := own_mn3) (b := q) X977 hx hZ hown (own_W24 hw) (own_W25 hw) (own_W27 hw) (own_W26 hw) (by decide) (rmMax_01 l Z a0 hw [] q A B kA kB (0 : Int32) (1 : Int32) (2 : Int32) (FP.i2d j0) (FP.i2d j1) (FP.i2d jb) T977.heap n0 (Nat.le_trans Z0 K977.1) f989 f1_977 f2_977 f3_977 f4_977 f5_977 f6_977 naA naB nAB g_q gA gB) (own_W28 hw) (own_W2 hw) 0 (by decide) (by decide) f989 rfl (mkF m 228 (own_LA3 p1 p2 p3 p4 p5 nn j0 j1 j2 jb q (.val (.int j0)) (.val (.int j1)) (.val (.int j2)) (.val (.int (1 : Int32))) (.val (.int (1 : Int32))) .unset) [(.ref q)]) rfl (by rw [hml]; rfl) [] [] rfl (lenOf own_pd___D rfl) rfl (Nat.le_refl _) (Jvm.hb hby at_228) (by decide) (by decide)
          have N990 := Fr.app N977 Nq990
          have pre991 := fun (τ : State) kt => pre978 τ (by
            refine XS.aload X977.here hx rfl (Jvm.hb hby at_226) rfl rfl ?_
            exact st990 τ kt)
          obtain ⟨_, T992, L992, X992, ⟨rfl, Nq992, eq992⟩, st992⟩ := own_stat (y := own_mn5) X990 hx hZ hown (own_W34 hw) (own_W35 hw) (by decide) (rmE2 l Z a0 hw [] (FP.i2d j0) j0 jb T977.heap n0 (Nat.le_trans Z0 K977.1) (own_ne100 (by (try simp only [own_max_int, own_m100]); omega)) (own_eq (by simp only [own_max_int, own_min_int, own_m100]; omega) _)) (own_W37 hw) (own_W36 hw) 0 (by decide) (by decide) eq990 (mkF m 235 (own_LA3 p1 p2 p3 p4 p5 nn j0 j1 j2 jb q (.val (.int j0)) (.val (.int j1)) (.val (.int j2)) (.val (.int (1 : Int32))) (.val (.int (1 : Int32))) .unset) [(.int jb), (.int j0), (.double (FP.i2d j0))]) rfl (by rw [hml]; rfl) [(.double (FP.i2d j0)), (.int j0), (.int jb)] [] rfl (lenOf own_pd__DII_Z rfl) rfl (Nat.le_refl _) (Jvm.hb hby at_235) (by decide) (by decide)
          have N992 := Fr.app N990 Nq992
          have pre993 := fun (τ : State) kt => pre991 τ (by
            refine XS.iload X990.here hx rfl (Jvm.hb hby at_231) rfl ?_
            refine XS.iload X990.here hx rfl (Jvm.hb hby at_233) rfl ?_
            exact st992 τ kt)
          have pre994 := fun (τ : State) kt => pre993 τ (by
            refine XS.istore X992.here hx rfl (Jvm.hb hby at_238) rfl (l' := (own_LA3 p1 p2 p3 p4 p5 nn j0 j1 j2 jb q (.val (.int j0)) (.val (.int j1)) (.val (.int j2)) (.val (.int (1 : Int32))) (.val (.int (1 : Int32))) (.val (.int (1 : Int32))))) rfl ?_
            refine XS.iload X992.here hx rfl (Jvm.hb hby at_240) rfl ?_
            refine XS.ifNo X992.here hx rfl (Jvm.hb hby at_242) rfl ((if0 _ _).trans (feq (by decide)).1) ?_
            refine XS.iload X992.here hx rfl (Jvm.hb hby at_245) rfl ?_
            refine XS.ifNo X992.here hx rfl (Jvm.hb hby at_247) rfl ((if0 _ _).trans (feq (by decide)).1) ?_
            refine XS.iload X992.here hx rfl (Jvm.hb hby at_250) rfl ?_
            refine XS.ifNo X992.here hx rfl (Jvm.hb hby at_252) rfl ((if0 _ _).trans (feq (by decide)).1) ?_
            refine XS.iconst X992.here hx rfl (Jvm.hb hby at_255) ?_
            refine XS.goto X992.here hx rfl (pc0 := 256) (pc' := 260) rfl (Jvm.hb hby at_256) (by decide) (by decide) ?_
            exact kt)
          obtain ⟨fs, hrL, hrun, hended, hW, hsame⟩ := X992.leave (v := some (.int (1 : Int32))) (fun h => by rw [Bd.returns] at h; cases h)
          refine ⟨_, _, cast (congrFun hPS _) (pre994 _ ?_), hrun, hended, _, _, rfl, ?_, ⟨_, rfl⟩, hW, hsame.mono (by decide) (by decide)⟩
          · show Steps p.tables e below (T992.setTop (mkF m 260 (own_LA3 p1 p2 p3 p4 p5 nn j0 j1 j2 jb q (.val (.int j0)) (.val (.int j1)) (.val (.int j2)) (.val (.int (1 : Int32))) (.val (.int (1 : Int32))) (.val (.int (1 : Int32)))) [(.int (1 : Int32))])) _
            exact retN X992 hx (t := .boolean) Bd.returns (by simp) (Jvm.hb hby at_260) hrL
          · show Q0 n0 _ T992.heap _
            exact ⟨rfl, N992⟩
        have f1014 := f844.keep Kq845
        obtain ⟨_, T1015, L1015, X1015, ⟨rfl, Nq1015, Kq1015, f1_1015, f2_1015, f3_1015, f4_1015, f5_1015, f6_1015⟩, st1015⟩ := own_virt (y := own_mn2) (b := q) X845 hx hZ hown (own_W19 hw) (own_W20 hw) (own_W22 hw) (own_W21 hw) (by decide) (rmCap_03_xk l Z a0 hw [] q (FP.i2d jb) A B kA kB (0 : Int32) (1 : Int32) (2 : Int32) (FP.i2d j0) (FP.i2d j1) (FP.i2d j2) T845.heap n0 (Nat.le_trans Z0 K845.1) f1014 f1_845 f2_845 f3_845 f4_845 f5_845 f6_845 naA naB nAB g_q gA gB ((own_lt _ _ _).mpr qc848) (fun z => qb849 ((own_gt _ _ _).mp z))) (own_W23 hw) (own_W2 hw) 0 (by decide) (by decide) f1014 rfl (mkF m 126 (own_LA3 p1 p2 p3 p4 p5 nn j0 j1 j2 jb q .unset .unset .unset .unset .unset .unset) [(.double (FP.i2d jb)), (.ref q)]) rfl (by rw [hml]; rfl) [(.double (FP.i2d jb))] [] rfl (lenOf own_pd__D_V rfl) rfl (Nat.le_refl _) (Jvm.hb hby at_126) (by decide) (by decide)
        have N1015 := Fr.app N845 Nq1015
        have K1015 : Keep h0 T1015.heap [] := K845.trans Kq1015 (allS (Or.inr sz_q) (allS (Or.inr sz_A) (allS (Or.inr sz_B) (all0))))
        have pre1016 := fun (τ : State) kt => pre847 τ (st1015 τ kt)
        have f1017 := f1014.keep Kq1015
        obtain ⟨_, T1018, L1018, X1018, ⟨rfl, Nq1018, eq1018⟩, st1018⟩ := own_virt (y := own_mn3) (b := q) X1015 hx hZ hown (own_W24 hw) (own_W25 hw) (own_W27 hw) (own_W26 hw) (by decide) (rmMax_03 l Z a0 hw [] q A B kA kB (0 : Int32) (1 : Int32) (2 : Int32) (FP.i2d j0) (FP.i2d j1) (FP.i2d j2) T1015.heap n0 (Nat.le_trans Z0 K1015.1) f1017 f1_1015 f2_1015 f3_1015 f4_1015 f5_1015 f6_1015 naA naB nAB g_q gA gB) (own_W28 hw) (own_W2 hw) 0 (by decide) (by decide) f1017 rfl (mkF m 173 (own_LA3 p1 p2 p3 p4 p5 nn j0 j1 j2 jb q (.val (.int j0)) (.val (.int j1)) (.val (.int j2)) .unset .unset .unset) [(.ref q)]) rfl (by rw [hml]; rfl) [] [] rfl (lenOf own_pd___D rfl) rfl (Nat.le_refl _) (Jvm.hb hby at_173) (by decide) (by decide)
        have N1018 := Fr.app N1015 Nq1018
        have pre1019 := fun (τ : State) kt => pre1016 τ (by
          refine XS.iload X1015.here hx rfl (Jvm.hb hby at_129) rfl ?_
          refine XS.ifNo X1015.here hx rfl (Jvm.hb hby at_131) rfl ((if0 _ _).trans (feq (by decide)).1) ?_
          refine XS.iload X1015.here hx rfl (Jvm.hb hby at_134) rfl ?_
          refine XS.goto X1015.here hx rfl (pc0 := 136) (pc' := 141) rfl (Jvm.hb hby at_136) (by decide) (by decide) ?_
          refine XS.istore X1015.here hx rfl (Jvm.hb hby at_141) rfl (l' := (own_LA3 p1 p2 p3 p4 p5 nn j0 j1 j2 jb q (.val (.int j0)) .unset .unset .unset .unset .unset)) rfl ?_
          refine XS.iload X1015.here hx rfl (Jvm.hb hby at_143) rfl ?_
          refine XS.ifNo X1015.here hx rfl (Jvm.hb hby at_145) rfl ((if0 _ _).trans (feq (by decide)).1) ?_
          refine XS.iload X1015.here hx rfl (Jvm.hb hby at_148) rfl ?_
          refine XS.goto X1015.here hx rfl (pc0 := 150) (pc' := 155) rfl (Jvm.hb hby at_150) (by decide) (by decide) ?_
          refine XS.istore X1015.here hx rfl (Jvm.hb hby at_155) rfl (l' := (own_LA3 p1 p2 p3 p4 p5 nn j0 j1 j2 jb q (.val (.int j0)) (.val (.int j1)) .unset .unset .unset .unset)) rfl ?_
          refine XS.iload X1015.here hx rfl (Jvm.hb hby at_157) rfl ?_
          refine XS.ifNo X1015.here hx rfl (Jvm.hb hby at_159) rfl ((if0 _ _).trans (feq (by decide)).1) ?_
          refine XS.iload X1015.here hx rfl (Jvm.hb hby at_162) rfl ?_
          refine XS.goto X1015.here hx rfl (pc0 := 164) (pc' := 169) rfl (Jvm.hb hby at_164) (by decide) (by decide) ?_
          refine XS.istore X1015.here hx rfl (Jvm.hb hby at_169) rfl (l' := (own_LA3 p1 p2 p3 p4 p5 nn j0 j1 j2 jb q (.val (.int j0)) (.val (.int j1)) (.val (.int j2)) .unset .unset .unset)) rfl ?_
          refine XS.aload X1015.here hx rfl (Jvm.hb hby at_171) rfl rfl ?_
          exact st1018 τ kt)
        obtain ⟨_, T1020, L1020, X1020, ⟨rfl, Nq1020, eq1020⟩, st1020⟩ := own_stat (y := own_mn4) X1018 hx hZ hown (own_W30 hw) (own_W31 hw) (by decide) (rm_max l Z a0 hw [] j1 j2 T1015.heap n0 (Nat.le_trans Z0 K1015.1)) (own_W33 hw) (own_W32 hw) 3 (by decide) (by decide) eq1018 (mkF m 182 (own_LA3 p1 p2 p3 p4 p5 nn j0 j1 j2 jb q (.val (.int j0)) (.val (.int j1)) (.val (.int j2)) .unset .unset .unset) [(.int j2), (.int j1), (.int j0), (.double (FP.i2d j2))]) rfl (by rw [hml]; rfl) [(.int j1), (.int j2)] [(.int j0), (.double (FP.i2d j2))] rfl (lenOf own_pd__II_I rfl) rfl (Nat.le_refl _) (Jvm.hb hby at_182) (by decide) (by decide)
        have N1020 := Fr.app N1018 Nq1020
        have pre1021 := fun (τ : State) kt => pre1019 τ (by
          refine XS.iload X1018.here hx rfl (Jvm.hb hby at_176) rfl ?_
          refine XS.iload X1018.here hx rfl (Jvm.hb hby at_178) rfl ?_
          refine XS.iload X1018.here hx rfl (Jvm.hb hby at_180) rfl ?_
          exact st1020 τ kt)
        obtain ⟨_, T1022, L1022, X1022, ⟨rfl, Nq1022, eq1022⟩, st1022⟩ := own_stat (y := own_mn4) X1020 hx hZ hown (own_W30 hw) (own_W31 hw) (by decide) (rm_max l Z a0 hw [] j0 (own_max j1 j2) T1015.heap n0 (Nat.le_trans Z0 K1015.1)) (own_W33 hw) (own_W32 hw) 2 (by decide) (by decide) eq1020 (mkF m 185 (own_LA3 p1 p2 p3 p4 p5 nn j0 j1 j2 jb q (.val (.int j0)) (.val (.int j1)) (.val (.int j2)) .unset .unset .unset) [(.int (own_max j1 j2)), (.int j0), (.double (FP.i2d j2))]) rfl (by rw [hml]; rfl) [(.int j0), (.int (own_max j1 j2))] [(.double (FP.i2d j2))] rfl (lenOf own_pd__II_I rfl) rfl (Nat.le_refl _) (Jvm.hb hby at_185) (by decide) (by decide)
        have N1022 := Fr.app N1020 Nq1022
        have pre1023 := fun (τ : State) kt => pre1021 τ (st1022 τ kt)
        obtain ⟨_, T1024, L1024, X1024, ⟨rfl, Nq1024, eq1024⟩, st1024⟩ := own_stat (y := own_mn5) X1022 hx hZ hown (own_W34 hw) (own_W35 hw) (by decide) (rmE2 l Z a0 hw [] (FP.i2d j2) (own_max j0 (own_max j1 j2)) jb T1015.heap n0 (Nat.le_trans Z0 K1015.1) (own_ne100 (by (try simp only [own_max_int, own_m100]); omega)) (own_eq (by simp only [own_max_int, own_min_int, own_m100]; omega) _)) (own_W37 hw) (own_W36 hw) 0 (by decide) (by decide) eq1022 (mkF m 190 (own_LA3 p1 p2 p3 p4 p5 nn j0 j1 j2 jb q (.val (.int j0)) (.val (.int j1)) (.val (.int j2)) .unset .unset .unset) [(.int jb), (.int (own_max j0 (own_max j1 j2))), (.double (FP.i2d j2))]) rfl (by rw [hml]; rfl) [(.double (FP.i2d j2)), (.int (own_max j0 (own_max j1 j2))), (.int jb)] [] rfl (lenOf own_pd__DII_Z rfl) rfl (Nat.le_refl _) (Jvm.hb hby at_190) (by decide) (by decide)
        have N1024 := Fr.app N1022 Nq1024
        have pre1025 := fun (τ : State) kt => pre1023 τ (by
          refine XS.iload X1022.here hx rfl (Jvm.hb hby at_188) rfl ?_
          exact st1024 τ kt)
        obtain ⟨_, T1026, L1026, X1026, ⟨rfl, Nq1026, Kq1026, f1_1026, f2_1026, f3_1026, f4_1026, f5_1026, f6_1026⟩, st1026⟩ := own_virt (y := own_mn6) (b := q) X1024 hx hZ hown (own_W39 hw) (own_W40 hw) (own_W42 hw) (own_W41 hw) (by decide) (rmRem_03_cx l Z a0 hw [] q (1 : Int32) A B kA kB (0 : Int32) (1 : Int32) (2 : Int32) (FP.i2d j0) (FP.i2d j1) (FP.i2d j2) T1015.heap n0 (Nat.le_trans Z0 K1015.1) f1017 f1_1015 f2_1015 f3_1015 f4_1015 f5_1015 f6_1015 naA naB nAB g_q gA gB (by decide) (by decide)) (own_W43 hw) (own_W2 hw) 0 (by decide) (by decide) f1017 eq1024 (mkF m 198 (own_LA3 p1 p2 p3 p4 p5 nn j0 j1 j2 jb q (.val (.int j0)) (.val (.int j1)) (.val (.int j2)) (.val (.int (1 : Int32))) .unset .unset) [(.int (1 : Int32)), (.ref q)]) rfl (by rw [hml]; rfl) [(.int (1 : Int32))] [] rfl (lenOf own_pd__I_V rfl) rfl (Nat.le_refl _) (Jvm.hb hby at_198) (by decide) (by decide)
        have N1026 := Fr.app N1024 Nq1026
        have K1026 : Keep h0 T1026.heap [] := K1015.trans Kq1026 (allS (Or.inr sz_q) (allS (Or.inr sz_A) (allS (Or.inr sz_B) (all0))))
        have pre1027 := fun (τ : State) kt => pre1025 τ (by
          refine XS.istore X1024.here hx rfl (Jvm.hb hby at_193) rfl (l' := (own_LA3 p1 p2 p3 p4 p5 nn j0 j1 j2 jb q (.val (.int j0)) (.val (.int j1)) (.val (.int j2)) (.val (.int (1 : Int32))) .unset .unset)) rfl ?_
          refine XS.aload X1024.here hx rfl (Jvm.hb hby at_195) rfl rfl ?_
          refine XS.iconst X1024.here hx rfl (Jvm.hb hby at_197) ?_
          exact st1026 τ kt)
        have f1028 := f1017.keep Kq1026
        obtain ⟨_, T1029, L1029, X1029, ⟨rfl, Nq1029, eq1029⟩, st1029⟩ := own_virt (y := own_mn3) (b := q) X1026 hx hZ hown (own_W24 hw) (own_W25 hw) (own_W27 hw) (own_W26 hw) (by decide) (rmMax_02 l Z a0 hw [] q A B kA kB (0 : Int32) (1 : Int32) (2 : Int32) (FP.i2d j0) (FP.i2d j1) (FP.i2d j2) T1026.heap n0 (Nat.le_trans Z0 K1026.1) f1028 f1_1026 f2_1026 f3_1026 f4_1026 f5_1026 f6_1026 naA naB nAB g_q gA gB) (own_W28 hw) (own_W2 hw) 0 (by decide) (by decide) f1028 rfl (mkF m 203 (own_LA3 p1 p2 p3 p4 p5 nn j0 j1 j2 jb q (.val (.int j0)) (.val (.int j1)) (.val (.int j2)) (.val (.int (1 : Int32))) .unset .unset) [(.ref q)]) rfl (by rw [hml]; rfl) [] [] rfl (lenOf own_pd___D rfl) rfl (Nat.le_refl _) (Jvm.hb hby at_203) (by decide) (by decide)
        have N1029 := Fr.app N1026 Nq1029
        have pre1030 := fun (τ : State) kt => pre1027 τ (by
          refine XS.aload X1026.here hx rfl (Jvm.hb hby at_201) rfl rfl ?_
          exact st1029 τ kt)
        obtain ⟨_, T1031, L1031, X1031, ⟨rfl, Nq1031, eq1031⟩, st1031⟩ := own_stat (y := own_mn4) X1029 hx hZ hown (own_W30 hw) (own_W31 hw) (by decide) (rm_max l Z a0 hw [] j0 j1 T1026.heap n0 (Nat.le_trans Z0 K1026.1)) (own_W33 hw) (own_W32 hw) 2 (by decide) (by decide) eq1029 (mkF m 210 (own_LA3 p1 p2 p3 p4 p5 nn j0 j1 j2 jb q (.val (.int j0)) (.val (.int j1)) (.val (.int j2)) (.val (.int (1 : Int32))) .unset .unset) [(.int j1), (.int j0), (.double (FP.i2d j1))]) rfl (by rw [hml]; rfl) [(.int j0), (.int j1)] [(.double (FP.i2d j1))] rfl (lenOf own_pd__II_I rfl) rfl (Nat.le_refl _) (Jvm.hb hby at_210) (by decide) (by decide)
        have N1031 := Fr.app N1029 Nq1031
        have pre1032 := fun (τ : State) kt => pre1030 τ (by
          refine XS.iload X1029.here hx rfl (Jvm.hb hby at_206) rfl ?_
          refine XS.iload X1029.here hx rfl (Jvm.hb hby at_208) rfl ?_
          exact st1031 τ kt)
        obtain ⟨_, T1033, L1033, X1033, ⟨rfl, Nq1033, eq1033⟩, st1033⟩ := own_stat (y := own_mn5) X1031 hx hZ hown (own_W34 hw) (own_W35 hw) (by decide) (rmE2 l Z a0 hw [] (FP.i2d j1) (own_max j0 j1) jb T1026.heap n0 (Nat.le_trans Z0 K1026.1) (own_ne100 (by (try simp only [own_max_int, own_m100]); omega)) (own_eq (by simp only [own_max_int, own_min_int, own_m100]; omega) _)) (own_W37 hw) (own_W36 hw) 0 (by decide) (by decide) eq1031 (mkF m 215 (own_LA3 p1 p2 p3 p4 p5 nn j0 j1 j2 jb q (.val (.int j0)) (.val (.int j1)) (.val (.int j2)) (.val (.int (1 : Int32))) .unset .unset) [(.int jb), (.int (own_max j0 j1)), (.double (FP.i2d j1))]) rfl (by rw [hml]; rfl) [(.double (FP.i2d j1)), (.int (own_max j0 j1)), (.int jb)] [] rfl (lenOf own_pd__DII_Z rfl) rfl (Nat.le_refl _) (Jvm.hb hby at_215) (by decide) (by decide)
        have N1033 := Fr.app N1031 Nq1033
        have pre1034 := fun (τ : State) kt => pre1032 τ (by
          refine XS.iload X1031.here hx rfl (Jvm.hb hby at_213) rfl ?_
          exact st1033 τ kt)
        obtain ⟨_, T1035, L1035, X1035, ⟨rfl, Nq1035, Kq1035, f1_1035, f2_1035, f3_1035, f4_1035, f5_1035, f6_1035⟩, st1035⟩ := own_virt (y := own_mn6) (b := q) X1033 hx hZ hown (own_W39 hw) (own_W40 hw) (own_W42 hw) (own_W41 hw) (by decide) (rmRem_02_cx l Z a0 hw [] q (0 : Int32) A B kA kB (0 : Int32) (1 : Int32) (2 : Int32) (FP.i2d j0) (FP.i2d j1) (FP.i2d j2) T1026.heap n0 (Nat.le_trans Z0 K1026.1) f1028 f1_1026 f2_1026 f3_1026 f4_1026 f5_1026 f6_1026 naA naB nAB g_q gA gB (by decide) (by decide)) (own_W43 hw) (own_W2 hw) 0 (by decide) (by decide) f1028 eq1033 (mkF m 223 (own_LA3 p1 p2 p3 p4 p5 nn j0 j1 j2 jb q (.val (.int j0)) (.val (.int j1)) (.val (.int j2)) (.val (.int (1 : Int32))) (.val (.int (1 : Int32))) .unset) [(.int (0 : Int32)), (.ref q)]) rfl (by rw [hml]; rfl) [(.int (0 : Int32))] [] rfl (lenOf own_pd__I_V rfl) rfl (Nat.le_refl _) (Jvm.hb hby at_223) (by decide) (by decide)
        have N1035 := Fr.app N1033 Nq1035
        have K1035 : Keep h0 T1035.heap [] := K1026.trans Kq1035 (allS (Or.inr sz_q) (allS (Or.inr sz_A) (allS (Or.inr sz_B) (all0))))
        have pre1036 := fun (τ : State) kt => pre1034 τ (by
          refine XS.istore X1033.here hx rfl (Jvm.hb hby at_218) rfl (l' := (own_LA3 p1 p2 p3 p4 p5 nn j0 j1 j2 jb q (.val (.int j0)) (.val (.int j1)) (.val (.int j2)) (.val (.int (1 : Int32))) (.val (.int (1 : Int32))) .unset)) rfl ?_
          refine XS.aload X1033.here hx rfl (Jvm.hb hby at_220) rfl rfl ?_
          refine XS.iconst X1033.here hx rfl (Jvm.hb hby at_222) ?_
          exact st1035 τ kt)
        have f1037 := f1028.keep Kq1035
        obtain ⟨_, T1038, L1038, X1038, ⟨rfl, Nq1038, eq1038⟩, st1038⟩ := own_virt (y := own_mn3) (b := q) X1035 hx hZ hown (own_W24 hw) (own_W25 hw) (own_W27 hw) (own_W26 hw) (by decide) (rmMax_01 l Z a0 hw [] q A B kA kB (0 : Int32) (1 : Int32) (2 : Int32) (FP.i2d j0) (FP.i2d j1) (FP.i2d j2) T1035.heap n0 (Nat.le_trans Z0 K1035.1) f1037 f1_1035 f2_1035 f3_1035 f4_1035 f5_1035 f6_1035 naA naB nAB g_q gA gB) (own_W28 hw) (own_W2 hw) 0 (by decide) (by decide) f1037 rfl (mkF m 228 (own_LA3 p1 p2 p3 p4 p5 nn j0 j1 j2 jb q (.val (.int j0)) (.val (.int j1)) (.val (.int j2)) (.val (.int (1 : Int32))) (.val (.int (1 : Int32))) .unset) [(.ref q)]) rfl (by rw [hml]; rfl) [] [] rfl (lenOf own_pd___D rfl) rfl (Nat.le_refl _) (Jvm.hb hby at_228) (by decide) (by decide)
        have N1038 := Fr.app N1035 Nq1038
        have pre1039 := fun (τ : State) kt => pre1036 τ (by
          refine XS.aload X1035.here hx rfl (Jvm.hb hby at_226) rfl rfl ?_
          exact st1038 τ kt)
        obtain ⟨_, T1040, L1040, X1040, ⟨rfl, Nq1040, eq1040⟩, st1040⟩ := own_stat (y := own_mn5) X1038 hx hZ hown (own_W34 hw) (own_W35 hw) (by decide) (rmE2 l Z a0 hw [] (FP.i2d j0) j0 jb T1035.heap n0 (Nat.le_trans Z0 K1035.1) (own_ne100 (by (try simp only [own_max_int, own_m100]); omega)) (own_eq (by simp only [own_max_int, own_min_int, own_m100]; omega) _)) (own_W37 hw) (own_W36 hw) 0 (by decide) (by decide) eq1038 (mkF m 235 (own_LA3 p1 p2 p3 p4 p5 nn j0 j1 j2 jb q (.val (.int j0)) (.val (.int j1)) (.val (.int j2)) (.val (.int (1 : Int32))) (.val (.int (1 : Int32))) .unset) [(.int jb), (.int j0), (.double (FP.i2d j0))]) rfl (by rw [hml]; rfl) [(.double (FP.i2d j0)), (.int j0), (.int jb)] [] rfl (lenOf own_pd__DII_Z rfl) rfl (Nat.le_refl _) (Jvm.hb hby at_235) (by decide) (by decide)
        have N1040 := Fr.app N1038 Nq1040
        have pre1041 := fun (τ : State) kt => pre1039 τ (by
          refine XS.iload X1038.here hx rfl (Jvm.hb hby at_231) rfl ?_
          refine XS.iload X1038.here hx rfl (Jvm.hb hby at_233) rfl ?_
          exact st1040 τ kt)
        have pre1042 := fun (τ : State) kt => pre1041 τ (by
          refine XS.istore X1040.here hx rfl (Jvm.hb hby at_238) rfl (l' := (own_LA3 p1 p2 p3 p4 p5 nn j0 j1 j2 jb q (.val (.int j0)) (.val (.int j1)) (.val (.int j2)) (.val (.int (1 : Int32))) (.val (.int (1 : Int32))) (.val (.int (1 : Int32))))) rfl ?_
          refine XS.iload X1040.here hx rfl (Jvm.hb hby at_240) rfl ?_
          refine XS.ifNo X1040.here hx rfl (Jvm.hb hby at_242) rfl ((if0 _ _).trans (feq (by decide)).1) ?_
          refine XS.iload X1040.here hx rfl (Jvm.hb hby at_245) rfl ?_
          refine XS.ifNo X1040.here hx rfl (Jvm.hb hby at_247) rfl ((if0 _ _).trans (feq (by decide)).1) ?_
          refine XS.iload X1040.here hx rfl (Jvm.hb hby at_250) rfl ?_
          refine XS.ifNo X1040.here hx rfl (Jvm.hb hby at_252) rfl ((if0 _ _).trans (feq (by decide)).1) ?_
          refine XS.iconst X1040.here hx rfl (Jvm.hb hby at_255) ?_
          refine XS.goto X1040.here hx rfl (pc0 := 256) (pc' := 260) rfl (Jvm.hb hby at_256) (by decide) (by decide) ?_
          exact kt)
        obtain ⟨fs, hrL, hrun, hended, hW, hsame⟩ := X1040.leave (v := some (.int (1 : Int32))) (fun h => by rw [Bd.returns] at h; cases h)
        refine ⟨_, _, cast (congrFun hPS _) (pre1042 _ ?_), hrun, hended, _, _, rfl, ?_, ⟨_, rfl⟩, hW, hsame.mono (by decide) (by decide)⟩
        · show Steps p.tables e below (T1040.setTop (mkF m 260 (own_LA3 p1 p2 p3 p4 p5 nn j0 j1 j2 jb q (.val (.int j0)) (.val (.int j1)) (.val (.int j2)) (.val (.int (1 : Int32))) (.val (.int (1 : Int32))) (.val (.int (1 : Int32)))) [(.int (1 : Int32))])) _
          exact retN X1040 hx (t := .boolean) Bd.returns (by simp) (Jvm.hb hby at_260) hrL
        · show Q0 n0 _ T1040.heap _
          exact ⟨rfl, N1040⟩
      by_cases qc1043 : j0.toInt < jb.toInt
      · skip
        by_cases qb1044 : jb.toInt < j1.toInt
        · skip
          have f1093 := f844.keep Kq845
          obtain ⟨_, T1094, L1094, X1094, ⟨rfl, Nq1094, Kq1094, f1_1094, f2_1094, f3_1094, f4_1094, f5_1094, f6_1094⟩, st1094⟩ := own_virt (y := own_mn2) (b := q) X845 hx hZ hown (own_W19 hw) (own_W20 hw) (own_W22 hw) (own_W21 hw) (by decide) (rmCap_03_cxs l Z a0 hw [] q (FP.i2d jb) A B kA kB (0 : Int32) (1 : Int32) (2 : Int32) (FP.i2d j0) (FP.i2d j1) (FP.i2d j2) T845.heap n0 (Nat.le_trans Z0 K845.1) f1093 f1_845 f2_845 f3_845 f4_845 f5_845 f6_845 naA naB nAB g_q gA gB (fun z => qc848 ((own_lt _ _ _).mp z)) ((own_lt _ _ _).mpr qc1043) ((own_gt _ _ _).mpr qb1044)) (own_W23 hw) (own_W2 hw) 0 (by decide) (by decide) f1093 rfl (mkF m 126 (own_LA3 p1 p2 p3 p4 p5 nn j0 j1 j2 jb q .unset .unset .unset .unset .unset .unset) [(.double (FP.i2d jb)), (.ref q)]) rfl (by rw [hml]; rfl) [(.double (FP.i2d jb))] [] rfl (lenOf own_pd__D_V rfl) rfl (Nat.le_refl _) (Jvm.hb hby at_126) (by decide) (by decide)
          have N1094 := Fr.app N845 Nq1094
          have K1094 : Keep h0 T1094.heap [] := K845.trans Kq1094 (allS (Or.inr sz_q) (allS (Or.inr sz_A) (allS (Or.inr sz_B) (all0))))
          have pre1095 := fun (τ : State) kt => pre847 τ (st1094 τ kt)
          have f1096 := f1093.keep Kq1094
          obtain ⟨_, T1097, L1097, X1097, ⟨rfl, Nq1097, eq1097⟩, st1097⟩ := own_virt (y := own_mn3) (b := q) X1094 hx hZ hown (own_W24 hw) (own_W25 hw) (own_W27 hw) (own_W26 hw) (by decide) (rmMax_02 l Z a0 hw [] q A B kA kB (0 : Int32) (1 : Int32) (2 : Int32) (FP.i2d j0) (FP.i2d jb) (FP.i2d j2) T1094.heap n0 (Nat.le_trans Z0 K1094.1) f1096 f1_1094 f2_1094 f3_1094 f4_1094 f5_1094 f6_1094 naA naB nAB g_q gA gB) (own_W28 hw) (own_W2 hw) 0 (by decide) (by decide) f1096 rfl (mkF m 173 (own_LA3 p1 p2 p3 p4 p5 nn j0 j1 j2 jb q (.val (.int j0)) (.val (.int j1)) (.val (.int j2)) .unset .unset .unset) [(.ref q)]) rfl (by rw [hml]; rfl) [] [] rfl (lenOf own_pd___D rfl) rfl (Nat.le_refl _) (Jvm.hb hby at_173) (by decide) (by decide)
          have N1097 := Fr.app N1094 Nq1097
          have pre1098 := fun (τ : State) kt => pre1095 τ (by
            refine XS.iload X1094.here hx rfl (Jvm.hb hby at_129) rfl ?_
            refine XS.ifNo X1094.here hx rfl (Jvm.hb hby at_131) rfl ((if0 _ _).trans (feq (by decide)).1) ?_
            refine XS.iload X1094.here hx rfl (Jvm.hb hby at_134) rfl ?_
            refine XS.goto X1094.here hx rfl (pc0 := 136) (pc' := 141) rfl (Jvm.hb hby at_136) (by decide) (by decide) ?_
            refine XS.istore X1094.here hx rfl (Jvm.hb hby at_141) rfl (l' := (own_LA3 p1 p2 p3 p4 p5 nn j0 j1 j2 jb q (.val (.int j0)) .unset .unset .unset .unset .unset)) rfl ?_
            refine XS.iload X1094.here hx rfl (Jvm.hb hby at_143) rfl ?_
            refine XS.ifNo X1094.here hx rfl (Jvm.hb hby at_145) rfl ((if0 _ _).trans (feq (by decide)).1) ?_
            refine XS.iload X1094.here hx rfl (Jvm.hb hby at_148) rfl ?_
            refine XS.goto X1094.here hx rfl (pc0 := 150) (pc' := 155) rfl (Jvm.hb hby at_150) (by decide) (by decide) ?_
            refine XS.istore X1094.here hx rfl (Jvm.hb hby at_155) rfl (l' := (own_LA3 p1 p2 p3 p4 p5 nn j0 j1 j2 jb q (.val (.int j0)) (.val (.int j1)) .unset .unset .unset .unset)) rfl ?_
            refine XS.iload X1094.here hx rfl (Jvm.hb hby at_157) rfl ?_
            refine XS.ifNo X1094.here hx rfl (Jvm.hb hby at_159) rfl ((if0 _ _).trans (feq (by decide)).1) ?_
            refine XS.iload X1094.here hx rfl (Jvm.hb hby at_162) rfl ?_
            refine XS.goto X1094.here hx rfl (pc0 := 164) (pc' := 169) rfl (Jvm.hb hby at_164) (by decide) (by decide) ?_
            refine XS.istore X1094.here hx rfl (Jvm.hb hby at_169) rfl (l' := (own_LA3 p1 p2 p3 p4 p5 nn j0 j1 j2 jb q (.val (.int j0)) (.val (.int j1)) (.val (.int j2)) .unset .unset .unset)) rfl ?_
            refine XS.aload X1094.here hx rfl (Jvm.hb hby at_171) rfl rfl ?_
            exact st1097 τ kt)
          obtain ⟨_, T1099, L1099, X1099, ⟨rfl, Nq1099, eq1099⟩, st1099⟩ := own_stat (y := own_mn4) X1097 hx hZ hown (own_W30 hw) (own_W31 hw) (by decide) (rm_max l Z a0 hw [] j1 j2 T1094.heap n0 (Nat.le_trans Z0 K1094.1)) (own_W33 hw) (own_W32 hw) 3 (by decide) (by decide) eq1097 (mkF m 182 (own_LA3 p1 p2 p3 p4 p5 nn j0 j1 j2 jb q (.val (.int j0)) (.val (.int j1)) (.val (.int j2)) .unset .unset .unset) [(.int j2), (.int j1), (.int j0), (.double (FP.i2d jb))]) rfl (by rw [hml]; rfl) [(.int j1), (.int j2)] [(.int j0), (.double (FP.i2d jb))] rfl (lenOf own_pd__II_I rfl) rfl (Nat.le_refl _) (Jvm.hb hby at_182) (by decide) (by decide)
          have N1099 := Fr.app N1097 Nq1099
          have pre1100 := fun (τ : State) kt => pre1098 τ (by
            refine XS.iload X1097.here hx rfl (Jvm.hb hby at_176) rfl ?_
            refine XS.iload X1097.here hx rfl (Jvm.hb hby at_178) rfl ?_
            refine XS.iload X1097.here hx rfl (Jvm.hb hby at_180) rfl ?_
            exact st1099 τ kt)
          obtain ⟨_, T1101, L1101, X1101, ⟨rfl, Nq1101, eq1101⟩, st1101⟩ := own_stat (y := own_mn4) X1099 hx hZ hown (own_W30 hw) (own_W31 hw) (by decide) (rm_max l Z a0 hw [] j0 (own_max j1 j2) T1094.heap n0 (Nat.le_trans Z0 K1094.1)) (own_W33 hw) (own_W32 hw) 2 (by decide) (by decide) eq1099 (mkF m 185 (own_LA3 p1 p2 p3 p4 p5 nn j0 j1 j2 jb q (.val (.int j0)) (.val (.int j1)) (.val (.int j2)) .unset .unset .unset) [(.int (own_max j1 j2)), (.int j0), (.double (FP.i2d jb))]) rfl (by rw [hml]; rfl) [(.int j0), (.int (own_max j1 j2))] [(.double (FP.i2d jb))] rfl (lenOf own_pd__II_I rfl) rfl (Nat.le_refl _) (Jvm.hb hby at_185) (by decide) (by decide)
          have N1101 := Fr.app N1099 Nq1101
          have pre1102 := fun (τ : State) kt => pre1100 τ (st1101 τ kt)
          obtain ⟨_, T1103, L1103, X1103, ⟨rfl, Nq1103, eq1103⟩, st1103⟩ := own_stat (y := own_mn5) X1101 hx hZ hown (own_W34 hw) (own_W35 hw) (by decide) (rmE2 l Z a0 hw [] (FP.i2d jb) (own_max j0 (own_max j1 j2)) jb T1094.heap n0 (Nat.le_trans Z0 K1094.1) (own_ne100 (by (try simp only [own_max_int, own_m100]); omega)) (own_eq (by simp only [own_max_int, own_min_int, own_m100]; omega) _)) (own_W37 hw) (own_W36 hw) 0 (by decide) (by decide) eq1101 (mkF m 190 (own_LA3 p1 p2 p3 p4 p5 nn j0 j1 j2 jb q (.val (.int j0)) (.val (.int j1)) (.val (.int j2)) .unset .unset .unset) [(.int jb), (.int (own_max j0 (own_max j1 j2))), (.double (FP.i2d jb))]) rfl (by rw [hml]; rfl) [(.double (FP.i2d jb)), (.int (own_max j0 (own_max j1 j2))), (.int jb)] [] rfl (lenOf own_pd__DII_Z rfl) rfl (Nat.le_refl _) (Jvm.hb hby at_190) (by decide) (by decide)
          have N1103 := Fr.app N1101 Nq1103
          have pre1104 := fun (τ : State) kt => pre1102 τ (by
            refine XS.iload X1101.here hx rfl (Jvm.hb hby at_188) rfl ?_
            exact st1103 τ kt)
          obtain ⟨_, T1115, L1115, X1115, ⟨rfl, Nq1115, Kq1115, f1_1115, f2_1115, f3_1115, f4_1115, f5_1115, f6_1115⟩, st1115⟩ := own_virt (y := own_mn6) (b := q) X1103 hx hZ hown (own_W39 hw) (own_W40 hw) (own_W42 hw) (own_W41 hw) (by decide) (rmRem_02_x l Z a0 hw [] q (1 : Int32) A B kA kB (0 : Int32) (1 : Int32) (2 : Int32) (FP.i2d j0) (FP.i2d jb) (FP.i2d j2) T1094.heap n0 (Nat.le_trans Z0 K1094.1) f1096 f1_1094 f2_1094 f3_1094 f4_1094 f5_1094 f6_1094 naA naB nAB g_q gA gB (by decide)) (own_W43 hw) (own_W2 hw) 0 (by decide) (by decide) f1096 eq1103 (mkF m 198 (own_LA3 p1 p2 p3 p4 p5 nn j0 j1 j2 jb q (.val (.int j0)) (.val (.int j1)) (.val (.int j2)) (.val (.int (1 : Int32))) .unset .unset) [(.int (1 : Int32)), (.ref q)]) rfl (by rw [hml]; rfl) [(.int (1 : Int32))] [] rfl (lenOf own_pd__I_V rfl) rfl (Nat.le_refl _) (Jvm.hb hby at_198) (by decide) (by decide)
          have N1115 := Fr.app N1103 Nq1115
          have K1115 : Keep h0 T1115.heap [] := K1094.trans Kq1115 (allS (Or.inr sz_q) (allS (Or.inr sz_A) (allS (Or.inr sz_B) (all0))))
          have pre1116 := fun (τ : State) kt => pre1104 τ (by
            refine XS.istore X1103.here hx rfl (Jvm.hb hby at_193) rfl (l' := (own_LA3 p1 p2 p3 p4 p5 nn j0 j1 j2 jb q (.val (.int j0)) (.val (.int j1)) (.val (.int j2)) (.val (.int (1 : Int32))) .unset .unset)) rfl ?_
            refine XS.aload X1103.here hx rfl (Jvm.hb hby at_195) rfl rfl ?_
            refine XS.iconst X1103.here hx rfl (Jvm.hb hby at_197) ?_
            exact st1115 τ kt)
          have f1117 := f1096.keep Kq1115
          obtain ⟨_, T1118, L1118, X1118, ⟨rfl, Nq1118, eq1118⟩, st1118⟩ := own_virt (y := own_mn3) (b := q) X1115 hx hZ hown (own_W24 hw) (own_W25 hw) (own_W27 hw) (own_W26 hw) (by decide) (rmMax_02 l Z a0 hw [] q A B kA kB (0 : Int32) (1 : Int32) (2 : Int32) (FP.i2d j0) (FP.i2d jb) (FP.i2d j2) T1115.heap n0 (Nat.le_trans Z0 K1115.1) f1117 f1_1115 f2_1115 f3_1115 f4_1115 f5_1115 f6_1115 naA naB nAB g_q gA gB) (own_W28 hw) (own_W2 hw) 0 (by decide) (by decide) f1117 rfl (mkF m 203 (own_LA3 p1 p2 p3 p4 p5 nn j0 j1 j2 jb q (.val (.int j0)) (.val (.int j1)) (.val (.int j2)) (.val (.int (1 : Int32))) .unset .unset) [(.ref q)]) rfl (by rw [hml]; rfl) [] [] rfl (lenOf own_pd___D rfl) rfl (Nat.le_refl _) (Jvm.hb hby at_203) (by decide) (by decide)
          have N1118 := Fr.app N1115 Nq1118
          have pre1119 := fun (τ : State) kt => pre1116 τ (by
            refine XS.aload X1115.here hx rfl (Jvm.hb hby at_201) rfl rfl ?_
            exact st1118 τ kt)
          obtain ⟨_, T1120, L1120, X1120, ⟨rfl, Nq1120, eq1120⟩, st1120⟩ := own_stat (y := own_mn4) X1118 hx hZ hown (own_W30 hw) (own_W31 hw) (by decide) (rm_max l Z a0 hw [] j0 j1 T1115.heap n0 (Nat.le_trans Z0 K1115.1)) (own_W33 hw) (own_W32 hw) 2 (by decide) (by decide) eq1118 (mkF m 210 (own_LA3 p1 p2 p3 p4 p5 nn j0 j1 j2 jb q (.val (.int j0)) (.val (.int j1)) (.val (.int j2)) (.val (.int (1 : Int32))) .unset .unset) [(.int j1), (.int j0), (.double (FP.i2d jb))]) rfl (by rw [hml]; rfl) [(.int j0), (.int j1)] [(.double (FP.i2d jb))] rfl (lenOf own_pd__II_I rfl) rfl (Nat.le_refl _) (Jvm.hb hby at_210) (by decide) (by decide)
          have N1120 := Fr.app N1118 Nq1120
          have pre1121 := fun (τ : State) kt => pre1119 τ (by
            refine XS.iload X1118.here hx rfl (Jvm.hb hby at_206) rfl ?_
            refine XS.iload X1118.here hx rfl (Jvm.hb hby at_208) rfl ?_
            exact st1120 τ kt)
          obtain ⟨_, T1122, L1122, X1122, ⟨rfl, Nq1122, eq1122⟩, st1122⟩ := own_stat (y := own_mn5) X1120 hx hZ hown (own_W34 hw) (own_W35 hw) (by decide) (rmE2 l Z a0 hw [] (FP.i2d jb) (own_max j0 j1) jb T1115.heap n0 (Nat.le_trans Z0 K1115.1) (own_ne100 (by (try simp only [own_max_int, own_m100]); omega)) (own_eq (by simp only [own_max_int, own_min_int, own_m100]; omega) _)) (own_W37 hw) (own_W36 hw) 0 (by decide) (by decide) eq1120 (mkF m 215 (own_LA3 p1 p2 p3 p4 p5 nn j0 j1 j2 jb q (.val (.int j0)) (.val (.int j1)) (.val (.int j2)) (.val (.int (1 : Int32))) .unset .unset) [(.int jb), (.int (own_max j0 j1)), (.double (FP.i2d jb))]) rfl (by rw [hml]; rfl) [(.double (FP.i2d jb)), (.int (own_max j0 j1)), (.int jb)] [] rfl (lenOf own_pd__DII_Z rfl) rfl (Nat.le_refl _) (Jvm.hb hby at_215) (by decide) (by decide)
          have N1122 := Fr.app N1120 Nq1122
          have pre1123 := fun (τ : State) kt => pre1121 τ (by
            refine XS.iload X1120.here hx rfl (Jvm.hb hby at_213) rfl ?_
            exact st1122 τ kt)
          obtain ⟨_, T1124, L1124, X1124, ⟨rfl, Nq1124, Kq1124, f1_1124, f2_1124, f3_1124, f4_1124, f5_1124, f6_1124⟩, st1124⟩ := own_virt (y := own_mn6) (b := q) X1122 hx hZ hown (own_W39 hw) (own_W40 hw) (own_W42 hw) (own_W41 hw) (by decide) (rmRem_02_cx l Z a0 hw [] q (0 : Int32) A B kA kB (0 : Int32) (1 : Int32) (2 : Int32) (FP.i2d j0) (FP.i2d jb) (FP.i2d j2) T1115.heap n0 (Nat.le_trans Z0 K1115.1) f1117 f1_1115 f2_1115 f3_1115 f4_1115 f5_1115 f6_1115 naA naB nAB g_q gA gB (by decide) (by decide)) (own_W43 hw) (own_W2 hw) 0 (by decide) (by decide) f1117 eq1122 (mkF m 223 (own_LA3 p1 p2 p3 p4 p5 nn j0 j1 j2 jb q (.val (.int j0)) (.val (.int j1)) (.val (.int j2)) (.val (.int (1 : Int32))) (.val (.int (1 : Int32))) .unset) [(.int (0 : Int32)), (.ref q)]) rfl (by rw [hml]; rfl) [(.int (0 : Int32))] [] rfl (lenOf own_pd__I_V rfl) rfl (Nat.le_refl _) (Jvm.hb hby at_223) (by decide) (by decide)
          have N1124 := Fr.app N1122 Nq1124
          have K1124 : Keep h0 T1124.heap [] := K1115.trans Kq1124 (allS (Or.inr sz_q) (allS (Or.inr sz_A) (allS (Or.inr sz_B) (all0))))
          have pre1125 := fun (τ : State) kt => pre1123 τ (by
            refine XS.istore X1122.here hx rfl (Jvm.hb hby at_218) rfl (l' := (own_LA3 p1 p2 p3 p4 p5 nn j0 j1 j2 jb q (.val (.int j0)) (.val (.int j1)) (.val (.int j2)) (.val (.int (1 : Int32))) (.val (.int (1 : Int32))) .unset)) rfl ?_
            refine XS.aload X1122.here hx rfl (Jvm.hb hby at_220) rfl rfl ?_
            refine XS.iconst X1122.here hx rfl (Jvm.hb hby at_222) ?_
            exact st1124 τ kt)
          have f1126 := f1117.keep Kq1124
          obtain ⟨_, T1127, L1127, X1127, ⟨rfl, Nq1127, eq1127⟩, st1127⟩ := own_virt (y := own_mn3) (b := q) X1124 hx hZ hown (own_W24 hw) (own_W25 hw) (own_W27 hw) (own_W26 hw) (by decide) (rmMax_01 l Z a0 hw [] q A B kA kB (0 : Int32) (1 : Int32) (2 : Int32) (FP.i2d j0) (FP.i2d jb) (FP.i2d j2) T1124.heap n0 (Nat.le_trans Z0 K1124.1) f1126 f1_1124 f2_1124 f3_1124 f4_1124 f5_1124 f6_1124 naA naB nAB g_q gA gB) (own_W28 hw) (own_W2 hw) 0 (by decide) (by decide) f1126 rfl (mkF m 228 (own_LA3 p1 p2 p3 p4 p5 nn j0 j1 j2 jb q (.val (.int j0)) (.val (.int j1)) (.val (.int j2)) (.val (.int (1 : Int32))) (.val (.int (1 : Int32))) .unset) [(.ref q)]) rfl (by rw [hml]; rfl) [] [] rfl (lenOf own_pd___D rfl) rfl (Nat.le_refl _) (Jvm.hb hby at_228) (by decide) (by decide)
          have N1127 := Fr.app N1124 Nq1127
          have pre1128 := fun (τ : State) kt => pre1125 τ (by
            refine XS.aload X1124.here hx rfl (Jvm.hb hby at_226) rfl rfl ?_
            exact st1127 τ kt)
          obtain ⟨_, T1129, L1129, X1129, ⟨rfl, Nq1129, eq1129⟩, st1129⟩ := own_stat (y := own_mn5) X1127 hx hZ hown (own_W34 hw) (own_W35 hw) (by decide) (rmE2 l Z a0 hw [] (FP.i2d j0) j0 jb T1124.heap n0 (Nat.le_trans Z0 K1124.1) (own_ne100 (by (try simp only [own_max_int, own_m100]); omega)) (own_eq (by simp only [own_max_int, own_min_int, own_m100]; omega) _)) (own_W37 hw) (own_W36 hw) 0 (by decide) (by decide) eq1127 (mkF m 235 (own_LA3 p1 p2 p3 p4 p5 nn j0 j1 j2 jb q (.val (.int j0)) (.val (.int j1)) (.val (.int j2)) (.val (.int (1 : Int32))) (.val (.int (1 : Int32))) .unset) [(.int jb), (.int j0), (.double (FP.i2d j0))]) rfl (by rw [hml]; rfl) [(.double (FP.i2d j0)), (.int j0), (.int jb)] [] rfl (lenOf own_pd__DII_Z rfl) rfl (Nat.le_refl _) (Jvm.hb hby at_235) (by decide) (by decide)
          have N1129 := Fr.app N1127 Nq1129
          have pre1130 := fun (τ : State) kt => pre1128 τ (by
            refine XS.iload X1127.here hx rfl (Jvm.hb hby at_231) rfl ?_
            refine XS.iload X1127.here hx rfl (Jvm.hb hby at_233) rfl ?_
            exact st1129 τ kt)
          have pre1131 := fun (τ : State) kt => pre1130 τ (by
            refine XS.istore X1129.here hx rfl (Jvm.hb hby at_238) rfl (l' := (own_LA3 p1 p2 p3 p4 p5 nn j0 j1 j2 jb q (.val (.int j0)) (.val (.int j1)) (.val (.int j2)) (.val (.int (1 : Int32))) (.val (.int (1 : Int32))) (.val (.int (1 : Int32))))) rfl ?_
            refine XS.iload X1129.here hx rfl (Jvm.hb hby at_240) rfl ?_
            refine XS.ifNo X1129.here hx rfl (Jvm.hb hby at_242) rfl ((if0 _ _).trans (feq (by decide)).1) ?_
            refine XS.iload X1129.here hx rfl (Jvm.hb hby at_245) rfl ?_
            refine XS.ifNo X1129.here hx rfl (Jvm.hb hby at_247) rfl ((if0 _ _).trans (feq (by decide)).1) ?_
            refine XS.iload X1129.here hx rfl (Jvm.hb hby at_250) rfl ?_
            refine XS.ifNo X1129.here hx rfl (Jvm.hb hby at_252) rfl ((if0 _ _).trans (feq (by decide)).1) ?_
            refine XS.iconst X1129.here hx rfl (Jvm.hb hby at_255) ?_
            refine XS.goto X1129.here hx rfl (pc0 := 256) (pc' := 260) rfl (Jvm.hb hby at_256) (by decide) (by decide) ?_
            exact kt)
          obtain ⟨fs, hrL, hrun, hended, hW, hsame⟩ := X1129.leave (v := some (.int (1 : Int32))) (fun h => by rw [Bd.returns] at h; cases h)
          refine ⟨_, _, cast (congrFun hPS _) (pre1131 _ ?_), hrun, hended, _, _, rfl, ?_, ⟨_, rfl⟩, hW, hsame.mono (by decide) (by decide)⟩
          · show Steps p.tables e below (T1129.setTop (mkF m 260 (own_LA3 p1 p2 p3 p4 p5 nn j0 j1 j2 jb q (.val (.int j0)) (.val (.int j1)) (.val (.int j2)) (.val (.int (1 : Int32))) (.val (.int (1 : Int32))) (.val (.int (1 : Int32)))) [(.int (1 : Int32))])) _
            exact retN X1129 hx (t := .boolean) Bd.returns (by simp) (Jvm.hb hby at_260) hrL
          · show Q0 n0 _ T1129.heap _
            exact ⟨rfl, N1129⟩
        have f1169 := f844.keep Kq845
        obtain ⟨_, T1170, L1170, X1170, ⟨rfl, Nq1170, Kq1170, f1_1170, f2_1170, f3_1170, f4_1170, f5_1170, f6_1170⟩, st1170⟩ := own_virt (y := own_mn2) (b := q) X845 hx hZ hown (own_W19 hw) (own_W20 hw) (own_W22 hw) (own_W21 hw) (by decide) (rmCap_03_cxk l Z a0 hw [] q (FP.i2d jb) A B kA kB (0 : Int32) (1 : Int32) (2 : Int32) (FP.i2d j0) (FP.i2d j1) (FP.i2d j2) T845.heap n0 (Nat.le_trans Z0 K845.1) f1169 f1_845 f2_845 f3_845 f4_845 f5_845 f6_845 naA naB nAB g_q gA gB (fun z => qc848 ((own_lt _ _ _).mp z)) ((own_lt _ _ _).mpr qc1043) (fun z => qb1044 ((own_gt _ _ _).mp z))) (own_W23 hw) (own_W2 hw) 0 (by decide) (by decide) f1169 rfl (mkF m 126 (own_LA3 p1 p2 p3 p4 p5 nn j0 j1 j2 jb q .unset .unset .unset .unset .unset .unset) [(.double (FP.i2d jb)), (.ref q)]) rfl (by rw [hml]; rfl) [(.double (FP.i2d jb))] [] rfl (lenOf own_pd__D_V rfl) rfl (Nat.le_refl _) (Jvm.hb hby at_126) (by decide) (by decide)
        have N1170 := Fr.app N845 Nq1170
        have K1170 : Keep h0 T1170.heap [] := K845.trans Kq1170 (allS (Or.inr sz_q) (allS (Or.inr sz_A) (allS (Or.inr sz_B) (all0))))
        have pre1171 := fun (τ : State) kt => pre847 τ (st1170 τ kt)
        have f1172 := f1169.keep Kq1170
        obtain ⟨_, T1173, L1173, X1173, ⟨rfl, Nq1173, eq1173⟩, st1173⟩ := own_virt (y := own_mn3) (b := q) X1170 hx hZ hown (own_W24 hw) (own_W25 hw) (own_W27 hw) (own_W26 hw) (by decide) (rmMax_02 l Z a0 hw [] q A B kA kB (0 : Int32) (1 : Int32) (2 : Int32) (FP.i2d j0) (FP.i2d j1) (FP.i2d j2) T1170.heap n0 (Nat.le_trans Z0 K1170.1) f1172 f1_1170 f2_1170 f3_1170 f4_1170 f5_1170 f6_1170 naA naB nAB g_q gA gB) (own_W28 hw) (own_W2 hw) 0 (by decide) (by decide) f1172 rfl (mkF m 173 (own_LA3 p1 p2 p3 p4 p5 nn j0 j1 j2 jb q (.val (.int j0)) (.val (.int j1)) (.val (.int j2)) .unset .unset .unset) [(.ref q)]) rfl (by rw [hml]; rfl) [] [] rfl (lenOf own_pd___D rfl) rfl (Nat.le_refl _) (Jvm.hb hby at_173) (by decide) (by decide)
        have N1173 := Fr.app N1170 Nq1173
        have pre1174 := fun (τ : State) kt => pre1171 τ (by
          refine XS.iload X1170.here hx rfl (Jvm.hb hby at_129) rfl ?_
          refine XS.ifNo X1170.here hx rfl (Jvm.hb hby at_131) rfl ((if0 _ _).trans (feq (by decide)).1) ?_
          refine XS.iload X1170.here hx rfl (Jvm.hb hby at_134) rfl ?_
          refine XS.goto X1170.here hx rfl (pc0 := 136) (pc' := 141) rfl (Jvm.hb hby at_136) (by decide) (by decide) ?_
          refine XS.istore X1170.here hx rfl (Jvm.hb hby at_141) rfl (l' := (own_LA3 p1 p2 p3 p4 p5 nn j0 j1 j2 jb q (.val (.int j0)) .unset .unset .unset .unset .unset)) rfl ?_
          refine XS.iload X1170.here hx rfl (Jvm.hb hby at_143) rfl ?_
          refine XS.ifNo X1170.here hx rfl (Jvm.hb hby at_145) rfl ((if0 _ _).trans (feq (by decide)).1) ?_
          refine XS.iload X1170.here hx rfl (Jvm.hb hby at_148) rfl ?_
          refine XS.goto X1170.here hx rfl (pc0 := 150) (pc' := 155) rfl (Jvm.hb hby at_150) (by decide) (by decide) ?_
          refine XS.istore X1170.here hx rfl (Jvm.hb hby at_155) rfl (l' := (own_LA3 p1 p2 p3 p4 p5 nn j0 j1 j2 jb q (.val (.int j0)) (.val (.int j1)) .unset .unset .unset .unset)) rfl ?_
          refine XS.iload X1170.here hx rfl (Jvm.hb hby at_157) rfl ?_
          refine XS.ifNo X1170.here hx rfl (Jvm.hb hby at_159) rfl ((if0 _ _).trans (feq (by decide)).1) ?_
          refine XS.iload X1170.here hx rfl (Jvm.hb hby at_162) rfl ?_
          refine XS.goto X1170.here hx rfl (pc0 := 164) (pc' := 169) rfl (Jvm.hb hby at_164) (by decide) (by decide) ?_
          refine XS.istore X1170.here hx rfl (Jvm.hb hby at_169) rfl (l' := (own_LA3 p1 p2 p3 p4 p5 nn j0 j1 j2 jb q (.val (.int j0)) (.val (.int j1)) (.val (.int j2)) .unset .unset .unset)) rfl ?_
          refine XS.aload X1170.here hx rfl (Jvm.hb hby at_171) rfl rfl ?_
          exact st1173 τ kt)
        obtain ⟨_, T1175, L1175, X1175, ⟨rfl, Nq1175, eq1175⟩, st1175⟩ := own_stat (y := own_mn4) X1173 hx hZ hown (own_W30 hw) (own_W31 hw) (by decide) (rm_max l Z a0 hw [] j1 j2 T1170.heap n0 (Nat.le_trans Z0 K1170.1)) (own_W33 hw) (own_W32 hw) 3 (by decide) (by decide) eq1173 (mkF m 182 (own_LA3 p1 p2 p3 p4 p5 nn j0 j1 j2 jb q (.val (.int j0)) (.val (.int j1)) (.val (.int j2)) .unset .unset .unset) [(.int j2), (.int j1), (.int j0), (.double (FP.i2d j1))]) rfl (by rw [hml]; rfl) [(.int j1), (.int j2)] [(.int j0), (.double (FP.i2d j1))] rfl (lenOf own_pd__II_I rfl) rfl (Nat.le_refl _) (Jvm.hb hby at_182) (by decide) (by decide)
        have N1175 := Fr.app N1173 Nq1175
        have pre1176 := fun (τ : State) kt => pre1174 τ (by
          refine XS.iload X1173.here hx rfl (Jvm.hb hby at_176) rfl ?_
          refine XS.iload X1173.here hx rfl (Jvm.hb hby at_178) rfl ?_
          refine XS.iload X1173.here hx rfl (Jvm.hb hby at_180) rfl ?_
          exact st1175 τ kt)
        obtain ⟨_, T1177, L1177, X1177, ⟨rfl, Nq1177, eq1177⟩, st1177⟩ := own_stat (y := own_mn4) X1175 hx hZ hown (own_W30 hw) (own_W31 hw) (by decide) (rm_max l Z a0 hw [] j0 (own_max j1 j2) T1170.heap n0 (Nat.le_trans Z0 K1170.1)) (own_W33 hw) (own_W32 hw) 2 (by decide) (by decide) eq1175 (mkF m 185 (own_LA3 p1 p2 p3 p4 p5 nn j0 j1 j2 jb q (.val (.int j0)) (.val (.int j1)) (.val (.int j2)) .unset .unset .unset) [(.int (own_max j1 j2)), (.int j0), (.double (FP.i2d j1))]) rfl (by rw [hml]; rfl) [(.int j0), (.int (own_max j1 j2))] [(.double (FP.i2d j1))] rfl (lenOf own_pd__II_I rfl) rfl (Nat.le_refl _) (Jvm.hb hby at_185) (by decide) (by decide)
        have N1177 := Fr.app N1175 Nq1177
        have pre1178 := fun (τ : State) kt => pre1176 τ (st1177 τ kt)
        obtain ⟨_, T1179, L1179, X1179, ⟨rfl, Nq1179, eq1179⟩, st1179⟩ := own_stat (y := own_mn5) X1177 hx hZ hown (own_W34 hw) (own_W35 hw) (by decide) (rmE2 l Z a0 hw [] (FP.i2d j1) (own_max j0 (own_max j1 j2)) jb T1170.heap n0 (Nat.le_trans Z0 K1170.1) (own_ne100 (by (try simp only [own_max_int, own_m100]); omega)) (own_eq (by simp only [own_max_int, own_min_int, own_m100]; omega) _)) (own_W37 hw) (own_W36 hw) 0 (by decide) (by decide) eq1177 (mkF m 190 (own_LA3 p1 p2 p3 p4 p5 nn j0 j1 j2 jb q (.val (.int j0)) (.val (.int j1)) (.val (.int j2)) .unset .unset .unset) [(.int jb), (.int (own_max j0 (own_max j1 j2))), (.double (FP.i2d j1))]) rfl (by rw [hml]; rfl) [(.double (FP.i2d j1)), (.int (own_max j0 (own_max j1 j2))), (.int jb)] [] rfl (lenOf own_pd__DII_Z rfl) rfl (Nat.le_refl _) (Jvm.hb hby at_190) (by decide) (by decide)
        have N1179 := Fr.app N1177 Nq1179
        have pre1180 := fun (τ : State) kt => pre1178 τ (by
          refine XS.iload X1177.here hx rfl (Jvm.hb hby at_188) rfl ?_
          exact st1179 τ kt)
        obtain ⟨_, T1181, L1181, X1181, ⟨rfl, Nq1181, Kq1181, f1_1181, f2_1181, f3_1181, f4_1181, f5_1181, f6_1181⟩, st1181⟩ := own_virt (y := own_mn6) (b := q) X1179 hx hZ hown (own_W39 hw) (own_W40 hw) (own_W42 hw) (own_W41 hw) (by decide) (rmRem_02_x l Z a0 hw [] q (1 : Int32) A B kA kB (0 : Int32) (1 : Int32) (2 : Int32) (FP.i2d j0) (FP.i2d j1) (FP.i2d j2) T1170.heap n0 (Nat.le_trans Z0 K1170.1) f1172 f1_1170 f2_1170 f3_1170 f4_1170 f5_1170 f6_1170 naA naB nAB g_q gA gB (by decide)) (own_W43 hw) (own_W2 hw) 0 (by decide) (by decide) f1172 eq1179 (mkF m 198 (own_LA3 p1 p2 p3 p4 p5 nn j0 j1 j2 jb q (.val (.int j0)) (.val (.int j1)) (.val (.int j2)) (.val (.int (1 : Int32))) .unset .unset) [(.int (1 : Int32)), (.ref q)]) rfl (by rw [hml]; rfl) [(.int (1 : Int32))] [] rfl (lenOf own_pd__I_V rfl) rfl (Nat.le_refl _) (Jvm.hb hby at_198) (by decide) (by decide)
        have N1181 := Fr.app N1179 Nq1181
        have K1181 : Keep h0 T1181.heap [] := K1170.trans Kq1181 (allS (Or.inr sz_q) (allS (Or.inr sz_A) (allS (Or.inr sz_B) (all0))))
        have pre1182 := fun (τ : State) kt => pre1180 τ (by
          refine XS.istore X1179.here hx rfl (Jvm.hb hby at_193) rfl (l' := (own_LA3 p1 p2 p3 p4 p5 nn j0 j1 j2 jb q (.val (.int j0)) (.val (.int j1)) (.val (.int j2)) (.val (.int (1 : Int32))) .unset .unset)) rfl ?_
          refine XS.aload X1179.here hx rfl (Jvm.hb hby at_195) rfl rfl ?_
          refine XS.iconst X1179.here hx rfl (Jvm.hb hby at_197) ?_
          exact st1181 τ kt)
        have f1183 := f1172.keep Kq1181
        obtain ⟨_, T1184, L1184, X1184, ⟨rfl, Nq1184, eq1184⟩, st1184⟩ := own_virt (y := own_mn3) (b := q) X1181 hx hZ hown (own_W24 hw) (own_W25 hw) (own_W27 hw) (own_W26 hw) (by decide) (rmMax_02 l Z a0 hw [] q A B kA kB (0 : Int32) (1 : Int32) (2 : Int32) (FP.i2d j0) (FP.i2d j1) (FP.i2d j2) T1181.heap n0 (Nat.le_trans Z0 K1181.1) f1183 f1_1181 f2_1181 f3_1181 f4_1181 f5_1181 f6_1181 naA naB nAB g_q gA gB) (own_W28 hw) (own_W2 hw) 0 (by decide) (by decide) f1183 rfl (mkF m 203 (own_LA3 p1 p2 p3 p4 p5 nn j0 j1 j2 jb q (.val (.int j0)) (.val (.int j1)) (.val (.int j2)) (.val (.int (1 : Int32))) .unset .unset) [(.ref q)]) rfl (by rw [hml]; rfl) [] [] rfl (lenOf own_pd___D rfl) rfl (Nat.le_refl _) (Jvm.hb hby at_203) (by decide) (by decide)
        have N1184 := Fr.app N1181 Nq1184
        have pre1185 := fun (τ : State) kt => pre1182 τ (by
          refine XS.aload X1181.here hx rfl (Jvm.hb hby at_201) rfl rfl ?_
          exact st1184 τ kt)
        obtain ⟨_, T1186, L1186, X1186, ⟨rfl, Nq1186, eq1186⟩, st1186⟩ := own_stat (y := own_mn4) X1184 hx hZ hown (own_W30 hw) (own_W31 hw) (by decide) (rm_max l Z a0 hw [] j0 j1 T1181.heap n0 (Nat.le_trans Z0 K1181.1)) (own_W33 hw) (own_W32 hw) 2 (by decide) (by decide) eq1184 (mkF m 210 (own_LA3 p1 p2 p3 p4 p5 nn j0 j1 j2 jb q (.val (.int j0)) (.val (.int j1)) (.val (.int j2)) (.val (.int (1 : Int32))) .unset .unset) [(.int j1), (.int j0), (.double (FP.i2d j1))]) rfl (by rw [hml]; rfl) [(.int j0), (.int j1)] [(.double (FP.i2d j1))] rfl (lenOf own_pd__II_I rfl) rfl (Nat.le_refl _) (Jvm.hb hby at_210) (by decide) (by decide)
        have N1186 := Fr.app N1184 Nq1186
        have pre1187 := fun (τ : State) kt => pre1185 τ (by
          refine XS.iload X1184.here hx rfl (Jvm.hb hby at_206) rfl ?_
          refine XS.iload X1184.here hx rfl (Jvm.hb hby at_208) rfl ?_
          exact st1186 τ kt)
        obtain ⟨_, T1188, L1188, X1188, ⟨rfl, Nq1188, eq1188⟩, st1188⟩ := own_stat (y := own_mn5) X1186 hx hZ hown (own_W34 hw) (own_W35 hw) (by decide) (rmE2 l Z a0 hw [] (FP.i2d j1) (own_max j0 j1) jb T1181.heap n0 (Nat.le_trans Z0 K1181.1) (own_ne100 (by (try simp only [own_max_int, own_m100]); omega)) (own_eq (by simp only [own_max_int, own_min_int, own_m100]; omega) _)) (own_W37 hw) (own_W36 hw) 0 (by decide) (by decide) eq1186 (mkF m 215 (own_LA3 p1 p2 p3 p4 p5 nn j0 j1 j2 jb q (.val (.int j0)) (.val (.int j1)) (.val (.int j2)) (.val (.int (1 : Int32))) .unset .unset) [(.int jb), (.int (own_max j0 j1)), (.double (FP.i2d j1))]) rfl (by rw [hml]; rfl) [(.double (FP.i2d j1)), (.int (own_max j0 j1)), (.int jb)] [] rfl (lenOf own_pd__DII_Z rfl) rfl (Nat.le_refl _) (Jvm.hb hby at_215) (by decide) (by decide)
        have N1188 := Fr.app N1186 Nq1188
        have pre1189 := fun (τ : State) kt => pre1187 τ (by
          refine XS.iload X1186.here hx rfl (Jvm.hb hby at_213) rfl ?_
          exact st1188 τ kt)
        obtain ⟨_, T1190, L1190, X1190, ⟨rfl, Nq1190, Kq1190, f1_1190, f2_1190, f3_1190, f4_1190, f5_1190, f6_1190⟩, st1190⟩ := own_virt (y := own_mn6) (b := q) X1188 hx hZ hown (own_W39 hw) (own_W40 hw) (own_W42 hw) (own_W41 hw) (by decide) (rmRem_02_cx l Z a0 hw [] q (0 : Int32) A B kA kB (0 : Int32) (1 : Int32) (2 : Int32) (FP.i2d j0) (FP.i2d j1) (FP.i2d j2) T1181.heap n0 (Nat.le_trans Z0 K1181.1) f1183 f1_1181 f2_1181 f3_1181 f4_1181 f5_1181 f6_1181 naA naB nAB g_q gA gB (by decide) (by decide)) (own_W43 hw) (own_W2 hw) 0 (by decide) (by decide) f1183 eq1188 (mkF m 223 (own_LA3 p1 p2 p3 p4 p5 nn j0 j1 j2 jb q (.val (.int j0)) (.val (.int j1)) (.val (.int j2)) (.val (.int (1 : Int32))) (.val (.int (1 : Int32))) .unset) [(.int (0 : Int32)), (.ref q)]) rfl (by rw [hml]; rfl) [(.int (0 : Int32))] [] rfl (lenOf own_pd__I_V rfl) rfl (Nat.le_refl _) (Jvm.hb hby at_223) (by decide) (by decide)
        have N1190 := Fr.app N1188 Nq1190
        have K1190 : Keep h0 T1190.heap [] := K1181.trans Kq1190 (allS (Or.inr sz_q) (allS (Or.inr sz_A) (allS (Or.inr sz_B) (all0))))
        have pre1191 := fun (τ : State) kt => pre1189 τ (by
          refine XS.istore X1188.here hx rfl (Jvm.hb hby at_218) rfl (l' := (own_LA3 p1 p2 p3 p4 p5 nn j0 j1 j2 jb q (.val (.int j0)) (.val (.int j1)) (.val (.int j2)) (.val (.int (1 : Int32))) (.val (.int (1 : Int32))) .unset)) rfl ?_
          refine XS.aload X1188.here hx rfl (Jvm.hb hby at_220) rfl rfl ?_
          refine XS.iconst X1188.here hx rfl (Jvm.hb hby at_222) ?_
          exact st1190 τ kt)
        have f1192 := f1183.keep Kq1190
        obtain ⟨_, T1193, L1193, X1193, ⟨rfl, Nq1193, eq1193⟩, st1193⟩ := own_virt (y := own_mn3) (b := q) X1190 hx hZ hown (own_W24 hw) (own_W25 hw) (own_W27 hw) (own_W26 hw) (by decide) (rmMax_01 l Z a0 hw [] q A B kA kB (0 : Int32) (1 : Int32) (2 : Int32) (FP.i2d j0) (FP.i2d j1) (FP.i2d j2) T1190.heap n0 (Nat.le_trans Z0 K1190.1) f1192 f1_1190 f2_1190 f3_1190 f4_1190 f5_1190 f6_1190 naA naB nAB g_q gA gB) (own_W28 hw) (own_W2 hw) 0 (by decide) (by decide) f1192 rfl (mkF m 228 (own_LA3 p1 p2 p3 p4 p5 nn j0 j1 j2 jb q (.val (.int j0)) (.val (.int j1)) (.val (.int j2)) (.val (.int (1 : Int32))) (.val (.int (1 : Int32))) .unset) [(.ref q)]) rfl (by rw [hml]; rfl) [] [] rfl (lenOf own_pd___D rfl) rfl (Nat.le_refl _) (Jvm.hb hby at_228) (by decide) (by decide)
        have N1193 := Fr.app N1190 Nq1193
        have pre1194 := fun (τ : State) kt => pre1191 τ (by
          refine XS.aload X1190.here hx rfl (Jvm.hb hby at_226) rfl rfl ?_
          exact st1193 τ kt)
        obtain ⟨_, T1195, L1195, X1195, ⟨rfl, Nq1195, eq1195⟩, st1195⟩ := own_stat (y := own_mn5) X1193 hx hZ hown (own_W34 hw) (own_W35 hw) (by decide) (rmE2 l Z a0 hw [] (FP.i2d j0) j0 jb T1190.heap n0 (Nat.le_trans Z0 K1190.1) (own_ne100 (by (try simp only [own_max_int, own_m100]); omega)) (own_eq (by simp only [own_max_int, own_min_int, own_m100]; omega) _)) (own_W37 hw) (own_W36 hw) 0 (by decide) (by decide) eq1193 (mkF m 235 (own_LA3 p1 p2 p3 p4 p5 nn j0 j1 j2 jb q (.val (.int j0)) (.val (.int j1)) (.val (.int j2)) (.val (.int (1 : Int32))) (.val (.int (1 : Int32))) .unset) [(.int jb), (.int j0), (.double (FP.i2d j0))]) rfl (by rw [hml]; rfl) [(.double (FP.i2d j0)), (.int j0), (.int jb)] [] rfl (lenOf own_pd__DII_Z rfl) rfl (Nat.le_refl _) (Jvm.hb hby at_235) (by decide) (by decide)
        have N1195 := Fr.app N1193 Nq1195
        have pre1196 := fun (τ : State) kt => pre1194 τ (by
          refine XS.iload X1193.here hx rfl (Jvm.hb hby at_231) rfl ?_
          refine XS.iload X1193.here hx rfl (Jvm.hb hby at_233) rfl ?_
          exact st1195 τ kt)
        have pre1197 := fun (τ : State) kt => pre1196 τ (by
          refine XS.istore X1195.here hx rfl (Jvm.hb hby at_238) rfl (l' := (own_LA3 p1 p2 p3 p4 p5 nn j0 j1 j2 jb q (.val (.int j0)) (.val (.int j1)) (.val (.int j2)) (.val (.int (1 : Int32))) (.val (.int (1 : Int32))) (.val (.int (1 : Int32))))) rfl ?_
          refine XS.iload X1195.here hx rfl (Jvm.hb hby at_240) rfl ?_
          refine XS.ifNo X1195.here hx rfl (Jvm.hb hby at_242) rfl ((if0 _ _).trans (feq (by decide)).1) ?_
          refine XS.iload X1195.here hx rfl (Jvm.hb hby at_245) rfl ?_
          refine XS.ifNo X1195.here hx rfl (Jvm.hb hby at_247) rfl ((if0 _ _).trans (feq (by decide)).1) ?_
          refine XS.iload X1195.here hx rfl (Jvm.hb hby at_250) rfl ?_
          refine XS.ifNo X1195.here hx rfl (Jvm.hb hby at_252) rfl ((if0 _ _).trans (feq (by decide)).1) ?_
          refine XS.iconst X1195.here hx rfl (Jvm.hb hby at_255) ?_
          refine XS.goto X1195.here hx rfl (pc0 := 256) (pc' := 260) rfl (Jvm.hb hby at_256) (by decide) (by decide) ?_
          exact kt)
        obtain ⟨fs, hrL, hrun, hended, hW, hsame⟩ := X1195.leave (v := some (.int (1 : Int32))) (fun h => by rw [Bd.returns] at h; cases h)
        refine ⟨_, _, cast (congrFun hPS _) (pre1197 _ ?_), hrun, hended, _, _, rfl, ?_, ⟨_, rfl⟩, hW, hsame.mono (by decide) (by decide)⟩
        · show Steps p.tables e below (T1195.setTop (mkF m 260 (own_LA3 p1 p2 p3 p4 p5 nn j0 j1 j2 jb q (.val (.int j0)) (.val (.int j1)) (.val (.int j2)) (.val (.int (1 : Int32))) (.val (.int (1 : Int32))) (.val (.int (1 : Int32)))) [(.int (1 : Int32))])) _
          exact retN X1195 hx (t := .boolean) Bd.returns (by simp) (Jvm.hb hby at_260) hrL
        · show Q0 n0 _ T1195.heap _
          exact ⟨rfl, N1195⟩
      by_cases qb1198 : jb.toInt < j0.toInt
      · skip
        have f1261 := f844.keep Kq845
        obtain ⟨_, T1262, L1262, X1262, ⟨rfl, Nq1262, Kq1262, f1_1262, f2_1262, f3_1262, f4_1262, f5_1262, f6_1262⟩, st1262⟩ := own_virt (y := own_mn2) (b := q) X845 hx hZ hown (own_W19 hw) (own_W20 hw) (own_W22 hw) (own_W21 hw) (by decide) (rmCap_03_ccos l Z a0 hw [] q (FP.i2d jb) A B kA kB (0 : Int32) (1 : Int32) (2 : Int32) (FP.i2d j0) (FP.i2d j1) (FP.i2d j2) T845.heap n0 (Nat.le_trans Z0 K845.1) f1261 f1_845 f2_845 f3_845 f4_845 f5_845 f6_845 naA naB nAB g_q gA gB (fun z => qc848 ((own_lt _ _ _).mp z)) (fun z => qc1043 ((own_lt _ _ _).mp z)) ((own_gt _ _ _).mpr qb1198)) (own_W23 hw) (own_W2 hw) 0 (by decide) (by decide) f1261 rfl (mkF m 126 (own_LA3 p1 p2 p3 p4 p5 nn j0 j1 j2 jb q .unset .unset .unset .unset .unset .unset) [(.double (FP.i2d jb)), (.ref q)]) rfl (by rw [hml]; rfl) [(.double (FP.i2d jb))] [] rfl (lenOf own_pd__D_V rfl) rfl (Nat.le_refl _) (Jvm.hb hby at_126) (by decide) (by decide)
        have N1262 := Fr.app N845 Nq1262
        have K1262 : Keep h0 T1262.heap [] := K845.trans Kq1262 (allS (Or.inr sz_q) (allS (Or.inr sz_A) (allS (Or.inr sz_B) (all0))))
        have pre1263 := fun (τ : State) kt => pre847 τ (st1262 τ kt)
        have f1264 := f1261.keep Kq1262
        obtain ⟨_, T1265, L1265, X1265, ⟨rfl, Nq1265, eq1265⟩, st1265⟩ := own_virt (y := own_mn3) (b := q) X1262 hx hZ hown (own_W24 hw) (own_W25 hw) (own_W27 hw) (own_W26 hw) (by decide) (rmMax_01 l Z a0 hw [] q A B kA kB (0 : Int32) (1 : Int32) (2 : Int32) (FP.i2d jb) (FP.i2d j1) (FP.i2d j2) T1262.heap n0 (Nat.le_trans Z0 K1262.1) f1264 f1_1262 f2_1262 f3_1262 f4_1262 f5_1262 f6_1262 naA naB nAB g_q gA gB) (own_W28 hw) (own_W2 hw) 0 (by decide) (by decide) f1264 rfl (mkF m 173 (own_LA3 p1 p2 p3 p4 p5 nn j0 j1 j2 jb q (.val (.int j0)) (.val (.int j1)) (.val (.int j2)) .unset .unset .unset) [(.ref q)]) rfl (by rw [hml]; rfl) [] [] rfl (lenOf own_pd___D rfl) rfl (Nat.le_refl _) (Jvm.hb hby at_173) (by decide) (by decide)
        have N1265 := Fr.app N1262 Nq1265
        have pre1266 := fun (τ : State) kt => pre1263 τ (by
          refine XS.iload X1262.here hx rfl (Jvm.hb hby at_129) rfl ?_
          refine XS.ifNo X1262.here hx rfl (Jvm.hb hby at_131) rfl ((if0 _ _).trans (feq (by decide)).1) ?_
          refine XS.iload X1262.here hx rfl (Jvm.hb hby at_134) rfl ?_
          refine XS.goto X1262.here hx rfl (pc0 := 136) (pc' := 141) rfl (Jvm.hb hby at_136) (by decide) (by decide) ?_
          refine XS.istore X1262.here hx rfl (Jvm.hb hby at_141) rfl (l' := (own_LA3 p1 p2 p3 p4 p5 nn j0 j1 j2 jb q (.val (.int j0)) .unset .unset .unset .unset .unset)) rfl ?_
          refine XS.iload X1262.here hx rfl (Jvm.hb hby at_143) rfl ?_
          refine XS.ifNo X1262.here hx rfl (Jvm.hb hby at_145) rfl ((if0 _ _).trans (feq (by decide)).1) ?_
          refine XS.iload X1262.here hx rfl (Jvm.hb hby at_148) rfl ?_
          refine XS.goto X1262.here hx rfl (pc0 := 150) (pc' := 155) rfl (Jvm.hb hby at_150) (by decide) (by decide) ?_
          refine XS.istore X1262.here hx rfl (Jvm.hb hby at_155) rfl (l' := (own_LA3 p1 p2 p3 p4 p5 nn j0 j1 j2 jb q (.val (.int j0)) (.val (.int j1)) .unset .unset .unset .unset)) rfl ?_
          refine XS.iload X1262.here hx rfl (Jvm.hb hby at_157) rfl ?_
          refine XS.ifNo X1262.here hx rfl (Jvm.hb hby at_159) rfl ((if0 _ _).trans (feq (by decide)).1) ?_
          refine XS.iload X1262.here hx rfl (Jvm.hb hby at_162) rfl ?_
          refine XS.goto X1262.here hx rfl (pc0 := 164) (pc' := 169) rfl (Jvm.hb hby at_164) (by decide) (by decide) ?_
          refine XS.istore X1262.here hx rfl (Jvm.hb hby at_169) rfl (l' := (own_LA3 p1 p2 p3 p4 p5 nn j0 j1 j2 jb q (.val (.int j0)) (.val (.int j1)) (.val (.int j2)) .unset .unset .unset)) rfl ?_
          refine XS.aload X1262.here hx rfl (Jvm.hb hby at_171) rfl rfl ?_
          exact st1265 τ kt)
        obtain ⟨_, T1267, L1267, X1267, ⟨rfl, Nq1267, eq1267⟩, st1267⟩ := own_stat (y := own_mn4) X1265 hx hZ hown (own_W30 hw) (own_W31 hw) (by decide) (rm_max l Z a0 hw [] j1 j2 T1262.heap n0 (Nat.le_trans Z0 K1262.1)) (own_W33 hw) (own_W32 hw) 3 (by decide) (by decide) eq1265 (mkF m 182 (own_LA3 p1 p2 p3 p4 p5 nn j0 j1 j2 jb q (.val (.int j0)) (.val (.int j1)) (.val (.int j2)) .unset .unset .unset) [(.int j2), (.int j1), (.int j0), (.double (FP.i2d jb))]) rfl (by rw [hml]; rfl) [(.int j1), (.int j2)] [(.int j0), (.double (FP.i2d jb))] rfl (lenOf own_pd__II_I rfl) rfl (Nat.le_refl _) (Jvm.hb hby at_182) (by decide) (by decide)
        have N1267 := Fr.app N1265 Nq1267
        have pre1268 := fun (τ : State) kt => pre1266 τ (by
          refine XS.iload X1265.here hx rfl (Jvm.hb hby at_176) rfl ?_
          refine XS.iload X1265.here hx rfl (Jvm.hb hby at_178) rfl ?_
          refine XS.iload X1265.here hx rfl (Jvm.hb hby at_180) rfl ?_
          exact st1267 τ kt)
        obtain ⟨_, T1269, L1269, X1269, ⟨rfl, Nq1269, eq1269⟩, st1269⟩ := own_stat (y := own_mn4) X1267 hx hZ hown (own_W30 hw) (own_W31 hw) (by decide) (rm_max l Z a0 hw [] j0 (own_max j1 j2) T1262.heap n0 (Nat.le_trans Z0 K1262.1)) (own_W33 hw) (own_W32 hw) 2 (by decide) (by decide) eq1267 (mkF m 185 (own_LA3 p1 p2 p3 p4 p5 nn j0 j1 j2 jb q (.val (.int j0)) (.val (.int j1)) (.val (.int j2)) .unset .unset .unset) [(.int (own_max j1 j2)), (.int j0), (.double (FP.i2d jb))]) rfl (by rw [hml]; rfl) [(.int j0), (.int (own_max j1 j2))] [(.double (FP.i2d jb))] rfl (lenOf own_pd__II_I rfl) rfl (Nat.le_refl _) (Jvm.hb hby at_185) (by decide) (by decide)
        have N1269 := Fr.app N1267 Nq1269
        have pre1270 := fun (τ : State) kt => pre1268 τ (st1269 τ kt)
        obtain ⟨_, T1271, L1271, X1271, ⟨rfl, Nq1271, eq1271⟩, st1271⟩ := own_stat (y := own_mn5) X1269 hx hZ hown (own_W34 hw) (own_W35 hw) (by decide) (rmE2 l Z a0 hw [] (FP.i2d jb) (own_max j0 (own_max j1 j2)) jb T1262.heap n0 (Nat.le_trans Z0 K1262.1) (own_ne100 (by (try simp only [own_max_int, own_m100]); omega)) (own_eq (by simp only [own_max_int, own_min_int, own_m100]; omega) _)) (own_W37 hw) (own_W36 hw) 0 (by decide) (by decide) eq1269 (mkF m 190 (own_LA3 p1 p2 p3 p4 p5 nn j0 j1 j2 jb q (.val (.int j0)) (.val (.int j1)) (.val (.int j2)) .unset .unset .unset) [(.int jb), (.int (own_max j0 (own_max j1 j2))), (.double (FP.i2d jb))]) rfl (by rw [hml]; rfl) [(.double (FP.i2d jb)), (.int (own_max j0 (own_max j1 j2))), (.int jb)] [] rfl (lenOf own_pd__DII_Z rfl) rfl (Nat.le_refl _) (Jvm.hb hby at_190) (by decide) (by decide)
        have N1271 := Fr.app N1269 Nq1271
        have pre1272 := fun (τ : State) kt => pre1270 τ (by
          refine XS.iload X1269.here hx rfl (Jvm.hb hby at_188) rfl ?_
          exact st1271 τ kt)
        obtain ⟨_, T1283, L1283, X1283, ⟨rfl, Nq1283, Kq1283, f1_1283, f2_1283, f3_1283, f4_1283, f5_1283, f6_1283⟩, st1283⟩ := own_virt (y := own_mn6) (b := q) X1271 hx hZ hown (own_W39 hw) (own_W40 hw) (own_W42 hw) (own_W41 hw) (by decide) (rmRem_01_x l Z a0 hw [] q (1 : Int32) A B kA kB (0 : Int32) (1 : Int32) (2 : Int32) (FP.i2d jb) (FP.i2d j1) (FP.i2d j2) T1262.heap n0 (Nat.le_trans Z0 K1262.1) f1264 f1_1262 f2_1262 f3_1262 f4_1262 f5_1262 f6_1262 naA naB nAB g_q gA gB (by decide)) (own_W43 hw) (own_W2 hw) 0 (by decide) (by decide) f1264 eq1271 (mkF m 198 (own_LA3 p1 p2 p3 p4 p5 nn j0 j1 j2 jb q (.val (.int j0)) (.val (.int j1)) (.val (.int j2)) (.val (.int (1 : Int32))) .unset .unset) [(.int (1 : Int32)), (.ref q)]) rfl (by rw [hml]; rfl) [(.int (1 : Int32))] [] rfl (lenOf own_pd__I_V rfl) rfl (Nat.le_refl _) (Jvm.hb hby at_198) (by decide) (by decide)
        have N1283 := Fr.app N1271 Nq1283
        have K1283 : Keep h0 T1283.heap [] := K1262.trans Kq1283 (allS (Or.inr sz_q) (allS (Or.inr sz_A) (allS (Or.inr sz_B) (all0))))
        have pre1284 := fun (τ : State) kt => pre1272 τ (by
          refine XS.istore X1271.here hx rfl (Jvm.hb hby at_193) rfl (l' := (own_LA3 p1 p2 p3 p4 p5 nn j0 j1 j2 jb q (.val (.int j0)) (.val (.int j1)) (.val (.int j2)) (.val (.int (1 : Int32))) .unset .unset)) rfl ?_
          refine XS.aload X1271.here hx rfl (Jvm.hb hby at_195) rfl rfl ?_
          refine XS.iconst X1271.here hx rfl (Jvm.hb hby at_197) ?_
          exact st1283 τ kt)
        have f1285 := f1264.keep Kq1283
        obtain ⟨_, T1286, L1286, X1286, ⟨rfl, Nq1286, eq1286⟩, st1286⟩ := own_virt (y := own_mn3) (b := q) X1283 hx hZ hown (own_W24 hw) (own_W25 hw) (own_W27 hw) (own_W26 hw) (by decide) (rmMax_01 l Z a0 hw [] q A B kA kB (0 : Int32) (1 : Int32) (2 : Int32) (FP.i2d jb) (FP.i2d j1) (FP.i2d j2) T1283.heap n0 (Nat.le_trans Z0 K1283.1) f1285 f1_1283 f2_1283 f3_1283 f4_1283 f5_1283 f6_1283 naA naB nAB g_q gA gB) (own_W28 hw) (own_W2 hw) 0 (by decide) (by decide) f1285 rfl (mkF m 203 (own_LA3 p1 p2 p3 p4 p5 nn j0 j1 j2 jb q (.val (.int j0)) (.val (.int j1)) (.val (.int j2)) (.val (.int (1 : Int32))) .unset .unset) [(.ref q)]) rfl (by rw [hml]; rfl) [] [] rfl (lenOf own_pd___D rfl) rfl (Nat.le_refl _) (Jvm.hb hby at_203) (by decide) (by decide)
        have N1286 := Fr.app N1283 Nq1286
        have pre1287 := fun (τ : State) kt => pre1284 τ (by
          refine XS.aload X1283.here hx rfl (Jvm.hb hby at_201) rfl rfl ?_
          exact st1286 τ kt)
        obtain ⟨_, T1288, L1288, X1288, ⟨rfl, Nq1288, eq1288⟩, st1288⟩ := own_stat (y := own_mn4) X1286 hx hZ hown (own_W30 hw) (own_W31 hw) (by decide) (rm_max l Z a0 hw [] j0 j1 T1283.heap n0 (Nat.le_trans Z0 K1283.1)) (own_W33 hw) (own_W32 hw) 2 (by decide) (by decide) eq1286 (mkF m 210 (own_LA3 p1 p2 p3 p4 p5 nn j0 j1 j2 jb q (.val (.int j0)) (.val (.int j1)) (.val (.int j2)) (.val (.int (1 : Int32))) .unset .unset) [(.int j1), (.int j0), (.double (FP.i2d jb))]) rfl (by rw [hml]; rfl) [(.int j0), (.int j1)] [(.double (FP.i2d jb))] rfl (lenOf own_pd__II_I rfl) rfl (Nat.le_refl _) (Jvm.hb hby at_210) (by decide) (by decide)
        have N1288 := Fr.app N1286 Nq1288
        have pre1289 := fun (τ : State) kt => pre1287 τ (by
          refine XS.iload X1286.here hx rfl (Jvm.hb hby at_206) rfl ?_
          refine XS.iload X1286.here hx rfl (Jvm.hb hby at_208) rfl ?_
          exact st1288 τ kt)
        obtain ⟨_, T1290, L1290, X1290, ⟨rfl, Nq1290, eq1290⟩, st1290⟩ := own_stat (y := own_mn5) X1288 hx hZ hown (own_W34 hw) (own_W35 hw) (by decide) (rmE2 l Z a0 hw [] (FP.i2d jb) (own_max j0 j1) jb T1283.heap n0 (Nat.le_trans Z0 K1283.1) (own_ne100 (by (try simp only [own_max_int, own_m100]); omega)) (own_eq (by simp only [own_max_int, own_min_int, own_m100]; omega) _)) (own_W37 hw) (own_W36 hw) 0 (by decide) (by decide) eq1288 (mkF m 215 (own_LA3 p1 p2 p3 p4 p5 nn j0 j1 j2 jb q (.val (.int j0)) (.val (.int j1)) (.val (.int j2)) (.val (.int (1 : Int32))) .unset .unset) [(.int jb), (.int (own_max j0 j1)), (.double (FP.i2d jb))]) rfl (by rw [hml]; rfl) [(.double (FP.i2d jb)), (.int (own_max j0 j1)), (.int jb)] [] rfl (lenOf own_pd__DII_Z rfl) rfl (Nat.le_refl _) (Jvm.hb hby at_215) (by decide) (by decide)
        have N1290 := Fr.app N1288 Nq1290
        have pre1291 := fun (τ : State) kt => pre1289 τ (by
          refine XS.iload X1288.here hx rfl (Jvm.hb hby at_213) rfl ?_
          exact st1290 τ kt)
        obtain ⟨_, T1292, L1292, X1292, ⟨rfl, Nq1292, Kq1292, f1_1292, f2_1292, f3_1292, f4_1292, f5_1292, f6_1292⟩, st1292⟩ := own_virt (y := own_mn6) (b := q) X1290 hx hZ hown (own_W39 hw) (own_W40 hw) (own_W42 hw) (own_W41 hw) (by decide) (rmRem_01_x l Z a0 hw [] q (0 : Int32) A B kA kB (0 : Int32) (1 : Int32) (2 : Int32) (FP.i2d jb) (FP.i2d j1) (FP.i2d j2) T1283.heap n0 (Nat.le_trans Z0 K1283.1) f1285 f1_1283 f2_1283 f3_1283 f4_1283 f5_1283 f6_1283 naA naB nAB g_q gA gB (by decide)) (own_W43 hw) (own_W2 hw) 0 (by decide) (by decide) f1285 eq1290 (mkF m 223 (own_LA3 p1 p2 p3 p4 p5 nn j0 j1 j2 jb q (.val (.int j0)) (.val (.int j1)) (.val (.int j2)) (.val (.int (1 : Int32))) (.val (.int (1 : Int32))) .unset) [(.int (0 : Int32)), (.ref q)]) rfl (by rw [hml]; rfl) [(.int (0 : Int32))] [] rfl (lenOf own_pd__I_V rfl) rfl (Nat.le_refl _) (Jvm.hb hby at_223) (by decide) (by decide)
        have N1292 := Fr.app N1290 Nq1292
        have K1292 : Keep h0 T1292.heap [] := K1283.trans Kq1292 (allS (Or.inr sz_q) (allS (Or.inr sz_A) (allS (Or.inr sz_B) (all0))))
        have pre1293 := fun (τ : State) kt => pre1291 τ (by
          refine XS.istore X1290.here hx rfl (Jvm.hb hby at_218) rfl (l' := (own_LA3 p1 p2 p3 p4 p5 nn j0 j1 j2 jb q (.val (.int j0)) (.val (.int j1)) (.val (.int j2)) (.val (.int (1 : Int32))) (.val (.int (1 : Int32))) .unset)) rfl ?_
          refine XS.aload X1290.here hx rfl (Jvm.hb hby at_220) rfl rfl ?_
          refine XS.iconst X1290.here hx rfl (Jvm.hb hby at_222) ?_
          exact st1292 τ kt)
        have f1294 := f1285.keep Kq1292
        obtain ⟨_, T1295, L1295, X1295, ⟨rfl, Nq1295, eq1295⟩, st1295⟩ := own_virt (y := own_mn3) (b := q) X1292 hx hZ hown (own_W24 hw) (own_W25 hw) (own_W27 hw) (own_W26 hw) (by decide) (rmMax_01 l Z a0 hw [] q A B kA kB (0 : Int32) (1 : Int32) (2 : Int32) (FP.i2d jb) (FP.i2d j1) (FP.i2d j2) T1292.heap n0 (Nat.le_trans Z0 K1292.1) f1294 f1_1292 f2_1292 f3_1292 f4_1292 f5_1292 f6_1292 naA naB nAB g_q gA gB) (own_W28 hw) (own_W2 hw) 0 (by decide) (by decide) f1294 rfl (mkF m 228 (own_LA3 p1 p2 p3 p4 p5 nn j0 j1 j2 jb q (.val (.int j0)) (.val (.int j1)) (.val (.int j2)) (.val (.int (1 : Int32))) (.val (.int (1 : Int32))) .unset) [(.ref q)]) rfl (by rw [hml]; rfl) [] [] rfl (lenOf own_pd___D rfl) rfl (Nat.le_refl _) (Jvm.hb hby at_228) (by decide) (by decide)
        have N1295 := Fr.app N1292 Nq1295
        have pre1296 := fun (τ : State) kt => pre1293 τ (by
          refine XS.aload X1292.here hx rfl (Jvm.hb hby at_226) rfl rfl ?_
          exact st1295 τ kt)
        obtain ⟨_, T1297, L1297, X1297, ⟨rfl, Nq1297, eq1297⟩, st1297⟩ := own_stat (y := own_mn5) X1295 hx hZ hown (own_W34 hw) (own_W35 hw) (by decide) (rmE2 l Z a0 hw [] (FP.i2d jb) j0 jb T1292.heap n0 (Nat.le_trans Z0 K1292.1) (own_ne100 (by (try simp only [own_max_int, own_m100]); omega)) (own_eq (by simp only [own_max_int, own_min_int, own_m100]; omega) _)) (own_W37 hw) (own_W36 hw) 0 (by decide) (by decide) eq1295 (mkF m 235 (own_LA3 p1 p2 p3 p4 p5 nn j0 j1 j2 jb q (.val (.int j0)) (.val (.int j1)) (.val (.int j2)) (.val (.int (1 : Int32))) (.val (.int (1 : Int32))) .unset) [(.int jb), (.int j0), (.double (FP.i2d jb))]) rfl (by rw [hml]; rfl) [(.double (FP.i2d jb)), (.int j0), (.int jb)] [] rfl (lenOf own_pd__DII_Z rfl) rfl (Nat.le_refl _) (Jvm.hb hby at_235) (by decide) (by decide)
        have N1297 := Fr.app N1295 Nq1297
        have pre1298 := fun (τ : State) kt => pre1296 τ (by
          refine XS.iload X1295.here hx rfl (Jvm.hb hby at_231) rfl ?_
          refine XS.iload X1295.here hx rfl (Jvm.hb hby at_233) rfl ?_
          exact st1297 τ kt)
        have pre1299 := fun (τ : State) kt => pre1298 τ (by
          refine XS.istore X1297.here hx rfl (Jvm.hb hby at_238) rfl (l' := (own_LA3 p1 p2 p3 p4 p5 nn j0 j1 j2 jb q (.val (.int j0)) (.val (.int j1)) (.val (.int j2)) (.val (.int (1 : Int32))) (.val (.int (1 : Int32))) (.val (.int (1 : Int32))))) rfl ?_
          refine XS.iload X1297.here hx rfl (Jvm.hb hby at_240) rfl ?_
          refine XS.ifNo X1297.here hx rfl (Jvm.hb hby at_242) rfl ((if0 _ _).trans (feq (by decide)).1) ?_
          refine XS.iload X1297.here hx rfl (Jvm.hb hby at_245) rfl ?_
          refine XS.ifNo X1297.here hx rfl (Jvm.hb hby at_247) rfl ((if0 _ _).trans (feq (by decide)).1) ?_
          refine XS.iload X1297.here hx rfl (Jvm.hb hby at_250) rfl ?_
          refine XS.ifNo X1297.here hx rfl (Jvm.hb hby at_252) rfl ((if0 _ _).trans (feq (by decide)).1) ?_
          refine XS.iconst X1297.here hx rfl (Jvm.hb hby at_255) ?_
          refine XS.goto X1297.here hx rfl (pc0 := 256) (pc' := 260) rfl (Jvm.hb hby at_256) (by decide) (by decide) ?_
          exact kt)
        obtain ⟨fs, hrL, hrun, hended, hW, hsame⟩ := X1297.leave (v := some (.int (1 : Int32))) (fun h => by rw [Bd.returns] at h; cases h)
        refine ⟨_, _, cast (congrFun hPS _) (pre1299 _ ?_), hrun, hended, _, _, rfl, ?_, ⟨_, rfl⟩, hW, hsame.mono (by decide) (by decide)⟩
        · show Steps p.tables e below (T1297.setTop (mkF m 260 (own_LA3 p1 p2 p3 p4 p5 nn j0 j1 j2 jb q (.val (.int j0)) (.val (.int j1)) (.val (.int j2)) (.val (.int (1 : Int32))) (.val (.int (1 : Int32))) (.val (.int (1 : Int32)))) [(.int (1 : Int32))])) _
          exact retN X1297 hx (t := .boolean) Bd.returns (by simp) (Jvm.hb hby at_260) hrL
        · show Q0 n0 _ T1297.heap _
          exact ⟨rfl, N1297⟩
      have f1351 := f844.keep Kq845
      obtain ⟨_, T1352, L1352, X1352, ⟨rfl, Nq1352, Kq1352, f1_1352, f2_1352, f3_1352, f4_1352, f5_1352, f6_1352⟩, st1352⟩ := own_virt (y := own_mn2) (b := q) X845 hx hZ hown (own_W19 hw) (own_W20 hw) (own_W22 hw) (own_W21 hw) (by decide) (rmCap_03_ccok l Z a0 hw [] q (FP.i2d jb) A B kA kB (0 : Int32) (1 : Int32) (2 : Int32) (FP.i2d j0) (FP.i2d j1) (FP.i2d j2) T845.heap n0 (Nat.le_trans Z0 K845.1) f1351 f1_845 f2_845 f3_845 f4_845 f5_845 f6_845 naA naB nAB g_q gA gB (fun z => qc848 ((own_lt _ _ _).mp z)) (fun z => qc1043 ((own_lt _ _ _).mp z)) (fun z => qb1198 ((own_gt _ _ _).mp z))) (own_W23 hw) (own_W2 hw) 0 (by decide) (by decide) f1351 rfl (mkF m 126 (own_LA3 p1 p2 p3 p4 p5 nn j0 j1 j2 jb q .unset .unset .unset .unset .unset .unset) [(.double (FP.i2d jb)), (.ref q)]) rfl (by rw [hml]; rfl) [(.double (FP.i2d jb))] [] rfl (lenOf own_pd__D_V rfl) rfl (Nat.le_refl _) (Jvm.hb hby at_126) (by decide) (by decide)
      have N1352 := Fr.app N845 Nq1352
      have K1352 : Keep h0 T1352.heap [] := K845.trans Kq1352 (allS (Or.inr sz_q) (allS (Or.inr sz_A) (allS (Or.inr sz_B) (all0))))
      have pre1353 := fun (τ : State) kt => pre847 τ (st1352 τ kt)
      have f1354 := f1351.keep Kq1352
      obtain ⟨_, T1355, L1355, X1355, ⟨rfl, Nq1355, eq1355⟩, st1355⟩ := own_virt (y := own_mn3) (b := q) X1352 hx hZ hown (own_W24 hw) (own_W25 hw) (own_W27 hw) (own_W26 hw) (by decide) (rmMax_01 l Z a0 hw [] q A B kA kB (0 : Int32) (1 : Int32) (2 : Int32) (FP.i2d j0) (FP.i2d j1) (FP.i2d j2) T1352.heap n0 (Nat.le_trans Z0 K1352.1) f1354 f1_1352 f2_1352 f3_1352 f4_1352 f5_1352 f6_1352 naA naB nAB g_q gA gB) (own_W28 hw) (own_W2 hw) 0 (by decide) (by decide) f1354 rfl (mkF m 173 (own_LA3 p1 p2 p3 p4 p5 nn j0 j1 j2 jb q (.val (.int j0)) (.val (.int j1)) (.val (.int j2)) .unset .unset .unset) [(.ref q)]) rfl (by rw [hml]; rfl) [] [] rfl (lenOf own_pd___D rfl) rfl (Nat.le_refl _) (Jvm.hb hby at_173) (by decide) (by decide)
      have N1355 := Fr.app N1352 Nq1355
      have pre1356 := fun (τ : State) kt => pre1353 τ (by
        refine XS.iload X1352.here hx rfl (Jvm.hb hby at_129) rfl ?_
        refine XS.ifNo X1352.here hx rfl (Jvm.hb hby at_131) rfl ((if0 _ _).trans (feq (by decide)).1) ?_
        refine XS.iload X1352.here hx rfl (Jvm.hb hby at_134) rfl ?_
        refine XS.goto X1352.here hx rfl (pc0 := 136) (pc' := 141) rfl (Jvm.hb hby at_136) (by decide) (by decide) ?_
        refine XS.istore X1352.here hx rfl (Jvm.hb hby at_141) rfl (l' := (own_LA3 p1 p2 p3 p4 p5 nn j0 j1 j2 jb q (.val (.int j0)) .unset .unset .unset .unset .unset)) rfl ?_
        refine XS.iload X1352.here hx rfl (Jvm.hb hby at_143) rfl ?_
        refine XS.ifNo X1352.here hx rfl (Jvm.hb hby at_145) rfl ((if0 _ _).trans (feq (by decide)).1) ?_
        refine XS.iload X1352.here hx rfl (Jvm.hb hby at_148) rfl ?_
        refine XS.goto X1352.here hx rfl (pc0 := 150) (pc' := 155) rfl (Jvm.hb hby at_150) (by decide) (by decide) ?_
        refine XS.istore X1352.here hx rfl (Jvm.hb hby at_155) rfl (l' := (own_LA3 p1 p2 p3 p4 p5 nn j0 j1 j2 jb q (.val (.int j0)) (.val (.int j1)) .unset .unset .unset .unset)) rfl ?_
        refine XS.iload X1352.here hx rfl (Jvm.hb hby at_157) rfl ?_
        refine XS.ifNo X1352.here hx rfl (Jvm.hb hby at_159) rfl ((if0 _ _).trans (feq (by decide)).1) ?_
        refine XS.iload X1352.here hx rfl (Jvm.hb hby at_162) rfl ?_
        refine XS.goto X1352.here hx rfl (pc0 := 164) (pc' := 169) rfl (Jvm.hb hby at_164) (by decide) (by decide) ?_
        refine XS.istore X1352.here hx rfl (Jvm.hb hby at_169) rfl (l' := (own_LA3 p1 p2 p3 p4 p5 nn j0 j1 j2 jb q (.val (.int j0)) (.val (.int j1)) (.val (.int j2)) .unset .unset .unset)) rfl ?_
        refine XS.aload X1352.here hx rfl (Jvm.hb hby at_171) rfl rfl ?_
        exact st1355 τ kt)
      obtain ⟨_, T1357, L1357, X1357, ⟨rfl, Nq1357, eq1357⟩, st1357⟩ := own_stat (y := own_mn4) X1355 hx hZ hown (own_W30 hw) (own_W31 hw) (by decide) (rm_max l Z a0 hw [] j1 j2 T1352.heap n0 (Nat.le_trans Z0 K1352.1)) (own_W33 hw) (own_W32 hw) 3 (by decide) (by decide) eq1355 (mkF m 182 (own_LA3 p1 p2 p3 p4 p5 nn j0 j1 j2 jb q (.val (.int j0)) (.val (.int j1)) (.val (.int j2)) .unset .unset .unset) [(.int j2), (.int j1), (.int j0), (.double (FP.i2d j0))]) rfl (by rw [hml]; rfl) [(.int j1), (.int j2)] [(.int j0), (.double (FP.i2d j0))] rfl (lenOf own_pd__II_I rfl) rfl (Nat.le_refl _) (Jvm.hb hby at_182) (by decide) (by decide)
      have N1357 := Fr.app N1355 Nq1357
      have pre1358 := fun (τ : State) kt => pre1356 τ (by
        refine XS.iload X1355.here hx rfl (Jvm.hb hby at_176) rfl ?_
        refine XS.iload X1355.here hx rfl (Jvm.hb hby at_178) rfl ?_
        refine XS.iload X1355.here hx rfl (Jvm.hb hby at_180) rfl ?_
        exact st1357 τ kt)
      obtain ⟨_, T1359, L1359, X1359, ⟨rfl, Nq1359, eq1359⟩, st1359⟩ := own_stat (y := own_mn4) X1357 hx hZ hown (own_W30 hw) (own_W31 hw) (by decide) (rm_max l Z a0 hw [] j0 (own_max j1 j2) T1352.heap n0 (Nat.le_trans Z0 K1352.1)) (own_W33 hw) (own_W32 hw) 2 (by decide) (by decide) eq1357 (mkF m 185 (own_LA3 p1 p2 p3 p4 p5 nn j0 j1 j2 jb q (.val (.int j0)) (.val (.int j1)) (.val (.int j2)) .unset .unset .unset) [(.int (own_max j1 j2)), (.int j0), (.double (FP.i2d j0))]) rfl (by rw [hml]; rfl) [(.int j0), (.int (own_max j1 j2))] [(.double (FP.i2d j0))] rfl (lenOf own_pd__II_I rfl) rfl (Nat.le_refl _) (Jvm.hb hby at_185) (by decide) (by decide)
      have N1359 := Fr.app N1357 Nq1359
      have pre1360 := fun (τ : State) kt => pre1358 τ (st1359 τ kt)
      obtain ⟨_, T1361, L1361, X1361, ⟨rfl, Nq1361, eq1361⟩, st1361⟩ := own_stat (y := own_mn5) X1359 hx hZ hown (own_W34 hw) (own_W35 hw) (by decide) (rmE2 l Z a0 hw [] (FP.i2d j0) (own_max j0 (own_max j1 j2)) jb T1352.heap n0 (Nat.le_trans Z0 K1352.1) (own_ne100 (by (try simp only [own_max_int, own_m100]); omega)) (own_eq (by simp only [own_max_int, own_min_int, own_m100]; omega) _)) (own_W37 hw) (own_W36 hw) 0 (by decide) (by decide) eq1359 (mkF m 190 (own_LA3 p1 p2 p3 p4 p5 nn j0 j1 j2 jb q (.val (.int j0)) (.val (.int j1)) (.val (.int j2)) .unset .unset .unset) [(.int jb), (.int (own_max j0 (own_max j1 j2))), (.double (FP.i2d j0))]) rfl (by rw [hml]; rfl) [(.double (FP.i2d j0)), (.int (own_max j0 (own_max j1 j2))), (.int jb)] [] rfl (lenOf own_pd__DII_Z rfl) rfl (Nat.le_refl _) (Jvm.hb hby at_190) (by decide) (by decide)
      have N1361 := Fr.app N1359 Nq1361
      have pre1362 := fun (τ : State) kt => pre1360 τ (by
        refine XS.iload X1359.here hx rfl (Jvm.hb hby at_188) rfl ?_
        exact st1361 τ kt)
      obtain ⟨_, T1363, L1363, X1363, ⟨rfl, Nq1363, Kq1363, f1_1363, f2_1363, f3_1363, f4_1363, f5_1363, f6_1363⟩, st1363⟩ := own_virt (y := own_mn6) (b := q) X1361 hx hZ hown (own_W39 hw) (own_W40 hw) (own_W42 hw) (own_W41 hw) (by decide) (rmRem_01_x l Z a0 hw [] q (1 : Int32) A B kA kB (0 : Int32) (1 : Int32) (2 : Int32) (FP.i2d j0) (FP.i2d j1) (FP.i2d j2) T1352.heap n0 (Nat.le_trans Z0 K1352.1) f1354 f1_1352 f2_1352 f3_1352 f4_1352 f5_1352 f6_1352 naA naB nAB g_q gA gB (by decide)) (own_W43 hw) (own_W2 hw) 0 (by decide) (by decide) f1354 eq1361 (mkF m 198 (own_LA3 p1 p2 p3 p4 p5 nn j0 j1 j2 jb q (.val (.int j0)) (.val (.int j1)) (.val (.int j2)) (.val (.int (1 : Int32))) .unset .unset) [(.int (1 : Int32)), (.ref q)]) rfl (by rw [hml]; rfl) [(.int (1 : Int32))] [] rfl (lenOf own_pd__I_V rfl) rfl (Nat.le_refl _) (Jvm.hb hby at_198) (by decide) (by decide)
      have N1363 := Fr.app N1361 Nq1363
      have K1363 : Keep h0 T1363.heap [] := K1352.trans Kq1363 (allS (Or.inr sz_q) (allS (Or.inr sz_A) (allS (Or.inr sz_B) (all0))))
      have pre1364 := fun (τ : State) kt => pre1362 τ (by
        refine XS.istore X1361.here hx rfl (Jvm.hb hby at_193) rfl (l' := (own_LA3 p1 p2 p3 p4 p5 nn j0 j1 j2 jb q (.val (.int j0)) (.val (.int j1)) (.val (.int j2)) (.val (.int (1 : Int32))) .unset .unset)) rfl ?_
        refine XS.aload X1361.here hx rfl (Jvm.hb hby at_195) rfl rfl ?_
        refine XS.iconst X1361.here hx rfl (Jvm.hb hby at_197) ?_
        exact st1363 τ kt)
      have f1365 := f1354.keep Kq1363
      obtain ⟨_, T1366, L1366, X1366, ⟨rfl, Nq1366, eq1366⟩, st1366⟩ := own_virt (y := own_mn3) (b := q) X1363 hx hZ hown (own_W24 hw) (own_W25 hw) (own_W27 hw) (own_W26 hw) (by decide) (rmMax_01 l Z a0 hw [] q A B kA kB (0 : Int32) (1 : Int32) (2 : Int32) (FP.i2d j0) (FP.i2d j1) (FP.i2d j2) T1363.heap n0 (Nat.le_trans Z0 K1363.1) f1365 f1_1363 f2_1363 f3_1363 f4_1363 f5_1363 f6_1363 naA naB nAB g_q gA gB) (own_W28 hw) (own_W2 hw) 0 (by decide) (by decide) f1365 rfl (mkF m 203 (own_LA3 p1 p2 p3 p4 p5 nn j0 j1 j2 jb q (.val (.int j0)) (.val (.int j1)) (.val (.int j2)) (.val (.int (1 : Int32))) .unset .unset) [(.ref q)]) rfl (by rw [hml]; rfl) [] [] rfl (lenOf own_pd___D rfl) rfl (Nat.le_refl _) (Jvm.hb hby at_203) (by decide) (by decide)
      have N1366 := Fr.app N1363 Nq1366
      have pre1367 := fun (τ : State) kt => pre1364 τ (by
        refine XS.aload X1363.here hx rfl (Jvm.hb hby at_201) rfl rfl ?_
        exact st1366 τ kt)
      obtain ⟨_, T1368, L1368, X1368, ⟨rfl, Nq1368, eq1368⟩, st1368⟩ := own_stat (y := own_mn4) X1366 hx hZ hown (own_W30 hw) (own_W31 hw) (by decide) (rm_max l Z a0 hw [] j0 j1 T1363.heap n0 (Nat.le_trans Z0 K1363.1)) (own_W33 hw) (own_W32 hw) 2 (by decide) (by decide) eq1366 (mkF m 210 (own_LA3 p1 p2 p3 p4 p5 nn j0 j1 j2 jb q (.val (.int j0)) (.val (.int j1)) (.val (.int j2)) (.val (.int (1 : Int32))) .unset .unset) [(.int j1), (.int j0), (.double (FP.i2d j0))]) rfl (by rw [hml]; rfl) [(.int j0), (.int j1)] [(.double (FP.i2d j0))] rfl (lenOf own_pd__II_I rfl) rfl (Nat.le_refl _) (Jvm.hb hby at_210) (by decide) (by decide)
      have N1368 := Fr.app N1366 Nq1368
      have pre1369 := fun (τ : State) kt => pre1367 τ (by
        refine XS.iload X1366.here hx rfl (Jvm.hb hby at_206) rfl ?_
        refine XS.iload X1366.here hx rfl (Jvm.hb hby at_208) rfl ?_
        exact st1368 τ kt)
      obtain ⟨_, T1370, L1370, X1370, ⟨rfl, Nq1370, eq1370⟩, st1370⟩ := own_stat (y := own_mn5) X1368 hx hZ hown (own_W34 hw) (own_W35 hw) (by decide) (rmE2 l Z a0 hw [] (FP.i2d j0) (own_max j0 j1) jb T1363.heap n0 (Nat.le_trans Z0 K1363.1) (own_ne100 (by (try simp only [own_max_int, own_m100]); omega)) (own_eq (by simp only [own_max_int, own_min_int, own_m100]; omega) _)) (own_W37 hw) (own_W36 hw) 0 (by decide) (by decide) eq1368 (mkF m 215 (own_LA3 p1 p2 p3 p4 p5 nn j0 j1 j2 jb q (.val (.int j0)) (.val (.int j1)) (.val (.int j2)) (.val (.int (1 : Int32))) .unset .unset) [(.int jb), (.int (own_max j0 j1)), (.double (FP.i2d j0))]) rfl (by rw [hml]; rfl) [(.double (FP.i2d j0)), (.int (own_max j0 j1)), (.int jb)] [] rfl (lenOf own_pd__DII_Z rfl) rfl (Nat.le_refl _) (Jvm.hb hby at_215) (by decide) (by decide)
      have N1370 := Fr.app N1368 Nq1370
      have pre1371 := fun (τ : State) kt => pre1369 τ (by
        refine XS.iload X1368.here hx rfl (Jvm.hb hby at_213) rfl ?_
        exact st1370 τ kt)
      obtain ⟨_, T1372, L1372, X1372, ⟨rfl, Nq1372, Kq1372, f1_1372, f2_1372, f3_1372, f4_1372, f5_1372, f6_1372⟩, st1372⟩ := own_virt (y := own_mn6) (b := q) X1370 hx hZ hown (own_W39 hw) (own_W40 hw) (own_W42 hw) (own_W41 hw) (by decide) (rmRem_01_x l Z a0 hw [] q (0 : Int32) A B kA kB (0 : Int32) (1 : Int32) (2 : Int32) (FP.i2d j0) (FP.i2d j1) (FP.i2d j2) T1363.heap n0 (Nat.le_trans Z0 K1363.1) f1365 f1_1363 f2_1363 f3_1363 f4_1363 f5_1363 f6_1363 naA naB nAB g_q gA gB (by decide)) (own_W43 hw) (own_W2 hw) 0 (by decide) (by decide) f1365 eq1370 (mkF m 223 (own_LA3 p1 p2 p3 p4 p5 nn j0 j1 j2 jb q (.val (.int j0)) (.val (.int j1)) (.val (.int j2)) (.val (.int (1 : Int32))) (.val (.int (1 : Int32))) .unset) [(.int (0 : Int32)), (.ref q)]) rfl (by rw [hml]; rfl) [(.int (0 : Int32))] [] rfl (lenOf own_pd__I_V rfl) rfl (Nat.le_refl _) (Jvm.hb hby at_223) (by decide) (by decide)
      have N1372 := Fr.app N1370 Nq1372
      have K1372 : Keep h0 T1372.heap [] := K1363.trans Kq1372 (allS (Or.inr sz_q) (allS (Or.inr sz_A) (allS (Or.inr sz_B) (all0))))
      have pre1373 := fun (τ : State) kt => pre1371 τ (by
        refine XS.istore X1370.here hx rfl (Jvm.hb hby at_218) rfl (l' := (own_LA3 p1 p2 p3 p4 p5 nn j0 j1 j2 jb q (.val (.int j0)) (.val (.int j1)) (.val (.int j2)) (.val (.int (1 : Int32))) (.val (.int (1 : Int32))) .unset)) rfl ?_
        refine XS.aload X1370.here hx rfl (Jvm.hb hby at_220) rfl rfl ?_
        refine XS.iconst X1370.here hx rfl (Jvm.hb hby at_222) ?_
        exact st1372 τ kt)
      have f1374 := f1365.keep Kq1372
      obtain ⟨_, T1375, L1375, X1375, ⟨rfl, Nq1375, eq1375⟩, st1375⟩ := own_virt (y := own_mn3) (b := q) X1372 hx hZ hown (own_W24 hw) (own_W25 hw) (own_W27 hw) (own_W26 hw) (by decide) (rmMax_01 l Z a0 hw [] q A B kA kB (0 : Int32) (1 : Int32) (2 : Int32) (FP.i2d j0) (FP.i2d j1) (FP.i2d j2) T1372.heap n0 (Nat.le_trans Z0 K1372.1) f1374 f1_1372 f2_1372 f3_1372 f4_1372 f5_1372 f6_1372 naA naB nAB g_q gA gB) (own_W28 hw) (own_W2 hw) 0 (by decide) (by decide) f1374 rfl (mkF m 228 (own_LA3 p1 p2 p3 p4 p5 nn j0 j1 j2 jb q (.val (.int j0)) (.val (.int j1)) (.val (.int j2)) (.val (.int (1 : Int32))) (.val (.int (1 : Int32))) .unset) [(.ref q)]) rfl (by rw [hml]; rfl) [] [] rfl (lenOf own_pd___D rfl) rfl (Nat.le_refl _) (Jvm.hb hby at_228) (by decide) (by decide)
      have N1375 := Fr.app N1372 Nq1375
      have pre1376 := fun (τ : State) kt => pre1373 τ (by
        refine XS.aload X1372.here hx rfl (Jvm.hb hby at_226) rfl rfl ?_
        exact st1375 τ kt)
      obtain ⟨_, T1377, L1377, X1377, ⟨rfl, Nq1377, eq1377⟩, st1377⟩ := own_stat (y := own_mn5) X1375 hx hZ hown (own_W34 hw) (own_W35 hw) (by decide) (rmE2 l Z a0 hw [] (FP.i2d j0) j0 jb T1372.heap n0 (Nat.le_trans Z0 K1372.1) (own_ne100 (by (try simp only [own_max_int, own_m100]); omega)) (own_eq (by simp only [own_max_int, own_min_int, own_m100]; omega) _)) (own_W37 hw) (own_W36 hw) 0 (by decide) (by decide) eq1375 (mkF m 235 (own_LA3 p1 p2 p3 p4 p5 nn j0 j1 j2 jb q (.val (.int j0)) (.val (.int j1)) (.val (.int j2)) (.val (.int (1 : Int32))) (.val (.int (1 : Int32))) .unset) [(.int jb), (.int j0), (.double (FP.i2d j0))]) rfl (by rw [hml]; rfl) [(.double (FP.i2d j0)), (.int j0), (.int jb)] [] rfl (lenOf own_pd__DII_Z rfl) rfl (Nat.le_refl _) (Jvm.hb hby at_235) (by decide) (by decide)
      have N1377 := Fr.app N1375 Nq1377
      have pre1378 := fun (τ : State) kt => pre1376 τ (by
        refine XS.iload X1375.here hx rfl (Jvm.hb hby at_231) rfl ?_
        refine XS.iload X1375.here hx rfl (Jvm.hb hby at_233) rfl ?_
        exact st1377 τ kt)
      have pre1379 := fun (τ : State) kt => pre1378 τ (by
        refine XS.istore X1377.here hx rfl (Jvm.hb hby at_238) rfl (l' := (own_LA3 p1 p2 p3 p4 p5 nn j0 j1 j2 jb q (.val (.int j0)) (.val (.int j1)) (.val (.int j2)) (.val (.int (1 : Int32))) (.val (.int (1 : Int32))) (.val (.int (1 : Int32))))) rfl ?_
        refine XS.iload X1377.here hx rfl (Jvm.hb hby at_240) rfl ?_
        refine XS.ifNo X1377.here hx rfl (Jvm.hb hby at_242) rfl ((if0 _ _).trans (feq (by decide)).1) ?_
        refine XS.iload X1377.here hx rfl (Jvm.hb hby at_245) rfl ?_
        refine XS.ifNo X1377.here hx rfl (Jvm.hb hby at_247) rfl ((if0 _ _).trans (feq (by decide)).1) ?_
        refine XS.iload X1377.here hx rfl (Jvm.hb hby at_250) rfl ?_
        refine XS.ifNo X1377.here hx rfl (Jvm.hb hby at_252) rfl ((if0 _ _).trans (feq (by decide)).1) ?_
        refine XS.iconst X1377.here hx rfl (Jvm.hb hby at_255) ?_
        refine XS.goto X1377.here hx rfl (pc0 := 256) (pc' := 260) rfl (Jvm.hb hby at_256) (by decide) (by decide) ?_
        exact kt)
      obtain ⟨fs, hrL, hrun, hended, hW, hsame⟩ := X1377.leave (v := some (.int (1 : Int32))) (fun h => by rw [Bd.returns] at h; cases h)
      refine ⟨_, _, cast (congrFun hPS _) (pre1379 _ ?_), hrun, hended, _, _, rfl, ?_, ⟨_, rfl⟩, hW, hsame.mono (by decide) (by decide)⟩
      · show Steps p.tables e below (T1377.setTop (mkF m 260 (own_LA3 p1 p2 p3 p4 p5 nn j0 j1 j2 jb q (.val (.int j0)) (.val (.int j1)) (.val (.int j2)) (.val (.int (1 : Int32))) (.val (.int (1 : Int32))) (.val (.int (1 : Int32)))) [(.int (1 : Int32))])) _
        exact retN X1377 hx (t := .boolean) Bd.returns (by simp) (Jvm.hb hby at_260) hrL
      · show Q0 n0 _ T1377.heap _
        exact ⟨rfl, N1377⟩
    by_cases qa1380 : j0.toInt < j2.toInt
    · skip
      have f1442 := f797.keep Kq798
      obtain ⟨_, T1443, L1443, X1443, ⟨rfl, Nq1443, Kq1443, f1_1443, f2_1443, f3_1443, f4_1443, f5_1443, f6_1443⟩, st1443⟩ := own_virt (y := own_mn7) (b := q) X798 hx hZ hown (own_W44 hw) (own_W45 hw) (own_W47 hw) (own_W46 hw) (by decide) (rmAdd_13_cx l Z a0 hw [] q (0 : Int32) (FP.i2d j0) A B kA kB (0 : Int32) (1 : Int32) (2 : Int32) (0 : UInt64) (FP.i2d j1) (FP.i2d j2) T798.heap n0 (Nat.le_trans Z0 K798.1) f1442 f1_798 f2_798 f3_798 f4_798 f5_798 f6_798 naA naB nAB g_q gA gB (fun z => qa801 ((own_gt _ _ _).mp z)) ((own_gt _ _ _).mpr qa1380)) (own_W48 hw) (own_W2 hw) 0 (by decide) (by decide) f1442 rfl (mkF m 118 (own_LA3 p1 p2 p3 p4 p5 nn j0 j1 j2 jb q .unset .unset .unset .unset .unset .unset) [(.double (FP.i2d j0)), (.int (0 : Int32)), (.ref q)]) rfl (by rw [hml]; rfl) [(.int (0 : Int32)), (.double (FP.i2d j0))] [] rfl (lenOf own_pd__ID_V rfl) rfl (Nat.le_refl _) (Jvm.hb hby at_118) (by decide) (by decide)
      have N1443 := Fr.app N798 Nq1443
      have K1443 : Keep h0 T1443.heap [] := K798.trans Kq1443 (allS (Or.inr sz_q) (allS (Or.inr sz_A) (allS (Or.inr sz_B) (all0))))
      have pre1444 := fun (τ : State) kt => pre800 τ (st1443 τ kt)
      have pre1445 := fun (τ : State) kt => pre1444 τ (by
        refine XS.aload X1443.here hx rfl (Jvm.hb hby at_121) rfl rfl ?_
        refine XS.iload X1443.here hx rfl (Jvm.hb hby at_123) rfl ?_
        refine own_i2d X1443.here hx rfl (Jvm.hb hby at_125) rfl ?_
        exact kt)
      by_cases qc1446 : j0.toInt < jb.toInt
      · skip
        by_cases qb1447 : jb.toInt < j2.toInt
        · skip
          have f1448 := f1442.keep Kq1443
          obtain ⟨_, T1449, L1449, X1449, ⟨rfl, Nq1449, Kq1449, f1_1449, f2_1449, f3_1449, f4_1449, f5_1449, f6_1449⟩, st1449⟩ := own_virt (y := own_mn2) (b := q) X1443 hx hZ hown (own_W19 hw) (own_W20 hw) (own_W22 hw) (own_W21 hw) (by decide) (rmCap_13_xs l Z a0 hw [] q (FP.i2d jb) A B kA kB (0 : Int32) (0 : Int32) (2 : Int32) (0 : UInt64) (FP.i2d j0) (FP.i2d j2) T1443.heap n0 (Nat.le_trans Z0 K1443.1) f1448 f1_1443 f2_1443 f3_1443 f4_1443 f5_1443 f6_1443 naA naB nAB g_q gA gB ((own_lt _ _ _).mpr qc1446) ((own_gt _ _ _).mpr qb1447)) (own_W23 hw) (own_W2 hw) 0 (by decide) (by decide) f1448 rfl (mkF m 126 (own_LA3 p1 p2 p3 p4 p5 nn j0 j1 j2 jb q .unset .unset .unset .unset .unset .unset) [(.double (FP.i2d jb)), (.ref q)]) rfl (by rw [hml]; rfl) [(.double (FP.i2d jb))] [] rfl (lenOf own_pd__D_V rfl) rfl (Nat.le_refl _) (Jvm.hb hby at_126) (by decide) (by decide)
          have N1449 := Fr.app N1443 Nq1449
          have K1449 : Keep h0 T1449.heap [] := K1443.trans Kq1449 (allS (Or.inr sz_q) (allS (Or.inr sz_A) (allS (Or.inr sz_B) (all0))))
          have pre1450 := fun (τ : State) kt => pre1445 τ (st1449 τ kt)
          have f1451 := f1448.keep Kq1449
          obtain ⟨_, T1452, L1452, X1452, ⟨rfl, Nq1452, eq1452⟩, st1452⟩ := own_virt (y := own_mn3) (b := q) X1449 hx hZ hown (own_W24 hw) (own_W25 hw) (own_W27 hw) (own_W26 hw) (by decide) (rmMax_13 l Z a0 hw [] q A B kA kB (0 : Int32) (0 : Int32) (2 : Int32) (0 : UInt64) (FP.i2d j0) (FP.i2d jb) T1449.heap n0 (Nat.le_trans Z0 K1449.1) f1451 f1_1449 f2_1449 f3_1449 f4_1449 f5_1449 f6_1449 naA naB nAB g_q gA gB) (own_W28 hw) (own_W2 hw) 0 (by decide) (by decide) f1451 rfl (mkF m 173 (own_LA3 p1 p2 p3 p4 p5 nn j0 j1 j2 jb q (.val (.int j0)) (.val (.int j1)) (.val (.int j2)) .unset .unset .unset) [(.ref q)]) rfl (by rw [hml]; rfl) [] [] rfl (lenOf own_pd___D rfl) rfl (Nat.le_refl _) (Jvm.hb hby at_173) (by decide) (by decide)
          have N1452 := Fr.app N1449 Nq1452
          have pre1453 := fun (τ : State) kt => pre1450 τ (by
            refine XS.iload X1449.here hx rfl (Jvm.hb hby at_129) rfl ?_
            refine XS.ifNo X1449.here hx rfl (Jvm.hb hby at_131) rfl ((if0 _ _).trans (feq (by decide)).1) ?_
            refine XS.iload X1449.here hx rfl (Jvm.hb hby at_134) rfl ?_
            refine XS.goto X1449.here hx rfl (pc0 := 136) (pc' := 141) rfl (Jvm.hb hby at_136) (by decide) (by decide) ?_
            refine XS.istore X1449.here hx rfl (Jvm.hb hby at_141) rfl (l' := (own_LA3 p1 p2 p3 p4 p5 nn j0 j1 j2 jb q (.val (.int j0)) .unset .unset .unset .unset .unset)) rfl ?_
            refine XS.iload X1449.here hx rfl (Jvm.hb hby at_143) rfl ?_
            refine XS.ifNo X1449.here hx rfl (Jvm.hb hby at_145) rfl ((if0 _ _).trans (feq (by decide)).1) ?_
            refine XS.iload X1449.here hx rfl (Jvm.hb hby at_148) rfl ?_
            refine XS.goto X1449.here hx rfl (pc0 := 150) (pc' := 155) rfl (Jvm.hb hby at_150) (by decide) (by decide) ?_
            refine XS.istore X1449.here hx rfl (Jvm.hb hby at_155) rfl (l' := (own_LA3 p1 p2 p3 p4 p5 nn j0 j1 j2 jb q (.val (.int j0)) (.val (.int j1)) .unset .unset .unset .unset)) rfl ?_
            refine XS.iload X1449.here hx rfl (Jvm.hb hby at_157) rfl ?_
            refine XS.ifNo X1449.here hx rfl (Jvm.hb hby at_159) rfl ((if0 _ _).trans (feq (by decide)).1) ?_
            refine XS.iload X1449.here hx rfl (Jvm.hb hby at_162) rfl ?_
            refine XS.goto X1449.here hx rfl (pc0 := 164) (pc' := 169) rfl (Jvm.hb hby at_164) (by decide) (by decide) ?_
            refine XS.istore X1449.here hx rfl (Jvm.hb hby at_169) rfl (l' := (own_LA3 p1 p2 p3 p4 p5 nn j0 j1 j2 jb q (.val (.int j0)) (.val (.int j1)) (.val (.int j2)) .unset .unset .unset)) rfl ?_
            refine XS.aload X1449.here hx rfl (Jvm.hb hby at_171) rfl rfl ?_
            exact st1452 τ kt)
          obtain ⟨_, T1454, L1454, X1454, ⟨rfl, Nq1454, eq1454⟩, st1454⟩ := own_stat (y := own_mn4) X1452 hx hZ hown (own_W30 hw) (own_W31 hw) (by decide) (rm_max l Z a0 hw [] j1 j2 T1449.heap n0 (Nat.le_trans Z0 K1449.1)) (own_W33 hw) (own_W32 hw) 3 (by decide) (by decide) eq1452 (mkF m 182 (own_LA3 p1 p2 p3 p4 p5 nn j0 j1 j2 jb q (.val (.int j0)) (.val (.int j1)) (.val (.int j2)) .unset .unset .unset) [(.int j2), (.int j1), (.int j0), (.double (FP.i2d jb))]) rfl (by rw [hml]; rfl) [(.int j1), (.int j2)] [(.int j0), (.double (FP.i2d jb))] rfl (lenOf own_pd__II_I rfl) rfl (Nat.le_refl _) (Jvm.hb hby at_182) (by decide) (by decide)
          have N1454 := Fr.app N1452 Nq1454
          have pre1455 := fun (τ : State) kt => pre1453 τ (by
            refine XS.iload X1452.here hx rfl (Jvm.hb hby at_176) rfl ?_
            refine XS.iload X1452.here hx rfl (Jvm.hb hby at_178) rfl ?_
            refine XS.iload X1452.here hx rfl (Jvm.hb hby at_180) rfl ?_
            exact st1454 τ kt)
          obtain ⟨_, T1456, L1456, X1456, ⟨rfl, Nq1456, eq1456⟩, st1456⟩ := own_stat (y := own_mn4) X1454 hx hZ hown (own_W30 hw) (own_W31 hw) (by decide) (rm_max l Z a0 hw [] j0 (own_max j1 j2) T1449.heap n0 (Nat.le_trans Z0 K1449.1)) (own_W33 hw) (own_W32 hw) 2 (by decide) (by decide) eq1454 (mkF m 185 (own_LA3 p1 p2 p3 p4 p5 nn j0 j1 j2 jb q (.val (.int j0)) (.val (.int j1)) (.val (.int j2)) .unset .unset .unset) [(.int (own_max j1 j2)), (.int j0), (.double (FP.i2d jb))]) rfl (by rw [hml]; rfl) [(.int j0), (.int (own_max j1 j2))] [(.double (FP.i2d jb))] rfl (lenOf own_pd__II_I rfl) rfl (Nat.le_refl _) (Jvm.hb hby at_185) (by decide) (by decide)
          have N1456 := Fr.app N1454 Nq1456
          have pre1457 := fun (τ : State) kt => pre1455 τ (st1456 τ kt)
          obtain ⟨_, T1458, L1458, X1458, ⟨rfl, Nq1458, eq1458⟩, st1458⟩ := own_stat (y := own_mn5) X1456 hx hZ hown (own_W34 hw) (own_W35 hw) (by decide) (rmE2 l Z a0 hw [] (FP.i2d jb) (own_max j0 (own_max j1 j2)) jb T1449.heap n0 (Nat.le_trans Z0 K1449.1) (own_ne100 (by (try simp only [own_max_int, own_m100]); omega)) (own_eq (by simp only [own_max_int, own_min_int, own_m100]; omega) _)) (own_W37 hw) (own_W36 hw) 0 (by decide) (by decide) eq1456 (mkF m 190 (own_LA3 p1 p2 p3 p4 p5 nn j0 j1 j2 jb q (.val (.int j0)) (.val (.int j1)) (.val (.int j2)) .unset .unset .unset) [(.int jb), (.int (own_max j0 (own_max j1 j2))), (.double (FP.i2d jb))]) rfl (by rw [hml]; rfl) [(.double (FP.i2d jb)), (.int (own_max j0 (own_max j1 j2))), (.int jb)] [] rfl (lenOf own_pd__DII_Z rfl) rfl (Nat.le_refl _) (Jvm.hb hby at_190) (by decide) (by decide)
          have N1458 := Fr.app N1456 Nq1458
          have pre1459 := fun (τ : State) kt => pre1457 τ (by
            refine XS.iload X1456.here hx rfl (Jvm.hb hby at_188) rfl ?_
            exact st1458 τ kt)
          obtain ⟨_, T1460, L1460, X1460, ⟨rfl, Nq1460, Kq1460, f1_1460, f2_1460, f3_1460, f4_1460, f5_1460, f6_1460⟩, st1460⟩ := own_virt (y := own_mn6) (b := q) X1458 hx hZ hown (own_W39 hw) (own_W40 hw) (own_W42 hw) (own_W41 hw) (by decide) (rmRem_13_cx l Z a0 hw [] q (1 : Int32) A B kA kB (0 : Int32) (0 : Int32) (2 : Int32) (0 : UInt64) (FP.i2d j0) (FP.i2d jb) T1449.heap n0 (Nat.le_trans Z0 K1449.1) f1451 f1_1449 f2_1449 f3_1449 f4_1449 f5_1449 f6_1449 naA naB nAB g_q gA gB (by decide) (by decide)) (own_W43 hw) (own_W2 hw) 0 (by decide) (by decide) f1451 eq1458 (mkF m 198 (own_LA3 p1 p2 p3 p4 p5 nn j0 j1 j2 jb q (.val (.int j0)) (.val (.int j1)) (.val (.int j2)) (.val (.int (1 : Int32))) .unset .unset) [(.int (1 : Int32)), (.ref q)]) rfl (by rw [hml]; rfl) [(.int (1 : Int32))] [] rfl (lenOf own_pd__I_V rfl) rfl (Nat.le_refl _) (Jvm.hb hby at_198) (by decide) (by decide)
          have N1460 := Fr.app N1458 Nq1460
          have K1460 : Keep h0 T1460.heap [] := K1449.trans Kq1460 (allS (Or.inr sz_q) (allS (Or.inr sz_A) (allS (Or.inr sz_B) (all0))))
          have pre1461 := fun (τ : State) kt => pre1459 τ (by
            refine XS.istore X1458.here hx rfl (Jvm.hb hby at_193) rfl (l' := (own_LA3 p1 p2 p3 p4 p5 nn j0 j1 j2 jb q (.val (.int j0)) (.val (.int j1)) (.val (.int j2)) (.val (.int (1 : Int32))) .unset .unset)) rfl ?_
            refine XS.aload X1458.here hx rfl (Jvm.hb hby at_195) rfl rfl ?_
            refine XS.iconst X1458.here hx rfl (Jvm.hb hby at_197) ?_
            exact st1460 τ kt)
          have f1462 := f1451.keep Kq1460
          obtain ⟨_, T1463, L1463, X1463, ⟨rfl, Nq1463, eq1463⟩, st1463⟩ := own_virt (y := own_mn3) (b := q) X1460 hx hZ hown (own_W24 hw) (own_W25 hw) (own_W27 hw) (own_W26 hw) (by decide) (rmMax_12 l Z a0 hw [] q A B kA kB (0 : Int32) (0 : Int32) (2 : Int32) (0 : UInt64) (FP.i2d j0) (FP.i2d jb) T1460.heap n0 (Nat.le_trans Z0 K1460.1) f1462 f1_1460 f2_1460 f3_1460 f4_1460 f5_1460 f6_1460 naA naB nAB g_q gA gB) (own_W28 hw) (own_W2 hw) 0 (by decide) (by decide) f1462 rfl (mkF m 203 (own_LA3 p1 p2 p3 p4 p5 nn j0 j1 j2 jb q (.val (.int j0)) (.val (.int j1)) (.val (.int j2)) (.val (.int (1 : Int32))) .unset .unset) [(.ref q)]) rfl (by rw [hml]; rfl) [] [] rfl (lenOf own_pd___D rfl) rfl (Nat.le_refl _) (Jvm.hb hby at_203) (by decide) (by decide)
          have N1463 := Fr.app N1460 Nq1463
          have pre1464 := fun (τ : State) kt => pre1461 τ (by
            refine XS.aload X1460.here hx rfl (Jvm.hb hby at_201) rfl rfl ?_
            exact st1463 τ kt)
          obtain ⟨_, T1465, L1465, X1465, ⟨rfl, Nq1465, eq1465⟩, st1465⟩ := own_stat (y := own_mn4) X1463 hx hZ hown (own_W30 hw) (own_W31 hw) (by decide) (rm_max l Z a0 hw [] j0 j1 T1460.heap n0 (Nat.le_trans Z0 K1460.1)) (own_W33 hw) (own_W32 hw) 2 (by decide) (by decide) eq1463 (mkF m 210 (own_LA3 p1 p2 p3 p4 p5 nn j0 j1 j2 jb q (.val (.int j0)) (.val (.int j1)) (.val (.int j2)) (.val (.int (1 : Int32))) .unset .unset) [(.int j1), (.int j0), (.double (FP.i2d j0))]) rfl (by rw [hml]; rfl) [(.int j0), (.int j1)] [(.double (FP.i2d j0))] rfl (lenOf own_pd__II_I rfl) rfl (Nat.le_refl _) (Jvm.hb hby at_210) (by decide) (by decide)
          have N1465 := Fr.app N1463 Nq1465
          have pre1466 := fun (τ : State) kt => pre1464 τ (by
            refine XS.iload X1463.here hx rfl (Jvm.hb hby at_206) rfl ?_
            refine XS.iload X1463.here hx rfl (Jvm.hb hby at_208) rfl ?_
            exact st1465 τ kt)
          obtain ⟨_, T1467, L1467, X1467, ⟨rfl, Nq1467, eq1467⟩, st1467⟩ := own_stat (y := own_mn5) X1465 hx hZ hown (own_W34 hw) (own_W35 hw) (by decide) (rmE2 l Z a0 hw [] (FP.i2d j0) (own_max j0 j1) jb T1460.heap n0 (Nat.le_trans Z0 K1460.1) (own_ne100 (by (try simp only [own_max_int, own_m100]); omega)) (own_eq (by simp only [own_max_int, own_min_int, own_m100]; omega) _)) (own_W37 hw) (own_W36 hw) 0 (by decide) (by decide) eq1465 (mkF m 215 (own_LA3 p1 p2 p3 p4 p5 nn j0 j1 j2 jb q (.val (.int j0)) (.val (.int j1)) (.val (.int j2)) (.val (.int (1 : Int32))) .unset .unset) [(.int jb), (.int (own_max j0 j1)), (.double (FP.i2d j0))]) rfl (by rw [hml]; rfl) [(.double (FP.i2d j0)), (.int (own_max j0 j1)), (.int jb)] [] rfl (lenOf own_pd__DII_Z rfl) rfl (Nat.le_refl _) (Jvm.hb hby at_215) (by decide) (by decide)
          have N1467 := Fr.app N1465 Nq1467
          have pre1468 := fun (τ : State) kt => pre1466 τ (by
            refine XS.iload X1465.here hx rfl (Jvm.hb hby at_213) rfl ?_
            exact st1467 τ kt)
          obtain ⟨_, T1469, L1469, X1469, ⟨rfl, Nq1469, Kq1469, f1_1469, f2_1469, f3_1469, f4_1469, f5_1469, f6_1469⟩, st1469⟩ := own_virt (y := own_mn6) (b := q) X1467 hx hZ hown (own_W39 hw) (own_W40 hw) (own_W42 hw) (own_W41 hw) (by decide) (rmRem_12_x l Z a0 hw [] q (0 : Int32) A B kA kB (0 : Int32) (0 : Int32) (2 : Int32) (0 : UInt64) (FP.i2d j0) (FP.i2d jb) T1460.heap n0 (Nat.le_trans Z0 K1460.1) f1462 f1_1460 f2_1460 f3_1460 f4_1460 f5_1460 f6_1460 naA naB nAB g_q gA gB (by decide)) (own_W43 hw) (own_W2 hw) 0 (by decide) (by decide) f1462 eq1467 (mkF m 223 (own_LA3 p1 p2 p3 p4 p5 nn j0 j1 j2 jb q (.val (.int j0)) (.val (.int j1)) (.val (.int j2)) (.val (.int (1 : Int32))) (.val (.int (1 : Int32))) .unset) [(.int (0 : Int32)), (.ref q)]) rfl (by rw [hml]; rfl) [(.int (0 : Int32))] [] rfl (lenOf own_pd__I_V rfl) rfl (Nat.le_refl _) (Jvm.hb hby at_223) (by decide) (by decide)
          have N1469 := Fr.app N1467 Nq1469
          have K1469 : Keep h0 T1469.heap [] := K1460.trans Kq1469 (allS (Or.inr sz_q) (allS (Or.inr sz_A) (allS (Or.inr sz_B) (all0))))
          have pre1470 := fun (τ : State) kt => pre1468 τ (by
            refine XS.istore X1467.here hx rfl (Jvm.hb hby at_218) rfl (l' := (own_LA3 p1 p2 p3 p4 p5 nn j0 j1 j2 jb q (.val (.int j0)) (.val (.int j1)) (.val (.int j2)) (.val (.int (1 : Int32))) (.val (.int (1 : Int32))) .unset)) rfl ?_
            refine XS.aload X1467.here hx rfl (Jvm.hb hby at_220) rfl rfl ?_
            refine XS.iconst X1467.here hx rfl (Jvm.hb hby at_222) ?_
            exact st1469 τ kt)
          have f1471 := f1462.keep Kq1469
          obtain ⟨_, T1472, L1472, X1472, ⟨rfl, Nq1472, eq1472⟩, st1472⟩ := own_virt (y := own_mn3) (b := q) X1469 hx hZ hown (own_W24 hw) (own_W25 hw) (own_W27 hw) (own_W26 hw) (by decide) (rmMax_12 l Z a0 hw [] q A B kA kB (0 : Int32) (0 : Int32) (2 : Int32) (0 : UInt64) (FP.i2d j0) (FP.i2d jb) T1469.heap n0 (Nat.le_trans Z0 K1469.1) f1471 f1_1469 f2_1469 f3_1469 f4_1469 f5_1469 f6_1469 naA naB nAB g_q gA gB) (own_W28 hw) (own_W2 hw) 0 (by decide) (by decide) f1471 rfl (mkF m 228 (own_LA3 p1 p2 p3 p4 p5 nn j0 j1 j2 jb q (.val (.int j0)) (.val (.int j1)) (.val (.int j2)) (.val (.int (1 : Int32))) (.val (.int (1 : Int32))) .unset) [(.ref q)]) rfl (by rw [hml]; rfl) [] [] rfl (lenOf own_pd___D rfl) rfl (Nat.le_refl _) (Jvm.hb hby at_228) (by decide) (by decide)
          have N1472 := Fr.app N1469 Nq1472
          have pre1473 := fun (τ : State) kt => pre1470 τ (by
            refine XS.aload X1469.here hx rfl (Jvm.hb hby at_226) rfl rfl ?_
            exact st1472 τ kt)
          obtain ⟨_, T1474, L1474, X1474, ⟨rfl, Nq1474, eq1474⟩, st1474⟩ := own_stat (y := own_mn5) X1472 hx hZ hown (own_W34 hw) (own_W35 hw) (by decide) (rmE2 l Z a0 hw [] (FP.i2d j0) j0 jb T1469.heap n0 (Nat.le_trans Z0 K1469.1) (own_ne100 (by (try simp only [own_max_int, own_m100]); omega)) (own_eq (by simp only [own_max_int, own_min_int, own_m100]; omega) _)) (own_W37 hw) (own_W36 hw) 0 (by decide) (by decide) eq1472 (mkF m 235 (own_LA3 p1 p2 p3 p4 p5 nn j0 j1 j2 jb q (.val (.int j0)) (.val (.int j1)) (.val (.int j2)) (.val (.int (1 : Int32))) (.val (.int (1 : Int32))) .unset) [(.int jb), (.int j0), (.double (FP.i2d j0))]) rfl (by rw [hml]; rfl) [(.double (FP.i2d j0)), (.int j0), (.int jb)] [] rfl (lenOf own_pd__DII_Z rfl) rfl (Nat.le_refl _) (Jvm.hb hby at_235) (by decide) (by decide)
          have N1474 := Fr.app N1472 Nq1474
          have pre1475 := fun (τ : State) kt => pre1473 τ (by
            refine XS.iload X1472.here hx rfl (Jvm.hb hby at_231) rfl ?_
            refine XS.iload X1472.here hx rfl (Jvm.hb hby at_233) rfl ?_
            exact st1474 τ kt)
          have pre1476 := fun (τ : State) kt => pre1475 τ (by
            refine XS.istore X1474.here hx rfl (Jvm.hb hby at_238) rfl (l' := (own_LA3 p1 p2 p3 p4 p5 nn j0 j1 j2 jb q (.val (.int j0)) (.val (.int j1)) (.val (.int j2)) (.val (.int (1 : Int32))) (.val (.int (1 : Int32))) (.val (.int (1 : Int32))))) rfl ?_
            refine XS.iload X1474.here hx rfl (Jvm.hb hby at_240) rfl ?_
            refine XS.ifNo X1474.here hx rfl (Jvm.hb hby at_242) rfl ((if0 _ _).trans (feq (by decide)).1) ?_
            refine XS.iload X1474.here hx rfl (Jvm.hb hby at_245) rfl ?_
            refine XS.ifNo X1474.here hx rfl (Jvm.hb hby at_247) rfl ((if0 _ _).trans (feq (by decide)).1) ?_
            refine XS.iload X1474.here hx rfl (Jvm.hb hby at_250) rfl ?_
            refine XS.ifNo X1474.here hx rfl (Jvm.hb hby at_252) rfl ((if0 _ _).trans (feq (by decide)).1) ?_
            refine XS.iconst X1474.here hx rfl (Jvm.hb hby at_255) ?_
            refine XS.goto X1474.here hx rfl (pc0 := 256) (pc' := 260) rfl (Jvm.hb hby at_256) (by decide) (by decide) ?_
            exact kt)
          obtain ⟨fs, hrL, hrun, hended, hW, hsame⟩ := X1474.leave (v := some (.int (1 : Int32))) (fun h => by rw [Bd.returns] at h; cases h)
          refine ⟨_, _, cast (congrFun hPS _) (pre1476 _ ?_), hrun, hended, _, _, rfl, ?_, ⟨_, rfl⟩, hW, hsame.mono (by decide) (by decide)⟩
          · show Steps p.tables e below (T1474.setTop (mkF m 260 (own_LA3 p1 p2 p3 p4 p5 nn j0 j1 j2 jb q (.val (.int j0)) (.val (.int j1)) (.val (.int j2)) (.val (.int (1 : Int32))) (.val (.int (1 : Int32))) (.val (.int (1 : Int32)))) [(.int (1 : Int32))])) _
            exact retN X1474 hx (t := .boolean) Bd.returns (by simp) (Jvm.hb hby at_260) hrL
          · show Q0 n0 _ T1474.heap _
            exact ⟨rfl, N1474⟩
        have f1477 := f1442.keep Kq1443
        obtain ⟨_, T1478, L1478, X1478, ⟨rfl, Nq1478, Kq1478, f1_1478, f2_1478, f3_1478, f4_1478, f5_1478, f6_1478⟩, st1478⟩ := own_virt (y := own_mn2) (b := q) X1443 hx hZ hown (own_W19 hw) (own_W20 hw) (own_W22 hw) (own_W21 hw) (by decide) (rmCap_13_xk l Z a0 hw [] q (FP.i2d jb) A B kA kB (0 : Int32) (0 : Int32) (2 : Int32) (0 : UInt64) (FP.i2d j0) (FP.i2d j2) T1443.heap n0 (Nat.le_trans Z0 K1443.1) f1477 f1_1443 f2_1443 f3_1443 f4_1443 f5_1443 f6_1443 naA naB nAB g_q gA gB ((own_lt _ _ _).mpr qc1446) (fun z => qb1447 ((own_gt _ _ _).mp z))) (own_W23 hw) (own_W2 hw) 0 (by decide) (by decide) f1477 rfl (mkF m 126 (own_LA3 p1 p2 p3 p4 p5 nn j0 j1 j2 jb q .unset .unset .unset .unset .unset .unset) [(.double (FP.i2d jb)), (.ref q)]) rfl (by rw [hml]; rfl) [(.double (FP.i2d jb))] [] rfl (lenOf own_pd__D_V rfl) rfl (Nat.le_refl _) (Jvm.hb hby at_126) (by decide) (by decide)
        have N1478 := Fr.app N1443 Nq1478
        have K1478 : Keep h0 T1478.heap [] := K1443.trans Kq1478 (allS (Or.inr sz_q) (allS (Or.inr sz_A) (allS (Or.inr sz_B) (all0))))
        have pre1479 := fun (τ : State) kt => pre1445 τ (st1478 τ kt)
        have f1480 := f1477.keep Kq1478
        obtain ⟨_, T1481, L1481, X1481, ⟨rfl, Nq1481, eq1481⟩, st1481⟩ := own_virt (y := own_mn3) (b := q) X1478 hx hZ hown (own_W24 hw) (own_W25 hw) (own_W27 hw) (own_W26 hw) (by decide) (rmMax_13 l Z a0 hw [] q A B kA kB (0 : Int32) (0 : Int32) (2 : Int32) (0 : UInt64) (FP.i2d j0) (FP.i2d j2) T1478.heap n0 (Nat.le_trans Z0 K1478.1) f1480 f1_1478 f2_1478 f3_1478 f4_1478 f5_1478 f6_1478 naA naB nAB g_q gA gB) (own_W28 hw) (own_W2 hw) 0 (by decide) (by decide) f1480 rfl (mkF m 173 (own_LA3 p1 p2 p3 p4 p5 nn j0 j1 j2 jb q (.val (.int j0)) (.val (.int j1)) (.val (.int j2)) .unset .unset .unset) [(.ref q)]) rfl (by rw [hml]; rfl) [] [] rfl (lenOf own_pd___D rfl) rfl (Nat.le_refl _) (Jvm.hb hby at_173) (by decide) (by decide)
        have N1481 := Fr.app N1478 Nq1481
        have pre1482 := fun (τ : State) kt => pre1479 τ (by
          refine XS.iload X1478.here hx rfl (Jvm.hb hby at_129) rfl ?_
          refine XS.ifNo X1478.here hx rfl (Jvm.hb hby at_131) rfl ((if0 _ _).trans (feq (by decide)).1) ?_
          refine XS.iload X1478.here hx rfl (Jvm.hb hby at_134) rfl ?_
          refine XS.goto X1478.here hx rfl (pc0 := 136) (pc' := 141) rfl (Jvm.hb hby at_136) (by decide) (by decide) ?_
          refine XS.istore X1478.here hx rfl (Jvm.hb hby at_141) rfl (l' := (own_LA3 p1 p2 p3 p4 p5 nn j0 j1 j2 jb q (.val (.int j0)) .unset .unset .unset .unset .unset)) rfl ?_
          refine XS.iload X1478.here hx rfl (Jvm.hb hby at_143) rfl ?_
          refine XS.ifNo X1478.here hx rfl (Jvm.hb hby at_145) rfl ((if0 _ _).trans (feq (by decide)).1) ?_
          refine XS.iload X1478.here hx rfl (Jvm.hb hby at_148) rfl ?_
          refine XS.goto X1478.here hx rfl (pc0 := 150) (pc' := 155) rfl (Jvm.hb hby at_150) (by decide) (by decide) ?_
          refine XS.istore X1478.here hx rfl (Jvm.hb hby at_155) rfl (l' := (own_LA3 p1 p2 p3 p4 p5 nn j0 j1 j2 jb q (.val (.int j0)) (.val (.int j1)) .unset .unset .unset .unset)) rfl ?_
          refine XS.iload X1478.here hx rfl (Jvm.hb hby at_157) rfl ?_
          refine XS.ifNo X1478.here hx rfl (Jvm.hb hby at_159) rfl ((if0 _ _).trans (feq (by decide)).1) ?_
          refine XS.iload X1478.here hx rfl (Jvm.hb hby at_162) rfl ?_
          refine XS.goto X1478.here hx rfl (pc0 := 164) (pc' := 169) rfl (Jvm.hb hby at_164) (by decide) (by decide) ?_
          refine XS.istore X1478.here hx rfl (Jvm.hb hby at_169) rfl (l' := (own_LA3 p1 p2 p3 p4 p5 nn j0 j1 j2 jb q (.val (.int j0)) (.val (.int j1)) (.val (.int j2)) .unset .unset .unset)) rfl ?_
          refine XS.aload X1478.here hx rfl (Jvm.hb hby at_171) rfl rfl ?_
          exact st1481 τ kt)
        obtain ⟨_, T1483, L1483, X1483, ⟨rfl, Nq1483, eq1483⟩, st1483⟩ := own_stat (y := own_mn4) X1481 hx hZ hown (own_W30 hw) (own_W31 hw) (by decide) (rm_max l Z a0 hw [] j1 j2 T1478.heap n0 (Nat.le_trans Z0 K1478.1)) (own_W33 hw) (own_W32 hw) 3 (by decide) (by decide) eq1481 (mkF m 182 (own_LA3 p1 p2 p3 p4 p5 nn j0 j1 j2 jb q (.val (.int j0)) (.val (.int j1)) (.val (.int j2)) .unset .unset .unset) [(.int j2), (.int j1), (.int j0), (.double (FP.i2d j2))]) rfl (by rw [hml]; rfl) [(.int j1), (.int j2)] [(.int j0), (.double (FP.i2d j2))] rfl (lenOf own_pd__II_I rfl) rfl (Nat.le_refl _) (Jvm.hb hby at_182) (by decide) (by decide)
        have N1483 := Fr.app N1481 Nq1483
        have pre1484 := fun (τ : State) kt => pre1482 τ (by
          refine XS.iload X1481.here hx rfl (Jvm.hb hby at_176) rfl ?_
          refine XS.iload X1481.here hx rfl (Jvm.hb hby at_178) rfl ?_
          refine XS.iload X1481.here hx rfl (Jvm.hb hby at_180) rfl ?_
          exact st1483 τ kt)
        obtain ⟨_, T1485, L1485, X1485, ⟨rfl, Nq1485, eq1485⟩, st1485⟩ := own_stat (y := own_mn4) X1483 hx hZ hown (own_W30 hw) (own_W31 hw) (by decide) (rm_max l Z a0 hw [] j0 (own_max j1 j2) T1478.heap n0 (Nat.le_trans Z0 K1478.1)) (own_W33 hw) (own_W32 hw) 2 (by decide) (by decide) eq1483 (mkF m 185 (own_LA3 p1 p2 p3 p4 p5 nn j0 j1 j2 jb q (.val (.int j0)) (.val (.int j1)) (.val (.int j2)) .unset .unset .unset) [(.int (own_max j1 j2)), (.int j0), (.double (FP.i2d j2))]) rfl (by rw [hml]; rfl) [(.int j0), (.int (own_max j1 j2))] [(.double (FP.i2d j2))] rfl (lenOf own_pd__II_I rfl) rfl (Nat.le_refl _) (Jvm.hb hby at_185) (by decide) (by decide)
        have N1485 := Fr.app N1483 Nq1485
        have pre1486 := fun (τ : State) kt => pre1484 τ (st1485 τ kt)
        obtain ⟨_, T1487, L1487, X1487, ⟨rfl, Nq1487, eq1487⟩, st1487⟩ := own_stat (y := own_mn5) X1485 hx hZ hown (own_W34 hw) (own_W35 hw) (by decide) (rmE2 l Z a0 hw [] (FP.i2d j2) (own_max j0 (own_max j1 j2)) jb T1478.heap n0 (Nat.le_trans Z0 K1478.1) (own_ne100 (by (try simp only [own_max_int, own_m100]); omega)) (own_eq (by simp only [own_max_int, own_min_int, own_m100]; omega) _)) (own_W37 hw) (own_W36 hw) 0 (by decide) (by decide) eq1485 (mkF m 190 (own_LA3 p1 p2 p3 p4 p5 nn j0 j1 j2 jb q (.val (.int j0)) (.val (.int j1)) (.val (.int j2)) .unset .unset .unset) [(.int jb), (.int (own_max j0 (own_max j1 j2))), (.double (FP.i2d j2))]) rfl (by rw [hml]; rfl) [(.double (FP.i2d j2)), (.int (own_max j0 (own_max j1 j2))), (.int jb)] [] rfl (lenOf own_pd__DII_Z rfl) rfl (Nat.le_refl _) (Jvm.hb hby at_190) (by decide) (by decide)
        have N1487 := Fr.app N1485 Nq1487
        have pre1488 := fun (τ : State) kt => pre1486 τ (by
          refine XS.iload X1485.here hx rfl (Jvm.hb hby at_188) rfl ?_
          exact st1487 τ kt)
        obtain ⟨_, T1489, L1489, X1489, ⟨rfl, Nq1489, Kq1489, f1_1489, f2_1489, f3_1489, f4_1489, f5_1489, f6_1489⟩, st1489⟩ := own_virt (y := own_mn6) (b := q) X1487 hx hZ hown (own_W39 hw) (own_W40 hw) (own_W42 hw) (own_W41 hw) (by decide) (rmRem_13_cx l Z a0 hw [] q (1 : Int32) A B kA kB (0 : Int32) (0 : Int32) (2 : Int32) (0 : UInt64) (FP.i2d j0) (FP.i2d j2) T1478.heap n0 (Nat.le_trans Z0 K1478.1) f1480 f1_1478 f2_1478 f3_1478 f4_1478 f5_1478 f6_1478 naA naB nAB g_q gA gB (by decide) (by decide)) (own_W43 hw) (own_W2 hw) 0 (by decide) (by decide) f1480 eq1487 (mkF m 198 (own_LA3 p1 p2 p3 p4 p5 nn j0 j1 j2 jb q (.val (.int j0)) (.val (.int j1)) (.val (.int j2)) (.val (.int (1 : Int32))) .unset .unset) [(.int (1 : Int32)), (.ref q)]) rfl (by rw [hml]; rfl) [(.int (1 : Int32))] [] rfl (lenOf own_pd__I_V rfl) rfl (Nat.le_refl _) (Jvm.hb hby at_198) (by decide) (by decide)
        have N1489 := Fr.app N1487 Nq1489
        have K1489 : Keep h0 T1489.heap [] := K1478.trans Kq1489 (allS (Or.inr sz_q) (allS (Or.inr sz_A) (allS (Or.inr sz_B) (all0))))
        have pre1490 := fun (τ : State) kt => pre1488 τ (by
          refine XS.istore X1487.here hx rfl (Jvm.hb hby at_193) rfl (l' := (own_LA3 p1 p2 p3 p4 p5 nn j0 j1 j2 jb q (.val (.int j0)) (.val (.int j1)) (.val (.int j2)) (.val (.int (1 : Int32))) .unset .unset)) rfl ?_
          refine XS.aload X1487.here hx rfl (Jvm.hb hby at_195) rfl rfl ?_
          refine XS.iconst X1487.here hx rfl (Jvm.hb hby at_197) ?_
          exact st1489 τ kt)
        have f1491 := f1480.keep Kq1489
        obtain ⟨_, T1492, L1492, X1492, ⟨rfl, Nq1492, eq1492⟩, st1492⟩ := own_virt (y := own_mn3) (b := q) X1489 hx hZ hown (own_W24 hw) (own_W25 hw) (own_W27 hw) (own_W26 hw) (by decide) (rmMax_12 l Z a0 hw [] q A B kA kB (0 : Int32) (0 : Int32) (2 : Int32) (0 : UInt64) (FP.i2d j0) (FP.i2d j2) T1489.heap n0 (Nat.le_trans Z0 K1489.1) f1491 f1_1489 f2_1489 f3_1489 f4_1489 f5_1489 f6_1489 naA naB nAB g_q gA gB) (own_W28 hw) (own_W2 hw) 0 (by decide) (by decide) f1491 rfl (mkF m 203 (own_LA3 p1 p2 p3 p4 p5 nn j0 j1 j2 jb q (.val (.int j0)) (.val (.int j1)) (.val (.int j2)) (.val (.int (1 : Int32))) .unset .unset) [(.ref q)]) rfl (by rw [hml]; rfl) [] [] rfl (lenOf own_pd___D rfl) rfl (Nat.le_refl _) (Jvm.hb hby at_203) (by decide) (by decide)
        have N1492 := Fr.app N1489 Nq1492
        have pre1493 := fun (τ : State) kt => pre1490 τ (by
          refine XS.aload X1489.here hx rfl (Jvm.hb hby at_201) rfl rfl ?_
          exact st1492 τ kt)
        obtain ⟨_, T1494, L1494, X1494, ⟨rfl, Nq1494, eq1494⟩, st1494⟩ := own_stat (y := own_mn4) X1492 hx hZ hown (own_W30 hw) (own_W31 hw) (by decide) (rm_max l Z a0 hw [] j0 j1 T1489.heap n0 (Nat.le_trans Z0 K1489.1)) (own_W33 hw) (own_W32 hw) 2 (by decide) (by decide) eq1492 (mkF m 210 (own_LA3 p1 p2 p3 p4 p5 nn j0 j1 j2 jb q (.val (.int j0)) (.val (.int j1)) (.val (.int j2)) (.val (.int (1 : Int32))) .unset .unset) [(.int j1), (.int j0), (.double (FP.i2d j0))]) rfl (by rw [hml]; rfl) [(.int j0), (.int j1)] [(.double (FP.i2d j0))] rfl (lenOf own_pd__II_I rfl) rfl (Nat.le_refl _) (Jvm.hb hby at_210) (by decide) (by decide)
        have N1494 := Fr.app N1492 Nq1494
        have pre1495 := fun (τ : State) kt => pre1493 τ (by
          refine XS.iload X1492.here hx rfl (Jvm.hb hby at_206) rfl ?_
          refine XS.iload X1492.here hx rfl (Jvm.hb hby at_208) rfl ?_
          exact st1494 τ kt)
        obtain ⟨_, T1496, L1496, X1496, ⟨rfl, Nq1496, eq1496⟩, st1496⟩ := own_stat (y := own_mn5) X1494 hx hZ hown (own_W34 hw) (own_W35 hw) (by decide) (rmE2 l Z a0 hw [] (FP.i2d j0) (own_max j0 j1) jb T1489.heap n0 (Nat.le_trans Z0 K1489.1) (own_ne100 (by (try simp only [own_max_int, own_m100]); omega)) (own_eq (by simp only [own_max_int, own_min_int, own_m100]; omega) _)) (own_W37 hw) (own_W36 hw) 0 (by decide) (by decide) eq1494 (mkF m 215 (own_LA3 p1 p2 p3 p4 p5 nn j0 j1 j2 jb q (.val (.int j0)) (.val (.int j1)) (.val (.int j2)) (.val (.int (1 : Int32))) .unset .unset) [(.int jb), (.int (own_max j0 j1)), (.double (FP.i2d j0))]) rfl (by rw [hml]; rfl) [(.double (FP.i2d j0)), (.int (own_max j0 j1)), (.int jb)] [] rfl (lenOf own_pd__DII_Z rfl) rfl (Nat.le_refl _) (Jvm.hb hby at_215) (by decide) (by decide)
        have N1496 := Fr.app N1494 Nq1496
        have pre1497 := fun (τ : State) kt => pre1495 τ (by
          refine XS.iload X1494.here hx rfl (Jvm.hb hby at_213) rfl ?_
          exact st1496 τ kt)
        obtain ⟨_, T1498, L1498, X1498, ⟨rfl, Nq1498, Kq1498, f1_1498, f2_1498, f3_1498, f4_1498, f5_1498, f6_1498⟩, st1498⟩ := own_virt (y := own_mn6) (b := q) X1496 hx hZ hown (own_W39 hw) (own_W40 hw) (own_W42 hw) (own_W41 hw) (by decide) (rmRem_12_x l Z a0 hw [] q (0 : Int32) A B kA kB (0 : Int32) (0 : Int32) (2 : Int32) (0 : UInt64) (FP.i2d j0) (FP.i2d j2) T1489.heap n0 (Nat.le_trans Z0 K1489.1) f1491 f1_1489 f2_1489 f3_1489 f4_1489 f5_1489 f6_1489 naA naB nAB g_q gA gB (by decide)) (own_W43 hw) (own_W2 hw) 0 (by decide) (by decide) f1491 eq1496 (mkF m 223 (own_LA3 p1 p2 p3 p4 p5 nn j0 j1 j2 jb q (.val (.int j0)) (.val (.int j1)) (.val (.int j2)) (.val (.int (1 : Int32))) (.val (.int (1 : Int32))) .unset) [(.int (0 : Int32)), (.ref q)]) rfl (by rw [hml]; rfl) [(.int (0 : Int32))] [] rfl (lenOf own_pd__I_V rfl) rfl (Nat.le_refl _) (Jvm.hb hby at_223) (by decide) (by decide)
        have N1498 := Fr.app N1496 Nq1498
        have K1498 : Keep h0 T1498.heap [] := K1489.trans Kq1498 (allS (Or.inr sz_q) (allS (Or.inr sz_A) (allS (Or.inr sz_B) (all0))))
        have pre1499 := fun (τ : State) kt => pre1497 τ (by
          refine XS.istore X1496.here hx rfl (Jvm.hb hby at_218) rfl (l' := (own_LA3 p1 p2 p3 p4 p5 nn j0 j1 j2 jb q (.val (.int j0)) (.val (.int j1)) (.val (.int j2)) (.val (.int (1 : Int32))) (.val (.int (1 : Int32))) .unset)) rfl ?_
          refine XS.aload X1496.here hx rfl (Jvm.hb hby at_220) rfl rfl ?_
          refine XS.iconst X1496.here hx rfl (Jvm.hb hby at_222) ?_
          exact st1498 τ kt)
        have f1500 := f1491.keep Kq1498
        obtain ⟨_, T1501, L1501, X1501, ⟨rfl, Nq1501, eq1501⟩, st1501⟩ := own_virt (y := own_mn3) (b := q) X1498 hx hZ hown (own_W24 hw) (own_W25 hw) (own_W27 hw) (own_W26 hw) (by decide) (rmMax_12 l Z a0 hw [] q A B kA kB (0 : Int32) (0 : Int32) (2 : Int32) (0 : UInt64) (FP.i2d j0) (FP.i2d j2) T1498.heap n0 (Nat.le_trans Z0 K1498.1) f1500 f1_1498 f2_1498 f3_1498 f4_1498 f5_1498 f6_1498 naA naB nAB g_q gA gB) (own_W28 hw) (own_W2 hw) 0 (by decide) (by decide) f1500 rfl (mkF m 228 (own_LA3 p1 p2 p3 p4 p5 nn j0 j1 j2 jb q (.val (.int j0)) (.val (.int j1)) (.val (.int j2)) (.val (.int (1 : Int32))) (.val (.int (1 : Int32))) .unset) [(.ref q)]) rfl (by rw [hml]; rfl) [] [] rfl (lenOf own_pd___D rfl) rfl (Nat.le_refl _) (Jvm.hb hby at_228) (by decide) (by decide)
        have N1501 := Fr.app N1498 Nq1501
        have pre1502 := fun (τ : State) kt => pre1499 τ (by
          refine XS.aload X1498.here hx rfl (Jvm.hb hby at_226) rfl rfl ?_
          exact st1501 τ kt)
        obtain ⟨_, T1503, L1503, X1503, ⟨rfl, Nq1503, eq1503⟩, st1503⟩ := own_stat (y := own_mn5) X1501 hx hZ hown (own_W34 hw) (own_W35 hw) (by decide) (rmE2 l Z a0 hw [] (FP.i2d j0) j0 jb T1498.heap n0 (Nat.le_trans Z0 K1498.1) (own_ne100 (by (try simp only [own_max_int, own_m100]); omega)) (own_eq (by simp only [own_max_int, own_min_int, own_m100]; omega) _)) (own_W37 hw) (own_W36 hw) 0 (by decide) (by decide) eq1501 (mkF m 235 (own_LA3 p1 p2 p3 p4 p5 nn j0 j1 j2 jb q (.val (.int j0)) (.val (.int j1)) (.val (.int j2)) (.val (.int (1 : Int32))) (.val (.int (1 : Int32))) .unset) [(.int jb), (.int j0), (.double (FP.i2d j0))]) rfl (by rw [hml]; rfl) [(.double (FP.i2d j0)), (.int j0), (.int jb)] [] rfl (lenOf own_pd__DII_Z rfl) rfl (Nat.le_refl _) (Jvm.hb hby at_235) (by decide) (by decide)
        have N1503 := Fr.app N1501 Nq1503
        have pre1504 := fun (τ : State) kt => pre1502 τ (by
          refine XS.iload X1501.here hx rfl (Jvm.hb hby at_231) rfl ?_
          refine XS.iload X1501.here hx rfl (Jvm.hb hby at_233) rfl ?_
          exact st1503 τ kt)
        have pre1505 := fun (τ : State) kt => pre1504 τ (by
          refine XS.istore X1503.here hx rfl (Jvm.hb hby at_238) rfl (l' := (own_LA3 p1 p2 p3 p4 p5 nn j0 j1 j2 jb q (.val (.int j0)) (.val (.int j1)) (.val (.int j2)) (.val (.int (1 : Int32))) (.val (.int (1 : Int32))) (.val (.int (1 : Int32))))) rfl ?_
          refine XS.iload X1503.here hx rfl (Jvm.hb hby at_240) rfl ?_
          refine XS.ifNo X1503.here hx rfl (Jvm.hb hby at_242) rfl ((if0 _ _).trans (feq (by decide)).1) ?_
          refine XS.iload X1503.here hx rfl (Jvm.hb hby at_245) rfl ?_
          refine XS.ifNo X1503.here hx rfl (Jvm.hb hby at_247) rfl ((if0 _ _).trans (feq (by decide)).1) ?_
          refine XS.iload X1503.here hx rfl (Jvm.hb hby at_250) rfl ?_
          refine XS.ifNo X1503.here hx rfl (Jvm.hb hby at_252) rfl ((if0 _ _).trans (feq (by decide)).1) ?_
          refine XS.iconst X1503.here hx rfl (Jvm.hb hby at_255) ?_
          refine XS.goto X1503.here hx rfl (pc0 := 256) (pc' := 260) rfl (Jvm.hb hby at_256) (by decide) (by decide) ?_
          exact kt)
        obtain ⟨fs, hrL, hrun, hended, hW, hsame⟩ := X1503.leave (v := some (.int (1 : Int32))) (fun h => by rw [Bd.returns] at h; cases h)
        refine ⟨_, _, cast (congrFun hPS _) (pre1505 _ ?_), hrun, hended, _, _, rfl, ?_, ⟨_, rfl⟩, hW, hsame.mono (by decide) (by decide)⟩
        · show Steps p.tables e below (T1503.setTop (mkF m 260 (own_LA3 p1 p2 p3 p4 p5 nn j0 j1 j2 jb q (.val (.int j0)) (.val (.int j1)) (.val (.int j2)) (.val (.int (1 : Int32))) (.val (.int (1 : Int32))) (.val (.int (1 : Int32)))) [(.int (1 : Int32))])) _
          exact retN X1503 hx (t := .boolean) Bd.returns (by simp) (Jvm.hb hby at_260) hrL
        · show Q0 n0 _ T1503.heap _
          exact ⟨rfl, N1503⟩
      by_cases qb1506 : jb.toInt < j0.toInt
      · skip
        have f1507 := f1442.keep Kq1443
        obtain ⟨_, T1508, L1508, X1508, ⟨rfl, Nq1508, Kq1508, f1_1508, f2_1508, f3_1508, f4_1508, f5_1508, f6_1508⟩, st1508⟩ := own_virt (y := own_mn2) (b := q) X1443 hx hZ hown (own_W19 hw) (own_W20 hw) (own_W22 hw) (own_W21 hw) (by decide) (rmCap_13_cos l Z a0 hw [] q (FP.i2d jb) A B kA kB (0 : Int32) (0 : Int32) (2 : Int32) (0 : UInt64) (FP.i2d j0) (FP.i2d j2) T1443.heap n0 (Nat.le_trans Z0 K1443.1) f1507 f1_1443 f2_1443 f3_1443 f4_1443 f5_1443 f6_1443 naA naB nAB g_q gA gB (fun z => qc1446 ((own_lt _ _ _).mp z)) ((own_gt _ _ _).mpr qb1506)) (own_W23 hw) (own_W2 hw) 0 (by decide) (by decide) f1507 rfl (mkF m 126 (own_LA3 p1 p2 p3 p4 p5 nn j0 j1 j2 jb q .unset .unset .unset .unset .unset .unset) [(.double (FP.i2d jb)), (.ref q)]) rfl (by rw [hml]; rfl) [(.double (FP.i2d jb))] [] rfl (lenOf own_pd__D_V rfl) rfl (Nat.le_refl _) (Jvm.hb hby at_126) (by decide) (by decide)
        have N1508 := Fr.app N1443 Nq1508
        have K1508 : Keep h0 T1508.heap [] := K1443.trans Kq1508 (allS (Or.inr sz_q) (allS (Or.inr sz_A) (allS (Or.inr sz_B) (all0))))
        have pre1509 := fun (τ : State) kt => pre1445 τ (st1508 τ kt)
        have f1510 := f1507.keep Kq1508
        obtain ⟨_, T1511, L1511, X1511, ⟨rfl, Nq1511, eq1511⟩, st1511⟩ := own_virt (y := own_mn3) (b := q) X1508 hx hZ hown (own_W24 hw) (own_W25 hw) (own_W27 hw) (own_W26 hw) (by decide) (rmMax_12 l Z a0 hw [] q A B kA kB (0 : Int32) (0 : Int32) (2 : Int32) (0 : UInt64) (FP.i2d jb) (FP.i2d j2) T1508.heap n0 (Nat.le_trans Z0 K1508.1) f1510 f1_1508 f2_1508 f3_1508 f4_1508 f5_1508 f6_1508 naA naB nAB g_q gA gB) (own_W28 hw) (own_W2 hw) 0 (by decide) (by decide) f1510 rfl (mkF m 173 (own_LA3 p1 p2 p3 p4 p5 nn j0 j1 j2 jb q (.val (.int j0)) (.val (.int j1)) (.val (.int j2)) .unset .unset .unset) [(.ref q)]) rfl (by rw [hml]; rfl) [] [] rfl (lenOf own_pd___D rfl) rfl (Nat.le_refl _) (Jvm.hb hby at_173) (by decide) (by decide)
        have N1511 := Fr.app N1508 Nq1511
        have pre1512 := fun (τ : State) kt => pre1509 τ (by
          refine XS.iload X1508.here hx rfl (Jvm.hb hby at_129) rfl ?_
          refine XS.ifNo X1508.here hx rfl (Jvm.hb hby at_131) rfl ((if0 _ _).trans (feq (by decide)).1) ?_
          refine XS.iload X1508.here hx rfl (Jvm.hb hby at_134) rfl ?_
          refine XS.goto X1508.here hx rfl (pc0 := 136) (pc' := 141) rfl (Jvm.hb hby at_136) (by decide) (by decide) ?_
          refine XS.istore X1508.here hx rfl (Jvm.hb hby at_141) rfl (l' := (own_LA3 p1 p2 p3 p4 p5 nn j0 j1 j2 jb q (.val (.int j0)) .unset .unset .unset .unset .unset)) rfl ?_
          refine XS.iload X1508.here hx rfl (Jvm.hb hby at_143) rfl ?_
          refine XS.ifNo X1508.here hx rfl (Jvm.hb hby at_145) rfl ((if0 _ _).trans (feq (by decide)).1) ?_
          refine XS.iload X1508.here hx rfl (Jvm.hb hby at_148) rfl ?_
          refine XS.goto X1508.here hx rfl (pc0 := 150) (pc' := 155) rfl (Jvm.hb hby at_150) (by decide) (by decide) ?_
          refine XS.istore X1508.here hx rfl (Jvm.hb hby at_155) rfl (l' := (own_LA3 p1 p2 p3 p4 p5 nn j0 j1 j2 jb q (.val (.int j0)) (.val (.int j1)) .unset .unset .unset .unset)) rfl ?_
          refine XS.iload X1508.here hx rfl (Jvm.hb hby at_157) rfl ?_
          refine XS.ifNo X1508.here hx rfl (Jvm.hb hby at_159) rfl ((if0 _ _).trans (feq (by decide)).1) ?_
          refine XS.iload X1508.here hx rfl (Jvm.hb hby at_162) rfl ?_
          refine XS.goto X1508.here hx rfl (pc0 := 164) (pc' := 169) rfl (Jvm.hb hby at_164) (by decide) (by decide) ?_
          refine XS.istore X1508.here hx rfl (Jvm.hb hby at_169) rfl (l' := (own_LA3 p1 p2 p3 p4 p5 nn j0 j1 j2 jb q (.val (.int j0)) (.val (.int j1)) (.val (.int j2)) .unset .unset .unset)) rfl ?_
          refine XS.aload X1508.here hx rfl (Jvm.hb hby at_171) rfl rfl ?_
          exact st1511 τ kt)
        obtain ⟨_, T1513, L1513, X1513, ⟨rfl, Nq1513, eq1513⟩, st1513⟩ := own_stat (y := own_mn4) X1511 hx hZ hown (own_W30 hw) (own_W31 hw) (by decide) (rm_max l Z a0 hw [] j1 j2 T1508.heap n0 (Nat.le_trans Z0 K1508.1)) (own_W33 hw) (own_W32 hw) 3 (by decide) (by decide) eq1511 (mkF m 182 (own_LA3 p1 p2 p3 p4 p5 nn j0 j1 j2 jb q (.val (.int j0)) (.val (.int j1)) (.val (.int j2)) .unset .unset .unset) [(.int j2), (.int j1), (.int j0), (.double (FP.i2d jb))]) rfl (by rw [hml]; rfl) [(.int j1), (.int j2)] [(.int j0), (.double (FP.i2d jb))] rfl (lenOf own_pd__II_I rfl) rfl (Nat.le_refl _) (Jvm.hb hby at_182) (by decide) (by decide)
        have N1513 := Fr.app N1511 Nq1513
        have pre1514 := fun (τ : State) kt => pre1512 τ (by
          refine XS.iload X1511.here hx rfl (Jvm.hb hby at_176) rfl ?_
          refine XS.iload X1511.here hx rfl (Jvm.hb hby at_178) rfl ?_
          refine XS.iload X1511.here hx rfl (Jvm.hb hby at_180) rfl ?_
          exact st1513 τ kt)
        obtain ⟨_, T1515, L1515, X1515, ⟨rfl, Nq1515, eq1515⟩, st1515⟩ := own_stat (y := own_mn4) X1513 hx hZ hown (own_W30 hw) (own_W31 hw) (by decide) (rm_max l Z a0 hw [] j0 (own_max j1 j2) T1508.heap n0 (Nat.le_trans Z0 K1508.1)) (own_W33 hw) (own_W32 hw) 2 (by decide) (by decide) eq1513 (mkF m 185 (own_LA3 p1 p2 p3 p4 p5 nn j0 j1 j2 jb q (.val (.int j0)) (.val (.int j1)) (.val (.int j2)) .unset .unset .unset) [(.int (own_max j1 j2)), (.int j0), (.double (FP.i2d jb))]) rfl (by rw [hml]; rfl) [(.int j0), (.int (own_max j1 j2))] [(.double (FP.i2d jb))] rfl (lenOf own_pd__II_I rfl) rfl (Nat.le_refl _) (Jvm.hb hby at_185) (by decide) (by decide)
        have N1515 := Fr.app N1513 Nq1515
        have pre1516 := fun (τ : State) kt => pre1514 τ (st1515 τ kt)
        obtain ⟨_, T1517, L1517, X1517, ⟨rfl, Nq1517, eq1517⟩, st1517⟩ := own_stat (y := own_mn5) X1515 hx hZ hown (own_W34 hw) (own_W35 hw) (by decide) (rmE2 l Z a0 hw [] (FP.i2d jb) (own_max j0 (own_max j1 j2)) jb T1508.heap n0 (Nat.le_trans Z0 K1508.1) (own_ne100 (by (try simp only [own_max_int, own_m100]); omega)) (own_eq (by simp only [own_max_int, own_min_int, own_m100]; omega) _)) (own_W37 hw) (own_W36 hw) 0 (by decide) (by decide) eq1515 (mkF m 190 (own_LA3 p1 p2 p3 p4 p5 nn j0 j1 j2 jb q (.val (.int j0)) (.val (.int j1)) (.val (.int j2)) .unset .unset .unset) [(.int jb), (.int (own_max j0 (own_max j1 j2))), (.double (FP.i2d jb))]) rfl (by rw [hml]; rfl) [(.double (FP.i2d jb)), (.int (own_max j0 (own_max j1 j2))), (.int jb)] [] rfl (lenOf own_pd__DII_Z rfl) rfl (Nat.le_refl _) (Jvm.hb hby at_190) (by decide) (by decide)
        have N1517 := Fr.app N1515 Nq1517
        have pre1518 := fun (τ : State) kt => pre1516 τ (by
          refine XS.iload X1515.here hx rfl (Jvm.hb hby at_188) rfl ?_
          exact st1517 τ kt)
        obtain ⟨_, T1519, L1519, X1519, ⟨rfl, Nq1519, Kq1519, f1_1519, f2_1519, f3_1519, f4_1519, f5_1519, f6_1519⟩, st1519⟩ := own_virt (y := own_mn6) (b := q) X1517 hx hZ hown (own_W39 hw) (own_W40 hw) (own_W42 hw) (own_W41 hw) (by decide) (rmRem_12_x l Z a0 hw [] q (1 : Int32) A B kA kB (0 : Int32) (0 : Int32) (2 : Int32) (0 : UInt64) (FP.i2d jb) (FP.i2d j2) T1508.heap n0 (Nat.le_trans Z0 K1508.1) f1510 f1_1508 f2_1508 f3_1508 f4_1508 f5_1508 f6_1508 naA naB nAB g_q gA gB (by decide)) (own_W43 hw) (own_W2 hw) 0 (by decide) (by decide) f1510 eq1517 (mkF m 198 (own_LA3 p1 p2 p3 p4 p5 nn j0 j1 j2 jb q (.val (.int j0)) (.val (.int j1)) (.val (.int j2)) (.val (.int (1 : Int32))) .unset .unset) [(.int (1 : Int32)), (.ref q)]) rfl (by rw [hml]; rfl) [(.int (1 : Int32))] [] rfl (lenOf own_pd__I_V rfl) rfl (Nat.le_refl _) (Jvm.hb hby at_198) (by decide) (by decide)
        have N1519 := Fr.app N1517 Nq1519
        have K1519 : Keep h0 T1519.heap [] := K1508.trans Kq1519 (allS (Or.inr sz_q) (allS (Or.inr sz_A) (allS (Or.inr sz_B) (all0))))
        have pre1520 := fun (τ : State) kt => pre1518 τ (by
          refine XS.istore X1517.here hx rfl (Jvm.hb hby at_193) rfl (l' := (own_LA3 p1 p2 p3 p4 p5 nn j0 j1 j2 jb q (.val (.int j0)) (.val (.int j1)) (.val (.int j2)) (.val (.int (1 : Int32))) .unset .unset)) rfl ?_
          refine XS.aload X1517.here hx rfl (Jvm.hb hby at_195) rfl rfl ?_
          refine XS.iconst X1517.here hx rfl (Jvm.hb hby at_197) ?_
          exact st1519 τ kt)
        have f1521 := f1510.keep Kq1519
        obtain ⟨_, T1522, L1522, X1522, ⟨rfl, Nq1522, eq1522⟩, st1522⟩ := own_virt (y := own_mn3) (b := q) X1519 hx hZ hown (own_W24 hw) (own_W25 hw) (own_W27 hw) (own_W26 hw) (by decide) (rmMax_12 l Z a0 hw [] q A B kA kB (0 : Int32) (0 : Int32) (2 : Int32) (0 : UInt64) (FP.i2d jb) (FP.i2d j2) T1519.heap n0 (Nat.le_trans Z0 K1519.1) f1521 f1_1519 f2_1519 f3_1519 f4_1519 f5_1519 f6_1519 naA naB nAB g_q gA gB) (own_W28 hw) (own_W2 hw) 0 (by decide) (by decide) f1521 rfl (mkF m 203 (own_LA3 p1 p2 p3 p4 p5 nn j0 j1 j2 jb q (.val (.int j0)) (.val (.int j1)) (.val (.int j2)) (.val (.int (1 : Int32))) .unset .unset) [(.ref q)]) rfl (by rw [hml]; rfl) [] [] rfl (lenOf own_pd___D rfl) rfl (Nat.le_refl _) (Jvm.hb hby at_203) (by decide) (by decide)
        have N1522 := Fr.app N1519 Nq1522
        have pre1523 := fun (τ : State) kt => pre1520 τ (by
          refine XS.aload X1519.here hx rfl (Jvm.hb hby at_201) rfl rfl ?_
          exact st1522 τ kt)
        obtain ⟨_, T1524, L1524, X1524, ⟨rfl, Nq1524, eq1524⟩, st1524⟩ := own_stat (y := own_mn4) X1522 hx hZ hown (own_W30 hw) (own_W31 hw) (by decide) (rm_max l Z a0 hw [] j0 j1 T1519.heap n0 (Nat.le_trans Z0 K1519.1)) (own_W33 hw) (own_W32 hw) 2 (by decide) (by decide) eq1522 (mkF m 210 (own_LA3 p1 p2 p3 p4 p5 nn j0 j1 j2 jb q (.val (.int j0)) (.val (.int j1)) (.val (.int j2)) (.val (.int (1 : Int32))) .unset .unset) [(.int j1), (.int j0), (.double (FP.i2d jb))]) rfl (by rw [hml]; rfl) [(.int j0), (.int j1)] [(.double (FP.i2d jb))] rfl (lenOf own_pd__II_I rfl) rfl (Nat.le_refl _) (Jvm.hb hby at_210) (by decide) (by decide)
        have N1524 := Fr.app N1522 Nq1524
        have pre1525 := fun (τ : State) kt => pre1523 τ (by
          refine XS.iload X1522.here hx rfl (Jvm.hb hby at_206) rfl ?_
          refine XS.iload X1522.here hx rfl (Jvm.hb hby at_208) rfl ?_
          exact st1524 τ kt)
        obtain ⟨_, T1526, L1526, X1526, ⟨rfl, Nq1526, eq1526⟩, st1526⟩ := own_stat (y := own_mn5) X1524 hx hZ hown (own_W34 hw) (own_W35 hw) (by decide) (rmE2 l Z a0 hw [] (FP.i2d jb) (own_max j0 j1) jb T1519.heap n0 (Nat.le_trans Z0 K1519.1) (own_ne100 (by (try simp only [own_max_int, own_m100]); omega)) (own_eq (by simp only [own_max_int, own_min_int, own_m100]; omega) _)) (own_W37 hw) (own_W36 hw) 0 (by decide) (by decide) eq1524 (mkF m 215 (own_LA3 p1 p2 p3 p4 p5 nn j0 j1 j2 jb q (.val (.int j0)) (.val (.int j1)) (.val (.int j2)) (.val (.int (1 : Int32))) .unset .unset) [(.int jb), (.int (own_max j0 j1)), (.double (FP.i2d jb))]) rfl (by rw [hml]; rfl) [(.double (FP.i2d jb)), (.int (own_max j0 j1)), (.int jb)] [] rfl (lenOf own_pd__DII_Z rfl) rfl (Nat.le_refl _) (Jvm.hb hby at_215) (by decide) (by decide)
        have N1526 := Fr.app N1524 Nq1526
        have pre1527 := fun (τ : State) kt => pre1525 τ (by
          refine XS.iload X1524.here hx rfl (Jvm.hb hby at_213) rfl ?_
          exact st1526 τ kt)
        obtain ⟨_, T1528, L1528, X1528, ⟨rfl, Nq1528, Kq1528, f1_1528, f2_1528, f3_1528, f4_1528, f5_1528, f6_1528⟩, st1528⟩ := own_virt (y := own_mn6) (b := q) X1526 hx hZ hown (own_W39 hw) (own_W40 hw) (own_W42 hw) (own_W41 hw) (by decide) (rmRem_12_x l Z a0 hw [] q (0 : Int32) A B kA kB (0 : Int32) (0 : Int32) (2 : Int32) (0 : UInt64) (FP.i2d jb) (FP.i2d j2) T1519.heap n0 (Nat.le_trans Z0 K1519.1) f1521 f1_1519 f2_1519 f3_1519 f4_1519 f5_1519 f6_1519 naA naB nAB g_q gA gB (by decide)) (own_W43 hw) (own_W2 hw) 0 (by decide) (by decide) f1521 eq1526 (mkF m 223 (own_LA3 p1 p2 p3 p4 p5 nn j0 j1 j2 jb q (.val (.int j0)) (.val (.int j1)) (.val (.int j2)) (.val (.int (1 : Int32))) (.val (.int (1 : Int32))) .unset) [(.int (0 : Int32)), (.ref q)]) rfl (by rw [hml]; rfl) [(.int (0 : Int32))] [] rfl (lenOf own_pd__I_V rfl) rfl (Nat.le_refl _) (Jvm.hb hby at_223) (by decide) (by decide)
        have N1528 := Fr.app N1526 Nq1528
        have K1528 : Keep h0 T1528.heap [] := K1519.trans Kq1528 (allS (Or.inr sz_q) (allS (Or.inr sz_A) (allS (Or.inr sz_B) (all0))))
        have pre1529 := fun (τ : State) kt => pre1527 τ (by
          refine XS.istore X1526.here hx rfl (Jvm.hb hby at_218) rfl (l' := (own_LA3 p1 p2 p3 p4 p5 nn j0 j1 j2 jb q (.val (.int j0)) (.val (.int j1)) (.val (.int j2)) (.val (.int (1 : Int32))) (.val (.int (1 : Int32))) .unset)) rfl ?_
          refine XS.aload X1526.here hx rfl (Jvm.hb hby at_220) rfl rfl ?_
          refine XS.iconst X1526.here hx rfl (Jvm.hb hby at_222) ?_
          exact st1528 τ kt)
        have f1530 := f1521.keep Kq1528
        obtain ⟨_, T1531, L1531, X1531, ⟨rfl, Nq1531, eq1531⟩, st1531⟩ := own_virt (y := own_mn3) (b := q) X1528 hx hZ hown (own_W24 hw) (own_W25 hw) (own_W27 hw) (own_W26 hw) (by decide) (rmMax_12 l Z a0 hw [] q A B kA kB (0 : Int32) (0 : Int32) (2 : Int32) (0 : UInt64) (FP.i2d jb) (FP.i2d j2) T1528.heap n0 (Nat.le_trans Z0 K1528.1) f1530 f1_1528 f2_1528 f3_1528 f4_1528 f5_1528 f6_1528 naA naB nAB g_q gA gB) (own_W28 hw) (own_W2 hw) 0 (by decide) (by decide) f1530 rfl (mkF m 228 (own_LA3 p1 p2 p3 p4 p5 nn j0 j1 j2 jb q (.val (.int j0)) (.val (.int j1)) (.val (.int j2)) (.val (.int (1 : Int32))) (.val (.int (1 : Int32))) .unset) [(.ref q)]) rfl (by rw [hml]; rfl) [] [] rfl (lenOf own_pd___D rfl) rfl (Nat.le_refl _) (Jvm.hb hby at_228) (by decide) (by decide)
        have N1531 := Fr.app N1528 Nq1531
        have pre1532 := fun (τ : State) kt => pre1529 τ (by
          refine XS.aload X1528.here hx rfl (Jvm.hb hby at_226) rfl rfl ?_
          exact st1531 τ kt)
        obtain ⟨_, T1533, L1533, X1533, ⟨rfl, Nq1533, eq1533⟩, st1533⟩ := own_stat (y := own_mn5) X1531 hx hZ hown (own_W34 hw) (own_W35 hw) (by decide) (rmE2 l Z a0 hw [] (FP.i2d jb) j0 jb T1528.heap n0 (Nat.le_trans Z0 K1528.1) (own_ne100 (by (try simp only [own_max_int, own_m100]); omega)) (own_eq (by simp only [own_max_int, own_min_int, own_m100]; omega) _)) (own_W37 hw) (own_W36 hw) 0 (by decide) (by decide) eq1531 (mkF m 235 (own_LA3 p1 p2 p3 p4 p5 nn j0 j1 j2 jb q (.val (.int j0)) (.val (.int j1)) (.val (.int j2)) (.val (.int (1 : Int32))) (.val (.int (1 : Int32))) .unset) [(.int jb), (.int j0), (.double (FP.i2d jb))]) rfl (by rw [hml]; rfl) [(.double (FP.i2d jb)), (.int j0), (.int jb)] [] rfl (lenOf own_pd__DII_Z rfl) rfl (Nat.le_refl _) (Jvm.hb hby at_235) (by decide) (by decide)
        have N1533 := Fr.app N1531 Nq1533
        have pre1534 := fun (τ : State) kt => pre1532 τ (by
          refine XS.iload X1531.here hx rfl (Jvm.hb hby at_231) rfl ?_
          refine XS.iload X1531.here hx rfl (Jvm.hb hby at_233) rfl ?_
          exact st1533 τ kt)
        have pre1535 := fun (τ : State) kt => pre1534 τ (by
          refine XS.istore X1533.here hx rfl (Jvm.hb hby at_238) rfl (l' := (own_LA3 p1 p2 p3 p4 p5 nn j0 j1 j2 jb q (.val (.int j0)) (.val (.int j1)) (.val (.int j2)) (.val (.int (1 : Int32))) (.val (.int (1 : Int32))) (.val (.int (1 : Int32))))) rfl ?_
          refine XS.iload X1533.here hx rfl (Jvm.hb hby at_240) rfl ?_
          refine XS.ifNo X1533.here hx rfl (Jvm.hb hby at_242) rfl ((if0 _ _).trans (feq (by decide)).1) ?_
          refine XS.iload X1533.here hx rfl (Jvm.hb hby at_245) rfl ?_
          refine XS.ifNo X1533.here hx rfl (Jvm.hb hby at_247) rfl ((if0 _ _).trans (feq (by decide)).1) ?_
          refine XS.iload X1533.here hx rfl (Jvm.hb hby at_250) rfl ?_
          refine XS.ifNo X1533.here hx rfl (Jvm.hb hby at_252) rfl ((if0 _ _).trans (feq (by decide)).1) ?_
          refine XS.iconst X1533.here hx rfl (Jvm.hb hby at_255) ?_
          refine XS.goto X1533.here hx rfl (pc0 := 256) (pc' := 260) rfl (Jvm.hb hby at_256) (by decide) (by decide) ?_
          exact kt)
        obtain ⟨fs, hrL, hrun, hended, hW, hsame⟩ := X1533.leave (v := some (.int (1 : Int32))) (fun h => by rw [Bd.returns] at h; cases h)
        refine ⟨_, _, cast (congrFun hPS _) (pre1535 _ ?_), hrun, hended, _, _, rfl, ?_, ⟨_, rfl⟩, hW, hsame.mono (by decide) (by decide)⟩
        · show Steps p.tables e below (T1533.setTop (mkF m 260 (own_LA3 p1 p2 p3 p4 p5 nn j0 j1 j2 jb q (.val (.int j0)) (.val (.int j1)) (.val (.int j2)) (.val (.int (1 : Int32))) (.val (.int (1 : Int32))) (.val (.int (1 : Int32)))) [(.int (1 : Int32))])) _
          exact retN X1533 hx (t := .boolean) Bd.returns (by simp) (Jvm.hb hby at_260) hrL
        · show Q0 n0 _ T1533.heap _
          exact ⟨rfl, N1533⟩
      have f1536 := f1442.keep Kq1443
      obtain ⟨_, T1537, L1537, X1537, ⟨rfl, Nq1537, Kq1537, f1_1537, f2_1537, f3_1537, f4_1537, f5_1537, f6_1537⟩, st1537⟩ := own_virt (y := own_mn2) (b := q) X1443 hx hZ hown (own_W19 hw) (own_W20 hw) (own_W22 hw) (own_W21 hw) (by decide) (rmCap_13_cok l Z a0 hw [] q (FP.i2d jb) A B kA kB (0 : Int32) (0 : Int32) (2 : Int32) (0 : UInt64) (FP.i2d j0) (FP.i2d j2) T1443.heap n0 (Nat.le_trans Z0 K1443.1) f1536 f1_1443 f2_1443 f3_1443 f4_1443 f5_1443 f6_1443 naA naB nAB g_q gA gB (fun z => qc1446 ((own_lt _ _ _).mp z)) (fun z => qb1506 ((own_gt _ _ _).mp z))) (own_W23 hw) (own_W2 hw) 0 (by decide) (by decide) f1536 rfl (mkF m 126 (own_LA3 p1 p2 p3 p4 p5 nn j0 j1 j2 jb q .unset .unset .unset .unset .unset .unset) [(.double (FP.i2d jb)), (.ref q)]) rfl (by rw [hml]; rfl) [(.double (FP.i2d jb))] [] rfl (lenOf own_pd__D_V rfl) rfl (Nat.le_refl _) (Jvm.hb hby at_126) (by decide) (by decide)
      have N1537 := Fr.app N1443 Nq1537
      have K1537 : Keep h0 T1537.heap [] := K1443.trans Kq1537 (allS (Or.inr sz_q) (allS (Or.inr sz_A) (allS (Or.inr sz_B) (all0))))
      have pre1538 := fun (τ : State) kt => pre1445 τ (st1537 τ kt)
      have f1539 := f1536.keep Kq1537
      obtain ⟨_, T1540, L1540, X1540, ⟨rfl, Nq1540, eq1540⟩, st1540⟩ := own_virt (y := own_mn3) (b := q) X1537 hx hZ hown (own_W24 hw) (own_W25 hw) (own_W27 hw) (own_W26 hw) (by decide) (rmMax_12 l Z a0 hw [] q A B kA kB (0 : Int32) (0 : Int32) (2 : Int32) (0 : UInt64) (FP.i2d j0) (FP.i2d j2) T1537.heap n0 (Nat.le_trans Z0 K1537.1) f1539 f1_1537 f2_1537 f3_1537 f4_1537 f5_1537 f6_1537 naA naB nAB g_q gA gB) (own_W28 hw) (own_W2 hw) 0 (by decide) (by decide) f1539 rfl (mkF m 173 (own_LA3 p1 p2 p3 p4 p5 nn j0 j1 j2 jb q (.val (.int j0)) (.val (.int j1)) (.val (.int j2)) .unset .unset .unset) [(.ref q)]) rfl (by rw [hml]; rfl) [] [] rfl (lenOf own_pd___D rfl) rfl (Nat.le_refl _) (Jvm.hb hby at_173) (by decide) (by decide)
      have N1540 := Fr.app N1537 Nq1540
      have pre1541 := fun (τ : State) kt => pre1538 τ (by
        refine XS.iload X1537.here hx rfl (Jvm.hb hby at_129) rfl ?_
        refine XS.ifNo X1537.here hx rfl (Jvm.hb hby at_131) rfl ((if0 _ _).trans (feq (by decide)).1) ?_
        refine XS.iload X1537.here hx rfl (Jvm.hb hby at_134) rfl ?_
        refine XS.goto X1537.here hx rfl (pc0 := 136) (pc' := 141) rfl (Jvm.hb hby at_136) (by decide) (by decide) ?_
        refine XS.istore X1537.here hx rfl (Jvm.hb hby at_141) rfl (l' := (own_LA3 p1 p2 p3 p4 p5 nn j0 j1 j2 jb q (.val (.int j0)) .unset .unset .unset .unset .unset)) rfl ?_
        refine XS.iload X1537.here hx rfl (Jvm.hb hby at_143) rfl ?_
        refine XS.ifNo X1537.here hx rfl (Jvm.hb hby at_145) rfl ((if0 _ _).trans (feq (by decide)).1) ?_
        refine XS.iload X1537.here hx rfl (Jvm.hb hby at_148) rfl ?_
        refine XS.goto X1537.here hx rfl (pc0 := 150) (pc' := 155) rfl (Jvm.hb hby at_150) (by decide) (by decide) ?_
        refine XS.istore X1537.here hx rfl (Jvm.hb hby at_155) rfl (l' := (own_LA3 p1 p2 p3 p4 p5 nn j0 j1 j2 jb q (.val (.int j0)) (.val (.int j1)) .unset .unset .unset .unset)) rfl ?_
        refine XS.iload X1537.here hx rfl (Jvm.hb hby at_157) rfl ?_
        refine XS.ifNo X1537.here hx rfl (Jvm.hb hby at_159) rfl ((if0 _ _).trans (feq (by decide)).1) ?_
        refine XS.iload X1537.here hx rfl (Jvm.hb hby at_162) rfl ?_
        refine XS.goto X1537.here hx rfl (pc0 := 164) (pc' := 169) rfl (Jvm.hb hby at_164) (by decide) (by decide) ?_
        refine XS.istore X1537.here hx rfl (Jvm.hb hby at_169) rfl (l' := (own_LA3 p1 p2 p3 p4 p5 nn j0 j1 j2 jb q (.val (.int j0)) (.val (.int j1)) (.val (.int j2)) .unset .unset .unset)) rfl ?_
        refine XS.aload X1537.here hx rfl (Jvm.hb hby at_171) rfl rfl ?_
        exact st1540 τ kt)
      obtain ⟨_, T1542, L1542, X1542, ⟨rfl, Nq1542, eq1542⟩, st1542⟩ := own_stat (y := own_mn4) X1540 hx hZ hown (own_W30 hw) (own_W31 hw) (by decide) (rm_max l Z a0 hw [] j1 j2 T1537.heap n0 (Nat.le_trans Z0 K1537.1)) (own_W33 hw) (own_W32 hw) 3 (by decide) (by decide) eq1540 (mkF m 182 (own_LA3 p1 p2 p3 p4 p5 nn j0 j1 j2 jb q (.val (.int j0)) (.val (.int j1)) (.val (.int j2)) .unset .unset .unset) [(.int j2), (.int j1), (.int j0), (.double (FP.i2d j0))]) rfl (by rw [hml]; rfl) [(.int j1), (.int j2)] [(.int j0), (.double (FP.i2d j0))] rfl (lenOf own_pd__II_I rfl) rfl (Nat.le_refl _) (Jvm.hb hby at_182) (by decide) (by decide)
      have N1542 := Fr.app N1540 Nq1542
      have pre1543 := fun (τ : State) kt => pre1541 τ (by
        refine XS.iload X1540.here hx rfl (Jvm.hb hby at_176) rfl ?_
        refine XS.iload X1540.here hx rfl (Jvm.hb hby at_178) rfl ?_
        refine XS.iload X1540.here hx rfl (Jvm.hb hby at_180) rfl ?_
        exact st1542 τ kt)
      obtain ⟨_, T1544, L1544, X1544, ⟨rfl, Nq1544, eq1544⟩, st1544⟩ := own_stat (y := own_mn4) X1542 hx hZ hown (own_W30 hw) (own_W31 hw) (by decide) (rm_max l Z a0 hw [] j0 (own_max j1 j2) T1537.heap n0 (Nat.le_trans Z0 K1537.1)) (own_W33 hw) (own_W32 hw) 2 (by decide) (by decide) eq1542 (mkF m 185 (own_LA3 p1 p2 p3 p4 p5 nn j0 j1 j2 jb q (.val (.int j0)) (.val (.int j1)) (.val (.int j2)) .unset .unset .unset) [(.int (own_max j1 j2)), (.int j0), (.double (FP.i2d j0))]) rfl (by rw [hml]; rfl) [(.int j0), (.int (own_max j1 j2))] [(.double (FP.i2d j0))] rfl (lenOf own_pd__II_I rfl) rfl (Nat.le_refl _) (Jvm.hb hby at_185) (by decide) (by decide)
      have N1544 := Fr.app N1542 Nq1544
      have pre1545 := fun (τ : State) kt => pre1543 τ (st1544 τ kt)
      obtain ⟨_, T1546, L1546, X1546, ⟨rfl, Nq1546, eq1546⟩, st1546⟩ := own_stat (y := own_mn5) X1544 hx hZ hown (own_W34 hw) (own_W35 hw) (by decide) (rmE2 l Z a0 hw [] (FP.i2d j0) (own_max j0 (own_max j1 j2)) jb T1537.heap n0 (Nat.le_trans Z0 K1537.1) (own_ne100 (by (try simp only [own_max_int, own_m100]); omega)) (own_eq (by simp only [own_max_int, own_min_int, own_m100]; omega) _)) (own_W37 hw) (own_W36 hw) 0 (by decide) (by decide) eq1544 (mkF m 190 (own_LA3 p1 p2 p3 p4 p5 nn j0 j1 j2 jb q (.val (.int j0)) (.val (.int j1)) (.val (.int j2)) .unset .unset .unset) [(.int jb), (.int (own_max j0 (own_max j1 j2))), (.double (FP.i2d j0))]) rfl (by rw [hml]; rfl) [(.double (FP.i2d j0)), (.int (own_max j0 (own_max j1 j2))), (.int jb)] [] rfl (lenOf own_pd__DII_Z rfl) rfl (Nat.le_refl _) (Jvm.hb hby at_190) (by decide) (by decide)
      have N1546 := Fr.app N1544 Nq1546
      have pre1547 := fun (τ : State) kt => pre1545 τ (by
        refine XS.iload X1544.here hx rfl (Jvm.hb hby at_188) rfl ?_
        exact st1546 τ kt)
      obtain ⟨_, T1548, L1548, X1548, ⟨rfl, Nq1548, Kq1548, f1_1548, f2_1548, f3_1548, f4_1548, f5_1548, f6_1548⟩, st1548⟩ := own_virt (y := own_mn6) (b := q) X1546 hx hZ hown (own_W39 hw) (own_W40 hw) (own_W42 hw) (own_W41 hw) (by decide) (rmRem_12_x l Z a0 hw [] q (1 : Int32) A B kA kB (0 : Int32) (0 : Int32) (2 : Int32) (0 : UInt64) (FP.i2d j0) (FP.i2d j2) T1537.heap n0 (Nat.le_trans Z0 K1537.1) f1539 f1_1537 f2_1537 f3_1537 f4_1537 f5_1537 f6_1537 naA naB nAB g_q gA gB (by decide)) (own_W43 hw) (own_W2 hw) 0 (by decide) (by decide) f1539 eq1546 (mkF m 198 (own_LA3 p1 p2 p3 p4 p5 nn j0 j1 j2 jb q (.val (.int j0)) (.val (.int j1)) (.val (.int j2)) (.val (.int (1 : Int32))) .unset .unset) [(.int (1 : Int32)), (.ref q)]) rfl (by rw [hml]; rfl) [(.int (1 : Int32))] [] rfl (lenOf own_pd__I_V rfl) rfl (Nat.le_refl _) (Jvm.hb hby at_198) (by decide) (by decide)
      have N1548 := Fr.app N1546 Nq1548
      have K1548 : Keep h0 T1548.heap [] := K1537.trans Kq1548 (allS (Or.inr sz_q) (allS (Or.inr sz_A) (allS (Or.inr sz_B) (all0))))
      have pre1549 := fun (τ : State) kt => pre1547 τ (by
        refine XS.istore X1546.here hx rfl (Jvm.hb hby at_193) rfl (l' := (own_LA3 p1 p2 p3 p4 p5 nn j0 j1 j2 jb q (.val (.int j0)) (.val (.int j1)) (.val (.int j2)) (.val (.int (1 : Int32))) .unset .unset)) rfl ?_
        refine XS.aload X1546.here hx rfl (Jvm.hb hby at_195) rfl rfl ?_
        refine XS.iconst X1546.here hx rfl (Jvm.hb hby at_197) ?_
        exact st1548 τ kt)
      have f1550 := f1539.keep Kq1548
      obtain ⟨_, T1551, L1551, X1551, ⟨rfl, Nq1551, eq1551⟩, st1551⟩ := own_virt (y := own_mn3) (b := q) X1548 hx hZ hown (own_W24 hw) (own_W25 hw) (own_W27 hw) (own_W26 hw) (by decide) (rmMax_12 l Z a0 hw [] q A B kA kB (0 : Int32) (0 : Int32) (2 : Int32) (0 : UInt64) (FP.i2d j0) (FP.i2d j2) T1548.heap n0 (Nat.le_trans Z0 K1548.1) f1550 f1_1548 f2_1548 f3_1548 f4_1548 f5_1548 f6_1548 naA naB nAB g_q gA gB) (own_W28 hw) (own_W2 hw) 0 (by decide) (by decide) f1550 rfl (mkF m 203 (own_LA3 p1 p2 p3 p4 p5 nn j0 j1 j2 jb q (.val (.int j0)) (.val (.int j1)) (.val (.int j2)) (.val (.int (1 : Int32))) .unset .unset) [(.ref q)]) rfl (by rw [hml]; rfl) [] [] rfl (lenOf own_pd___D rfl) rfl (Nat.le_refl _) (Jvm.hb hby at_203) (by decide) (by decide)
      have N1551 := Fr.app N1548 Nq1551
      have pre1552 := fun (τ : State) kt => pre1549 τ (by
        refine XS.aload X1548.here hx rfl (Jvm.hb hby at_201) rfl rfl ?_
        exact st1551 τ kt)
      obtain ⟨_, T1553, L1553, X1553, ⟨rfl, Nq1553, eq1553⟩, st1553⟩ := own_stat (y := own_mn4) X1551 hx hZ hown (own_W30 hw) (own_W31 hw) (by decide) (rm_max l Z a0 hw [] j0 j1 T1548.heap n0 (Nat.le_trans Z0 K1548.1)) (own_W33 hw) (own_W32 hw) 2 (by decide) (by decide) eq1551 (mkF m 210 (own_LA3 p1 p2 p3 p4 p5 nn j0 j1 j2 jb q (.val (.int j0)) (.val (.int j1)) (.val (.int j2)) (.val (.int (1 : Int32))) .unset .unset) [(.int j1), (.int j0), (.double (FP.i2d j0))]) rfl (by rw [hml]; rfl) [(.int j0), (.int j1)] [(.double (FP.i2d j0))] rfl (lenOf own_pd__II_I rfl) rfl (Nat.le_refl _) (Jvm.hb hby at_210) (by decide) (by decide)
      have N1553 := Fr.app N1551 Nq1553
      have pre1554 := fun (τ : State) kt => pre1552 τ (by
        refine XS.iload X1551.here hx rfl (Jvm.hb hby at_206) rfl ?_
        refine XS.iload X1551.here hx rfl (Jvm.hb hby at_208) rfl ?_
        exact st1553 τ kt)
      obtain ⟨_, T1555, L1555, X1555, ⟨rfl, Nq1555, eq1555⟩, st1555⟩ := own_stat (y := own_mn5) X1553 hx hZ hown (own_W34 hw) (own_W35 hw) (by decide) (rmE2 l Z a0 hw [] (FP.i2d j0) (own_max j0 j1) jb T1548.heap n0 (Nat.le_trans Z0 K1548.1) (own_ne100 (by (try simp only [own_max_int, own_m100]); omega)) (own_eq (by simp only [own_max_int, own_min_int, own_m100]; omega) _)) (own_W37 hw) (own_W36 hw) 0 (by decide) (by decide) eq1553 (mkF m 215 (own_LA3 p1 p2 p3 p4 p5 nn j0 j1 j2 jb q (.val (.int j0)) (.val (.int j1)) (.val (.int j2)) (.val (.int (1 : Int32))) .unset .unset) [(.int jb), (.int (own_max j0 j1)), (.double (FP.i2d j0))]) rfl (by rw [hml]; rfl) [(.double (FP.i2d j0)), (.int (own_max j0 j1)), (.int jb)] [] rfl (lenOf own_pd__DII_Z rfl) rfl (Nat.le_refl _) (Jvm.hb hby at_215) (by decide) (by decide)
      have N1555 := Fr.app N1553 Nq1555
      have pre1556 := fun (τ : State) kt => pre1554 τ (by
        refine XS.iload X1553.here hx rfl (Jvm.hb hby at_213) rfl ?_
        exact st1555 τ kt)
      obtain ⟨_, T1557, L1557, X1557, ⟨rfl, Nq1557, Kq1557, f1_1557, f2_1557, f3_1557, f4_1557, f5_1557, f6_1557⟩, st1557⟩ := own_virt (y := own_mn6) (b := q) X1555 hx hZ hown (own_W39 hw) (own_W40 hw) (own_W42 hw) (own_W41 hw) (by decide) (rmRem_12_x l Z a0 hw [] q (0 : Int32) A B kA kB (0 : Int32) (0 : Int32) (2 : Int32) (0 : UInt64) (FP.i2d j0) (FP.i2d j2) T1548.heap n0 (Nat.le_trans Z0 K1548.1) f1550 f1_1548 f2_1548 f3_1548 f4_1548 f5_1548 f6_1548 naA naB nAB g_q gA gB (by decide)) (own_W43 hw) (own_W2 hw) 0 (by decide) (by decide) f1550 eq1555 (mkF m 223 (own_LA3 p1 p2 p3 p4 p5 nn j0 j1 j2 jb q (.val (.int j0)) (.val (.int j1)) (.val (.int j2)) (.val (.int (1 : Int32))) (.val (.int (1 : Int32))) .unset) [(.int (0 : Int32)), (.ref q)]) rfl (by rw [hml]; rfl) [(.int (0 : Int32))] [] rfl (lenOf own_pd__I_V rfl) rfl (Nat.le_refl _) (Jvm.hb hby at_223) (by decide) (by decide)
      have N1557 := Fr.app N1555 Nq1557
      have K1557 : Keep h0 T1557.heap [] := K1548.trans Kq1557 (allS (Or.inr sz_q) (allS (Or.inr sz_A) (allS (Or.inr sz_B) (all0))))
      have pre1558 := fun (τ : State) kt => pre1556 τ (by
        refine XS.istore X1555.here hx rfl (Jvm.hb hby at_218) rfl (l' := (own_LA3 p1 p2 p3 p4 p5 nn j0 j1 j2 jb q (.val (.int j0)) (.val (.int j1)) (.val (.int j2)) (.val (.int (1 : Int32))) (.val (.int (1 : Int32))) .unset)) rfl ?_
        refine XS.aload X1555.here hx rfl (Jvm.hb hby at_220) rfl rfl ?_
        refine XS.iconst X1555.here hx rfl (Jvm.hb hby at_222) ?_
        exact st1557 τ kt)
      have f1559 := f1550.keep Kq1557
      obtain ⟨_, T1560, L1560, X1560, ⟨rfl, Nq1560, eq1560⟩, st1560⟩ := own_virt (y := own_mn3) (b := q) X1557 hx hZ hown (own_W24 hw) (own_W25 hw) (own_W27 hw) (own_W26 hw) (by decide) (rmMax_12 l Z a0 hw [] q A B kA kB (0 : Int32) (0 : Int32) (2 : Int32) (0 : UInt64) (FP.i2d j0) (FP.i2d j2) T1557.heap n0 (Nat.le_trans Z0 K1557.1) f1559 f1_1557 f2_1557 f3_1557 f4_1557 f5_1557 f6_1557 naA naB nAB g_q gA gB) (own_W28 hw) (own_W2 hw) 0 (by decide) (by decide) f1559 rfl (mkF m 228 (own_LA3 p1 p2 p3 p4 p5 nn j0 j1 j2 jb q (.val (.int j0)) (.val (.int j1)) (.val (.int j2)) (.val (.int (1 : Int32))) (.val (.int (1 : Int32))) .unset) [(.ref q)]) rfl (by rw [hml]; rfl) [] [] rfl (lenOf own_pd___D rfl) rfl (Nat.le_refl _) (Jvm.hb hby at_228) (by decide) (by decide)
      have N1560 := Fr.app N1557 Nq1560
      have pre1561 := fun (τ : State) kt => pre1558 τ (by
        refine XS.aload X1557.here hx rfl (Jvm.hb hby at_226) rfl rfl ?_
        exact st1560 τ kt)
      obtain ⟨_, T1562, L1562, X1562, ⟨rfl, Nq1562, eq1562⟩, st1562⟩ := own_stat (y := own_mn5) X1560 hx hZ hown (own_W34 hw) (own_W35 hw) (by decide) (rmE2 l Z a0 hw [] (FP.i2d j0) j0 jb T1557.heap n0 (Nat.le_trans Z0 K1557.1) (own_ne100 (by (try simp only [own_max_int, own_m100]); omega)) (own_eq (by simp only [own_max_int, own_min_int, own_m100]; omega) _)) (own_W37 hw) (own_W36 hw) 0 (by decide) (by decide) eq1560 (mkF m 235 (own_LA3 p1 p2 p3 p4 p5 nn j0 j1 j2 jb q (.val (.int j0)) (.val (.int j1)) (.val (.int j2)) (.val (.int (1 : Int32))) (.val (.int (1 : Int32))) .unset) [(.int jb), (.int j0), (.double (FP.i2d j0))]) rfl (by rw [hml]; rfl) [(.double (FP.i2d j0)), (.int j0), (.int jb)] [] rfl (lenOf own_pd__DII_Z rfl) rfl (Nat.le_refl _) (Jvm.hb hby at_235) (by decide) (by decide)
      have N1562 := Fr.app N1560 Nq1562
      have pre1563 := fun (τ : State) kt => pre1561 τ (by
        refine XS.iload X1560.here hx rfl (Jvm.hb hby at_231) rfl ?_
        refine XS.iload X1560.here hx rfl (Jvm.hb hby at_233) rfl ?_
        exact st1562 τ kt)
      have pre1564 := fun (τ : State) kt => pre1563 τ (by
        refine XS.istore X1562.here hx rfl (Jvm.hb hby at_238) rfl (l' := (own_LA3 p1 p2 p3 p4 p5 nn j0 j1 j2 jb q (.val (.int j0)) (.val (.int j1)) (.val (.int j2)) (.val (.int (1 : Int32))) (.val (.int (1 : Int32))) (.val (.int (1 : Int32))))) rfl ?_
        refine XS.iload X1562.here hx rfl (Jvm.hb hby at_240) rfl ?_
        refine XS.ifNo X1562.here hx rfl (Jvm.hb hby at_242) rfl ((if0 _ _).trans (feq (by decide)).1) ?_
        refine XS.iload X1562.here hx rfl (Jvm.hb hby at_245) rfl ?_
        refine XS.ifNo X1562.here hx rfl (Jvm.hb hby at_247) rfl ((if0 _ _).trans (feq (by decide)).1) ?_
        refine XS.iload X1562.here hx rfl (Jvm.hb hby at_250) rfl ?_
        refine XS.ifNo X1562.here hx rfl (Jvm.hb hby at_252) rfl ((if0 _ _).trans (feq (by decide)).1) ?_
        refine XS.iconst X1562.here hx rfl (Jvm.hb hby at_255) ?_
        refine XS.goto X1562.here hx rfl (pc0 := 256) (pc' := 260) rfl (Jvm.hb hby at_256) (by decide) (by decide) ?_
        exact kt)
      obtain ⟨fs, hrL, hrun, hended, hW, hsame⟩ := X1562.leave (v := some (.int (1 : Int32))) (fun h => by rw [Bd.returns] at h; cases h)
      refine ⟨_, _, cast (congrFun hPS _) (pre1564 _ ?_), hrun, hended, _, _, rfl, ?_, ⟨_, rfl⟩, hW, hsame.mono (by decide) (by decide)⟩
      · show Steps p.tables e below (T1562.setTop (mkF m 260 (own_LA3 p1 p2 p3 p4 p5 nn j0 j1 j2 jb q (.val (.int j0)) (.val (.int j1)) (.val (.int j2)) (.val (.int (1 : Int32))) (.val (.int (1 : Int32))) (.val (.int (1 : Int32)))) [(.int (1 : Int32))])) _
        exact retN X1562 hx (t := .boolean) Bd.returns (by simp) (Jvm.hb hby at_260) hrL
      · show Q0 n0 _ T1562.heap _
        exact ⟨rfl, N1562⟩
    have f1640 := f797.keep Kq798
    obtain ⟨_, T1641, L1641, X1641, ⟨rfl, Nq1641, Kq1641, f1_1641, f2_1641, f3_1641, f4_1641, f5_1641, f6_1641⟩, st1641⟩ := own_virt (y := own_mn7) (b := q) X798 hx hZ hown (own_W44 hw) (own_W45 hw) (own_W47 hw) (own_W46 hw) (by decide) (rmAdd_13_cce l Z a0 hw [] q (0 : Int32) (FP.i2d j0) A B kA kB (0 : Int32) (1 : Int32) (2 : Int32) (0 : UInt64) (FP.i2d j1) (FP.i2d j2) T798.heap n0 (Nat.le_trans Z0 K798.1) f1640 f1_798 f2_798 f3_798 f4_798 f5_798 f6_798 naA naB nAB g_q gA gB (fun z => qa801 ((own_gt _ _ _).mp z)) (fun z => qa1380 ((own_gt _ _ _).mp z))) (own_W48 hw) (own_W2 hw) 0 (by decide) (by decide) f1640 rfl (mkF m 118 (own_LA3 p1 p2 p3 p4 p5 nn j0 j1 j2 jb q .unset .unset .unset .unset .unset .unset) [(.double (FP.i2d j0)), (.int (0 : Int32)), (.ref q)]) rfl (by rw [hml]; rfl) [(.int (0 : Int32)), (.double (FP.i2d j0))] [] rfl (lenOf own_pd__ID_V rfl) rfl (Nat.le_refl _) (Jvm.hb hby at_118) (by decide) (by decide)
    have N1641 := Fr.app N798 Nq1641
    have K1641 : Keep h0 T1641.heap [] := K798.trans Kq1641 (allS (Or.inr sz_q) (allS (Or.inr sz_A) (allS (Or.inr sz_B) (all0))))
    have pre1642 := fun (τ : State) kt => pre800 τ (st1641 τ kt)
    have pre1643 := fun (τ : State) kt => pre1642 τ (by
      refine XS.aload X1641.here hx rfl (Jvm.hb hby at_121) rfl rfl ?_
      refine XS.iload X1641.here hx rfl (Jvm.hb hby at_123) rfl ?_
      refine own_i2d X1641.here hx rfl (Jvm.hb hby at_125) rfl ?_
      exact kt)
    by_cases qb1644 : jb.toInt < j0.toInt
    · skip
      have f1645 := f1640.keep Kq1641
      obtain ⟨_, T1646, L1646, X1646, ⟨rfl, Nq1646, Kq1646, f1_1646, f2_1646, f3_1646, f4_1646, f5_1646, f6_1646⟩, st1646⟩ := own_virt (y := own_mn2) (b := q) X1641 hx hZ hown (own_W19 hw) (own_W20 hw) (own_W22 hw) (own_W21 hw) (by decide) (rmCap_23_os l Z a0 hw [] q (FP.i2d jb) A B kA kB (0 : Int32) (1 : Int32) (0 : Int32) (0 : UInt64) (FP.i2d j1) (FP.i2d j0) T1641.heap n0 (Nat.le_trans Z0 K1641.1) f1645 f1_1641 f2_1641 f3_1641 f4_1641 f5_1641 f6_1641 naA naB nAB g_q gA gB ((own_gt _ _ _).mpr qb1644)) (own_W23 hw) (own_W2 hw) 0 (by decide) (by decide) f1645 rfl (mkF m 126 (own_LA3 p1 p2 p3 p4 p5 nn j0 j1 j2 jb q .unset .unset .unset .unset .unset .unset) [(.double (FP.i2d jb)), (.ref q)]) rfl (by rw [hml]; rfl) [(.double (FP.i2d jb))] [] rfl (lenOf own_pd__D_V rfl) rfl (Nat.le_refl _) (Jvm.hb hby at_126) (by decide) (by decide)
      have N1646 := Fr.app N1641 Nq1646
      have K1646 : Keep h0 T1646.heap [] := K1641.trans Kq1646 (allS (Or.inr sz_q) (allS (Or.inr sz_A) (allS (Or.inr sz_B) (all0))))
      have pre1647 := fun (τ : State) kt => pre1643 τ (st1646 τ kt)
      have f1648 := f1645.keep Kq1646
      obtain ⟨_, T1649, L1649, X1649, ⟨rfl, Nq1649, eq1649⟩, st1649⟩ := own_virt (y := own_mn3) (b := q) X1646 hx hZ hown (own_W24 hw) (own_W25 hw) (own_W27 hw) (own_W26 hw) (by decide) (rmMax_23 l Z a0 hw [] q A B kA kB (0 : Int32) (1 : Int32) (0 : Int32) (0 : UInt64) (FP.i2d j1) (FP.i2d jb) T1646.heap n0 (Nat.le_trans Z0 K1646.1) f1648 f1_1646 f2_1646 f3_1646 f4_1646 f5_1646 f6_1646 naA naB nAB g_q gA gB) (own_W28 hw) (own_W2 hw) 0 (by decide) (by decide) f1648 rfl (mkF m 173 (own_LA3 p1 p2 p3 p4 p5 nn j0 j1 j2 jb q (.val (.int j0)) (.val (.int j1)) (.val (.int j2)) .unset .unset .unset) [(.ref q)]) rfl (by rw [hml]; rfl) [] [] rfl (lenOf own_pd___D rfl) rfl (Nat.le_refl _) (Jvm.hb hby at_173) (by decide) (by decide)
      have N1649 := Fr.app N1646 Nq1649
      have pre1650 := fun (τ : State) kt => pre1647 τ (by
        refine XS.iload X1646.here hx rfl (Jvm.hb hby at_129) rfl ?_
        refine XS.ifNo X1646.here hx rfl (Jvm.hb hby at_131) rfl ((if0 _ _).trans (feq (by decide)).1) ?_
        refine XS.iload X1646.here hx rfl (Jvm.hb hby at_134) rfl ?_
        refine XS.goto X1646.here hx rfl (pc0 := 136) (pc' := 141) rfl (Jvm.hb hby at_136) (by decide) (by decide) ?_
        refine XS.istore X1646.here hx rfl (Jvm.hb hby at_141) rfl (l' := (own_LA3 p1 p2 p3 p4 p5 nn j0 j1 j2 jb q (.val (.int j0)) .unset .unset .unset .unset .unset)) rfl ?_
        refine XS.iload X1646.here hx rfl (Jvm.hb hby at_143) rfl ?_
        refine XS.ifNo X1646.here hx rfl (Jvm.hb hby at_145) rfl ((if0 _ _).trans (feq (by decide)).1) ?_
        refine XS.iload X1646.here hx rfl (Jvm.hb hby at_148) rfl ?_
        refine XS.goto X1646.here hx rfl (pc0 := 150) (pc' := 155) rfl (Jvm.hb hby at_150) (by decide) (by decide) ?_
        refine XS.istore X1646.here hx rfl (Jvm.hb hby at_155) rfl (l' := (own_LA3 p1 p2 p3 p4 p5 nn j0 j1 j2 jb q (.val (.int j0)) (.val (.int j1)) .unset .unset .unset .unset)) rfl ?_
        refine XS.iload X1646.here hx rfl (Jvm.hb hby at_157) rfl ?_
        refine XS.ifNo X1646.here hx rfl (Jvm.hb hby at_159) rfl ((if0 _ _).trans (feq (by decide)).1) ?_
        refine XS.iload X1646.here hx rfl (Jvm.hb hby at_162) rfl ?_
        refine XS.goto X1646.here hx rfl (pc0 := 164) (pc' := 169) rfl (Jvm.hb hby at_164) (by decide) (by decide) ?_
        refine XS.istore X1646.here hx rfl (Jvm.hb hby at_169) rfl (l' := (own_LA3 p1 p2 p3 p4 p5 nn j0 j1 j2 jb q (.val (.int j0)) (.val (.int j1)) (.val (.int j2)) .unset .unset .unset)) rfl ?_
        refine XS.aload X1646.here hx rfl (Jvm.hb hby at_171) rfl rfl ?_
        exact st1649 τ kt)
      obtain ⟨_, T1651, L1651, X1651, ⟨rfl, Nq1651, eq1651⟩, st1651⟩ := own_stat (y := own_mn4) X1649 hx hZ hown (own_W30 hw) (own_W31 hw) (by decide) (rm_max l Z a0 hw [] j1 j2 T1646.heap n0 (Nat.le_trans Z0 K1646.1)) (own_W33 hw) (own_W32 hw) 3 (by decide) (by decide) eq1649 (mkF m 182 (own_LA3 p1 p2 p3 p4 p5 nn j0 j1 j2 jb q (.val (.int j0)) (.val (.int j1)) (.val (.int j2)) .unset .unset .unset) [(.int j2), (.int j1), (.int j0), (.double (FP.i2d jb))]) rfl (by rw [hml]; rfl) [(.int j1), (.int j2)] [(.int j0), (.double (FP.i2d jb))] rfl (lenOf own_pd__II_I rfl) rfl (Nat.le_refl _) (Jvm.hb hby at_182) (by decide) (by decide)
      have N1651 := Fr.app N1649 Nq1651
      have pre1652 := fun (τ : State) kt => pre1650 τ (by
        refine XS.iload X1649.here hx rfl (Jvm.hb hby at_176) rfl ?_
        refine XS.iload X1649.here hx rfl (Jvm.hb hby at_178) rfl ?_
        refine XS.iload X1649.here hx rfl (Jvm.hb hby at_180) rfl ?_
        exact st1651 τ kt)
      obtain ⟨_, T1653, L1653, X1653, ⟨rfl, Nq1653, eq1653⟩, st1653⟩ := own_stat (y := own_mn4) X1651 hx hZ hown (own_W30 hw) (own_W31 hw) (by decide) (rm_max l Z a0 hw [] j0 (own_max j1 j2) T1646.heap n0 (Nat.le_trans Z0 K1646.1)) (own_W33 hw) (own_W32 hw) 2 (by decide) (by decide) eq1651 (mkF m 185 (own_LA3 p1 p2 p3 p4 p5 nn j0 j1 j2 jb q (.val (.int j0)) (.val (.int j1)) (.val (.int j2)) .unset .unset .unset) [(.int (own_max j1 j2)), (.int j0), (.double (FP.i2d jb))]) rfl (by rw [hml]; rfl) [(.int j0), (.int (own_max j1 j2))] [(.double (FP.i2d jb))] rfl (lenOf own_pd__II_I rfl) rfl (Nat.le_refl _) (Jvm.hb hby at_185) (by decide) (by decide)
      have N1653 := Fr.app N1651 Nq1653
      have pre1654 := fun (τ : State) kt => pre1652 τ (st1653 τ kt)
      obtain ⟨_, T1655, L1655, X1655, ⟨rfl, Nq1655, eq1655⟩, st1655⟩ := own_stat (y := own_mn5) X1653 hx hZ hown (own_W34 hw) (own_W35 hw) (by decide) (rmE2 l Z a0 hw [] (FP.i2d jb) (own_max j0 (own_max j1 j2)) jb T1646.heap n0 (Nat.le_trans Z0 K1646.1) (own_ne100 (by (try simp only [own_max_int, own_m100]); omega)) (own_eq (by simp only [own_max_int, own_min_int, own_m100]; omega) _)) (own_W37 hw) (own_W36 hw) 0 (by decide) (by decide) eq1653 (mkF m 190 (own_LA3 p1 p2 p3 p4 p5 nn j0 j1 j2 jb q (.val (.int j0)) (.val (.int j1)) (.val (.int j2)) .unset .unset .unset) [(.int jb), (.int (own_max j0 (own_max j1 j2))), (.double (FP.i2d jb))]) rfl (by rw [hml]; rfl) [(.double (FP.i2d jb)), (.int (own_max j0 (own_max j1 j2))), (.int jb)] [] rfl (lenOf own_pd__DII_Z rfl) rfl (Nat.le_refl _) (Jvm.hb hby at_190) (by decide) (by decide)
      have N1655 := Fr.app N1653 Nq1655
      have pre1656 := fun (τ : State) kt => pre1654 τ (by
        refine XS.iload X1653.here hx rfl (Jvm.hb hby at_188) rfl ?_
        exact st1655 τ kt)
      obtain ⟨_, T1657, L1657, X1657, ⟨rfl, Nq1657, Kq1657, f1_1657, f2_1657, f3_1657, f4_1657, f5_1657, f6_1657⟩, st1657⟩ := own_virt (y := own_mn6) (b := q) X1655 hx hZ hown (own_W39 hw) (own_W40 hw) (own_W42 hw) (own_W41 hw) (by decide) (rmRem_23_x l Z a0 hw [] q (1 : Int32) A B kA kB (0 : Int32) (1 : Int32) (0 : Int32) (0 : UInt64) (FP.i2d j1) (FP.i2d jb) T1646.heap n0 (Nat.le_trans Z0 K1646.1) f1648 f1_1646 f2_1646 f3_1646 f4_1646 f5_1646 f6_1646 naA naB nAB g_q gA gB (by decide)) (own_W43 hw) (own_W2 hw) 0 (by decide) (by decide) f1648 eq1655 (mkF m 198 (own_LA3 p1 p2 p3 p4 p5 nn j0 j1 j2 jb q (.val (.int j0)) (.val (.int j1)) (.val (.int j2)) (.val (.int (1 : Int32))) .unset .unset) [(.int (1 : Int32)), (.ref q)]) rfl (by rw [hml]; rfl) [(.int (1 : Int32))] [] rfl (lenOf own_pd__I_V rfl) rfl (Nat.le_refl _) (Jvm.hb hby at_198) (by decide) (by decide)
      have N1657 := Fr.app N1655 Nq1657
      have K1657 : Keep h0 T1657.heap [] := K1646.trans Kq1657 (allS (Or.inr sz_q) (allS (Or.inr sz_A) (allS (Or.inr sz_B) (all0))))
      have pre1658 := fun (τ : State) kt => pre1656 τ (by
        refine XS.istore X1655.here hx rfl (Jvm.hb hby at_193) rfl (l' := (own_LA3 p1 p2 p3 p4 p5 nn j0 j1 j2 jb q (.val (.int j0)) (.val (.int j1)) (.val (.int j2)) (.val (.int (1 : Int32))) .unset .unset)) rfl ?_
        refine XS.aload X1655.here hx rfl (Jvm.hb hby at_195) rfl rfl ?_
        refine XS.iconst X1655.here hx rfl (Jvm.hb hby at_197) ?_
        exact st1657 τ kt)
      have f1659 := f1648.keep Kq1657
      obtain ⟨_, T1660, L1660, X1660, ⟨rfl, Nq1660, eq1660⟩, st1660⟩ := own_virt (y := own_mn3) (b := q) X1657 hx hZ hown (own_W24 hw) (own_W25 hw) (own_W27 hw) (own_W26 hw) (by decide) (rmMax_23 l Z a0 hw [] q A B kA kB (0 : Int32) (1 : Int32) (0 : Int32) (0 : UInt64) (FP.i2d j1) (FP.i2d jb) T1657.heap n0 (Nat.le_trans Z0 K1657.1) f1659 f1_1657 f2_1657 f3_1657 f4_1657 f5_1657 f6_1657 naA naB nAB g_q gA gB) (own_W28 hw) (own_W2 hw) 0 (by decide) (by decide) f1659 rfl (mkF m 203 (own_LA3 p1 p2 p3 p4 p5 nn j0 j1 j2 jb q (.val (.int j0)) (.val (.int j1)) (.val (.int j2)) (.val (.int (1 : Int32))) .unset .unset) [(.ref q)]) rfl (by rw [hml]; rfl) [] [] rfl (lenOf own_pd___D rfl) rfl (Nat.le_refl _) (Jvm.hb hby at_203) (by decide) (by decide)
      have N1660 := Fr.app N1657 Nq1660
      have pre1661 := fun (τ : State) kt => pre1658 τ (by
        refine XS.aload X1657.here hx rfl (Jvm.hb hby at_201) rfl rfl ?_
        exact st1660 τ kt)
      obtain ⟨_, T1662, L1662, X1662, ⟨rfl, Nq1662, eq1662⟩, st1662⟩ := own_stat (y := own_mn4) X1660 hx hZ hown (own_W30 hw) (own_W31 hw) (by decide) (rm_max l Z a0 hw [] j0 j1 T1657.heap n0 (Nat.le_trans Z0 K1657.1)) (own_W33 hw) (own_W32 hw) 2 (by decide) (by decide) eq1660 (mkF m 210 (own_LA3 p1 p2 p3 p4 p5 nn j0 j1 j2 jb q (.val (.int j0)) (.val (.int j1)) (.val (.int j2)) (.val (.int (1 : Int32))) .unset .unset) [(.int j1), (.int j0), (.double (FP.i2d jb))]) rfl (by rw [hml]; rfl) [(.int j0), (.int j1)] [(.double (FP.i2d jb))] rfl (lenOf own_pd__II_I rfl) rfl (Nat.le_refl _) (Jvm.hb hby at_210) (by decide) (by decide)
      have N1662 := Fr.app N1660 Nq1662
      have pre1663 := fun (τ : State) kt => pre1661 τ (by
        refine XS.iload X1660.here hx rfl (Jvm.hb hby at_206) rfl ?_
        refine XS.iload X1660.here hx rfl (Jvm.hb hby at_208) rfl ?_
        exact st1662 τ kt)
      obtain ⟨_, T1664, L1664, X1664, ⟨rfl, Nq1664, eq1664⟩, st1664⟩ := own_stat (y := own_mn5) X1662 hx hZ hown (own_W34 hw) (own_W35 hw) (by decide) (rmE2 l Z a0 hw [] (FP.i2d jb) (own_max j0 j1) jb T1657.heap n0 (Nat.le_trans Z0 K1657.1) (own_ne100 (by (try simp only [own_max_int, own_m100]); omega)) (own_eq (by simp only [own_max_int, own_min_int, own_m100]; omega) _)) (own_W37 hw) (own_W36 hw) 0 (by decide) (by decide) eq1662 (mkF m 215 (own_LA3 p1 p2 p3 p4 p5 nn j0 j1 j2 jb q (.val (.int j0)) (.val (.int j1)) (.val (.int j2)) (.val (.int (1 : Int32))) .unset .unset) [(.int jb), (.int (own_max j0 j1)), (.double (FP.i2d jb))]) rfl (by rw [hml]; rfl) [(.double (FP.i2d jb)), (.int (own_max j0 j1)), (.int jb)] [] rfl (lenOf own_pd__DII_Z rfl) rfl (Nat.le_refl _) (Jvm.hb hby at_215) (by decide) (by decide)
      have N1664 := Fr.app N1662 Nq1664
      have pre1665 := fun (τ : State) kt => pre1663 τ (by
        refine XS.iload X1662.here hx rfl (Jvm.hb hby at_213) rfl ?_
        exact st1664 τ kt)
      obtain ⟨_, T1666, L1666, X1666, ⟨rfl, Nq1666, Kq1666, f1_1666, f2_1666, f3_1666, f4_1666, f5_1666, f6_1666⟩, st1666⟩ := own_virt (y := own_mn6) (b := q) X1664 hx hZ hown (own_W39 hw) (own_W40 hw) (own_W42 hw) (own_W41 hw) (by decide) (rmRem_23_x l Z a0 hw [] q (0 : Int32) A B kA kB (0 : Int32) (1 : Int32) (0 : Int32) (0 : UInt64) (FP.i2d j1) (FP.i2d jb) T1657.heap n0 (Nat.le_trans Z0 K1657.1) f1659 f1_1657 f2_1657 f3_1657 f4_1657 f5_1657 f6_1657 naA naB nAB g_q gA gB (by decide)) (own_W43 hw) (own_W2 hw) 0 (by decide) (by decide) f1659 eq1664 (mkF m 223 (own_LA3 p1 p2 p3 p4 p5 nn j0 j1 j2 jb q (.val (.int j0)) (.val (.int j1)) (.val (.int j2)) (.val (.int (1 : Int32))) (.val (.int (1 : Int32))) .unset) [(.int (0 : Int32)), (.ref q)]) rfl (by rw [hml]; rfl) [(.int (0 : Int32))] [] rfl (lenOf own_pd__I_V rfl) rfl (Nat.le_refl _) (Jvm.hb hby at_223) (by decide) (by decide)
      have N1666 := Fr.app N1664 Nq1666
      have K1666 : Keep h0 T1666.heap [] := K1657.trans Kq1666 (allS (Or.inr sz_q) (allS (Or.inr sz_A) (allS (Or.inr sz_B) (all0))))
      have pre1667 := fun (τ : State) kt => pre1665 τ (by
        refine XS.istore X1664.here hx rfl (Jvm.hb hby at_218) rfl (l' := (own_LA3 p1 p2 p3 p4 p5 nn j0 j1 j2 jb q (.val (.int j0)) (.val (.int j1)) (.val (.int j2)) (.val (.int (1 : Int32))) (.val (.int (1 : Int32))) .unset)) rfl ?_
        refine XS.aload X1664.here hx rfl (Jvm.hb hby at_220) rfl rfl ?_
        refine XS.iconst X1664.here hx rfl (Jvm.hb hby at_222) ?_
        exact st1666 τ kt)
      have f1668 := f1659.keep Kq1666
      obtain ⟨_, T1669, L1669, X1669, ⟨rfl, Nq1669, eq1669⟩, st1669⟩ := own_virt (y := own_mn3) (b := q) X1666 hx hZ hown (own_W24 hw) (own_W25 hw) (own_W27 hw) (own_W26 hw) (by decide) (rmMax_23 l Z a0 hw [] q A B kA kB (0 : Int32) (1 : Int32) (0 : Int32) (0 : UInt64) (FP.i2d j1) (FP.i2d jb) T1666.heap n0 (Nat.le_trans Z0 K1666.1) f1668 f1_1666 f2_1666 f3_1666 f4_1666 f5_1666 f6_1666 naA naB nAB g_q gA gB) (own_W28 hw) (own_W2 hw) 0 (by decide) (by decide) f1668 rfl (mkF m 228 (own_LA3 p1 p2 p3 p4 p5 nn j0 j1 j2 jb q (.val (.int j0)) (.val (.int j1)) (.val (.int j2)) (.val (.int (1 : Int32))) (.val (.int (1 : Int32))) .unset) [(.ref q)]) rfl (by rw [hml]; rfl) [] [] rfl (lenOf own_pd___D rfl) rfl (Nat.le_refl _) (Jvm.hb hby at_228) (by decide) (by decide)
      have N1669 := Fr.app N1666 Nq1669
      have pre1670 := fun (τ : State) kt => pre1667 τ (by
        refine XS.aload X1666.here hx rfl (Jvm.hb hby at_226) rfl rfl ?_
        exact st1669 τ kt)
      obtain ⟨_, T1671, L1671, X1671, ⟨rfl, Nq1671, eq1671⟩, st1671⟩ := own_stat (y := own_mn5) X1669 hx hZ hown (own_W34 hw) (own_W35 hw) (by decide) (rmE2 l Z a0 hw [] (FP.i2d jb) j0 jb T1666.heap n0 (Nat.le_trans Z0 K1666.1) (own_ne100 (by (try simp only [own_max_int, own_m100]); omega)) (own_eq (by simp only [own_max_int, own_min_int, own_m100]; omega) _)) (own_W37 hw) (own_W36 hw) 0 (by decide) (by decide) eq1669 (mkF m 235 (own_LA3 p1 p2 p3 p4 p5 nn j0 j1 j2 jb q (.val (.int j0)) (.val (.int j1)) (.val (.int j2)) (.val (.int (1 : Int32))) (.val (.int (1 : Int32))) .unset) [(.int jb), (.int j0), (.double (FP.i2d jb))]) rfl (by rw [hml]; rfl) [(.double (FP.i2d jb)), (.int j0), (.int jb)] [] rfl (lenOf own_pd__DII_Z rfl) rfl (Nat.le_refl _) (Jvm.hb hby at_235) (by decide) (by decide)
      have N1671 := Fr.app N1669 Nq1671
      have pre1672 := fun (τ : State) kt => pre1670 τ (by
        refine XS.iload X1669.here hx rfl (Jvm.hb hby at_231) rfl ?_
        refine XS.iload X1669.here hx rfl (Jvm.hb hby at_233) rfl ?_
        exact st1671 τ kt)
      have pre1673 := fun (τ : State) kt => pre1672 τ (by
        refine XS.istore X1671.here hx rfl (Jvm.hb hby at_238) rfl (l' := (own_LA3 p1 p2 p3 p4 p5 nn j0 j1 j2 jb q (.val (.int j0)) (.val (.int j1)) (.val (.int j2)) (.val (.int (1 : Int32))) (.val (.int (1 : Int32))) (.val (.int (1 : Int32))))) rfl ?_
        refine XS.iload X1671.here hx rfl (Jvm.hb hby at_240) rfl ?_
        refine XS.ifNo X1671.here hx rfl (Jvm.hb hby at_242) rfl ((if0 _ _).trans (feq (by decide)).1) ?_
        refine XS.iload X1671.here hx rfl (Jvm.hb hby at_245) rfl ?_
        refine XS.ifNo X1671.here hx rfl (Jvm.hb hby at_247) rfl ((if0 _ _).trans (feq (by decide)).1) ?_
        refine XS.iload X1671.here hx rfl (Jvm.hb hby at_250) rfl ?_
        refine XS.ifNo X1671.here hx rfl (Jvm.hb hby at_252) rfl ((if0 _ _).trans (feq (by decide)).1) ?_
        refine XS.iconst X1671.here hx rfl (Jvm.hb hby at_255) ?_
        refine XS.goto X1671.here hx rfl (pc0 := 256) (pc' := 260) rfl (Jvm.hb hby at_256) (by decide) (by decide) ?_
        exact kt)
      obtain ⟨fs, hrL, hrun, hended, hW, hsame⟩ := X1671.leave (v := some (.int (1 : Int32))) (fun h => by rw [Bd.returns] at h; cases h)
      refine ⟨_, _, cast (congrFun hPS _) (pre1673 _ ?_), hrun, hended, _, _, rfl, ?_, ⟨_, rfl⟩, hW, hsame.mono (by decide) (by decide)⟩
      · show Steps p.tables e below (T1671.setTop (mkF m 260 (own_LA3 p1 p2 p3 p4 p5 nn j0 j1 j2 jb q (.val (.int j0)) (.val (.int j1)) (.val (.int j2)) (.val (.int (1 : Int32))) (.val (.int (1 : Int32))) (.val (.int (1 : Int32)))) [(.int (1 : Int32))])) _
        exact retN X1671 hx (t := .boolean) Bd.returns (by simp) (Jvm.hb hby at_260) hrL
      · show Q0 n0 _ T1671.heap _
        exact ⟨rfl, N1671⟩
    have f1674 := f1640.keep Kq1641
    obtain ⟨_, T1675, L1675, X1675, ⟨rfl, Nq1675, Kq1675, f1_1675, f2_1675, f3_1675, f4_1675, f5_1675, f6_1675⟩, st1675⟩ := own_virt (y := own_mn2) (b := q) X1641 hx hZ hown (own_W19 hw) (own_W20 hw) (own_W22 hw) (own_W21 hw) (by decide) (rmCap_23_ok l Z a0 hw [] q (FP.i2d jb) A B kA kB (0 : Int32) (1 : Int32) (0 : Int32) (0 : UInt64) (FP.i2d j1) (FP.i2d j0) T1641.heap n0 (Nat.le_trans Z0 K1641.1) f1674 f1_1641 f2_1641 f3_1641 f4_1641 f5_1641 f6_1641 naA naB nAB g_q gA gB (fun z => qb1644 ((own_gt _ _ _).mp z))) (own_W23 hw) (own_W2 hw) 0 (by decide) (by decide) f1674 rfl (mkF m 126 (own_LA3 p1 p2 p3 p4 p5 nn j0 j1 j2 jb q .unset .unset .unset .unset .unset .unset) [(.double (FP.i2d jb)), (.ref q)]) rfl (by rw [hml]; rfl) [(.double (FP.i2d jb))] [] rfl (lenOf own_pd__D_V rfl) rfl (Nat.le_refl _) (Jvm.hb hby at_126) (by decide) (by decide)
    have N1675 := Fr.app N1641 Nq1675
    have K1675 : Keep h0 T1675.heap [] := K1641.trans Kq1675 (allS (Or.inr sz_q) (allS (Or.inr sz_A) (allS (Or.inr sz_B) (all0))))
    have pre1676 := fun (τ : State) kt => pre1643 τ (st1675 τ kt)
    have f1677 := f1674.keep Kq1675
    obtain ⟨_, T1678, L1678, X1678, ⟨rfl, Nq1678, eq1678⟩, st1678⟩ := own_virt (y := own_mn3) (b := q) X1675 hx hZ hown (own_W24 hw) (own_W25 hw) (own_W27 hw) (own_W26 hw) (by decide) (rmMax_23 l Z a0 hw [] q A B kA kB (0 : Int32) (1 : Int32) (0 : Int32) (0 : UInt64) (FP.i2d j1) (FP.i2d j0) T1675.heap n0 (Nat.le_trans Z0 K1675.1) f1677 f1_1675 f2_1675 f3_1675 f4_1675 f5_1675 f6_1675 naA naB nAB g_q gA gB) (own_W28 hw) (own_W2 hw) 0 (by decide) (by decide) f1677 rfl (mkF m 173 (own_LA3 p1 p2 p3 p4 p5 nn j0 j1 j2 jb q (.val (.int j0)) (.val (.int j1)) (.val (.int j2)) .unset .unset .unset) [(.ref q)]) rfl (by rw [hml]; rfl) [] [] rfl (lenOf own_pd___D rfl) rfl (Nat.le_refl _) (Jvm.hb hby at_173) (by decide) (by decide)
    have N1678 := Fr.app N1675 Nq1678
    have pre1679 := fun (τ : State) kt => pre1676 τ (by
      refine XS.iload X1675.here hx rfl (Jvm.hb hby at_129) rfl ?_
      refine XS.ifNo X1675.here hx rfl (Jvm.hb hby at_131) rfl ((if0 _ _).trans (feq (by decide)).1) ?_
      refine XS.iload X1675.here hx rfl (Jvm.hb hby at_134) rfl ?_
      refine XS.goto X1675.here hx rfl (pc0 := 136) (pc' := 141) rfl (Jvm.hb hby at_136) (by decide) (by decide) ?_
      refine XS.istore X1675.here hx rfl (Jvm.hb hby at_141) rfl (l' := (own_LA3 p1 p2 p3 p4 p5 nn j0 j1 j2 jb q (.val (.int j0)) .unset .unset .unset .unset .unset)) rfl ?_
      refine XS.iload X1675.here hx rfl (Jvm.hb hby at_143) rfl ?_
      refine XS.ifNo X1675.here hx rfl (Jvm.hb hby at_145) rfl ((if0 _ _).trans (feq (by decide)).1) ?_
      refine XS.iload X1675.here hx rfl (Jvm.hb hby at_148) rfl ?_
      refine XS.goto X1675.here hx rfl (pc0 := 150) (pc' := 155) rfl (Jvm.hb hby at_150) (by decide) (by decide) ?_
      refine XS.istore X1675.here hx rfl (Jvm.hb hby at_155) rfl (l' := (own_LA3 p1 p2 p3 p4 p5 nn j0 j1 j2 jb q (.val (.int j0)) (.val (.int j1)) .unset .unset .unset .unset)) rfl ?_
      refine XS.iload X1675.here hx rfl (Jvm.hb hby at_157) rfl ?_
      refine XS.ifNo X1675.here hx rfl (Jvm.hb hby at_159) rfl ((if0 _ _).trans (feq (by decide)).1) ?_
      refine XS.iload X1675.here hx rfl (Jvm.hb hby at_162) rfl ?_
      refine XS.goto X1675.here hx rfl (pc0 := 164) (pc' := 169) rfl (Jvm.hb hby at_164) (by decide) (by decide) ?_
      refine XS.istore X1675.here hx rfl (Jvm.hb hby at_169) rfl (l' := (own_LA3 p1 p2 p3 p4 p5 nn j0 j1 j2 jb q (.val (.int j0)) (.val (.int j1)) (.val (.int j2)) .unset .unset .unset)) rfl ?_
      refine XS.aload X1675.here hx rfl (Jvm.hb hby at_171) rfl rfl ?_
      exact st1678 τ kt)
    obtain ⟨_, T1680, L1680, X1680, ⟨rfl, Nq1680, eq1680⟩, st1680⟩ := own_stat (y := own_mn4) X1678 hx hZ hown (own_W30 hw) (own_W31 hw) (by decide) (rm_max l Z a0 hw [] j1 j2 T1675.heap n0 (Nat.le_trans Z0 K1675.1)) (own_W33 hw) (own_W32 hw) 3 (by decide) (by decide) eq1678 (mkF m 182 (own_LA3 p1 p2 p3 p4 p5 nn j0 j1 j2 jb q (.val (.int j0)) (.val (.int j1)) (.val (.int j2)) .unset .unset .unset) [(.int j2), (.int j1), (.int j0), (.double (FP.i2d j0))]) rfl (by rw [hml]; rfl) [(.int j1), (.int j2)] [(.int j0), (.double (FP.i2d j0))] rfl (lenOf own_pd__II_I rfl) rfl (Nat.le_refl _) (Jvm.hb hby at_182) (by decide) (by decide)
    have N1680 := Fr.app N1678 Nq1680
    have pre1681 := fun (τ : State) kt => pre1679 τ (by
      refine XS.iload X1678.here hx rfl (Jvm.hb hby at_176) rfl ?_
      refine XS.iload X1678.here hx rfl (Jvm.hb hby at_178) rfl ?_
      refine XS.iload X1678.here hx rfl (Jvm.hb hby at_180) rfl ?_
      exact st1680 τ kt)
    obtain ⟨_, T1682, L1682, X1682, ⟨rfl, Nq1682, eq1682⟩, st1682⟩ := own_stat (y := own_mn4) X1680 hx hZ hown (own_W30 hw) (own_W31 hw) (by decide) (rm_max l Z a0 hw [] j0 (own_max j1 j2) T1675.heap n0 (Nat.le_trans Z0 K1675.1)) (own_W33 hw) (own_W32 hw) 2 (by decide) (by decide) eq1680 (mkF m 185 (own_LA3 p1 p2 p3 p4 p5 nn j0 j1 j2 jb q (.val (.int j0)) (.val (.int j1)) (.val (.int j2)) .unset .unset .unset) [(.int (own_max j1 j2)), (.int j0), (.double (FP.i2d j0))]) rfl (by rw [hml]; rfl) [(.int j0), (.int (own_max j1 j2))] [(.double (FP.i2d j0))] rfl (lenOf own_pd__II_I rfl) rfl (Nat.le_refl _) (Jvm.hb hby at_185) (by decide) (by decide)
    have N1682 := Fr.app N1680 Nq1682
    have pre1683 := fun (τ : State) kt => pre1681 τ (st1682 τ kt)
    obtain ⟨_, T1684, L1684, X1684, ⟨rfl, Nq1684, eq1684⟩, st1684⟩ := own_stat (y := own_mn5) X1682 hx hZ hown (own_W34 hw) (own_W35 hw) (by decide) (rmE2 l Z a0 hw [] (FP.i2d j0) (own_max j0 (own_max j1 j2)) jb T1675.heap n0 (Nat.le_trans Z0 K1675.1) (own_ne100 (by (try simp only [own_max_int, own_m100]); omega)) (own_eq (by simp only [own_max_int, own_min_int, own_m100]; omega) _)) (own_W37 hw) (own_W36 hw) 0 (by decide) (by decide) eq1682 (mkF m 190 (own_LA3 p1 p2 p3 p4 p5 nn j0 j1 j2 jb q (.val (.int j0)) (.val (.int j1)) (.val (.int j2)) .unset .unset .unset) [(.int jb), (.int (own_max j0 (own_max j1 j2))), (.double (FP.i2d j0))]) rfl (by rw [hml]; rfl) [(.double (FP.i2d j0)), (.int (own_max j0 (own_max j1 j2))), (.int jb)] [] rfl (lenOf own_pd__DII_Z rfl) rfl (Nat.le_refl _) (Jvm.hb hby at_190) (by decide) (by decide)
    have N1684 := Fr.app N1682 Nq1684
    have pre1685 := fun (τ : State) kt => pre1683 τ (by
      refine XS.iload X1682.here hx rfl (Jvm.hb hby at_188) rfl ?_
      exact st1684 τ kt)
    obtain ⟨_, T1686, L1686, X1686, ⟨rfl, Nq1686, Kq1686, f1_1686, f2_1686, f3_1686, f4_1686, f5_1686, f6_1686⟩, st1686⟩ := own_virt (y := own_mn6) (b := q) X1684 hx hZ hown (own_W39 hw) (own_W40 hw) (own_W42 hw) (own_W41 hw) (by decide) (rmRem_23_x l Z a0 hw [] q (1 : Int32) A B kA kB (0 : Int32) (1 : Int32) (0 : Int32) (0 : UInt64) (FP.i2d j1) (FP.i2d j0) T1675.heap n0 (Nat.le_trans Z0 K1675.1) f1677 f1_1675 f2_1675 f3_1675 f4_1675 f5_1675 f6_1675 naA naB nAB g_q gA gB (by decide)) (own_W43 hw) (own_W2 hw) 0 (by decide) (by decide) f1677 eq1684 (mkF m 198 (own_LA3 p1 p2 p3 p4 p5 nn j0 j1 j2 jb q (.val (.int j0)) (.val (.int j1)) (.val (.int j2)) (.val (.int (1 : Int32))) .unset .unset) [(.int (1 : Int32)), (.ref q)]) rfl (by rw [hml]; rfl) [(.int (1 : Int32))] [] rfl (lenOf own_pd__I_V rfl) rfl (Nat.le_refl _) (Jvm.hb hby at_198) (by decide) (by decide)
    have N1686 := Fr.app N1684 Nq1686
    have K1686 : Keep h0 T1686.heap [] := K1675.trans Kq1686 (allS (Or.inr sz_q) (allS (Or.inr sz_A) (allS (Or.inr sz_B) (all0))))
    have pre1687 := fun (τ : State) kt => pre1685 τ (by
      refine XS.istore X1684.here hx rfl (Jvm.hb hby at_193) rfl (l' := (own_LA3 p1 p2 p3 p4 p5 nn j0 j1 j2 jb q (.val (.int j0)) (.val (.int j1)) (.val (.int j2)) (.val (.int (1 : Int32))) .unset .unset)) rfl ?_
      refine XS.aload X1684.here hx rfl (Jvm.hb hby at_195) rfl rfl ?_
      refine XS.iconst X1684.here hx rfl (Jvm.hb hby at_197) ?_
      exact st1686 τ kt)
    have f1688 := f1677.keep Kq1686
    obtain ⟨_, T1689, L1689, X1689, ⟨rfl, Nq1689, eq1689⟩, st1689⟩ := own_virt (y := own_mn3) (b := q) X1686 hx hZ hown (own_W24 hw) (own_W25 hw) (own_W27 hw) (own_W26 hw) (by decide) (rmMax_23 l Z a0 hw [] q A B kA kB (0 : Int32) (1 : Int32) (0 : Int32) (0 : UInt64) (FP.i2d j1) (FP.i2d j0) T1686.heap n0 (Nat.le_trans Z0 K1686.1) f1688 f1_1686 f2_1686 f3_1686 f4_1686 f5_1686 f6_1686 naA naB nAB g_q gA gB) (own_W28 hw) (own_W2 hw) 0 (by decide) (by decide) f1688 rfl (mkF m 203 (own_LA3 p1 p2 p3 p4 p5 nn j0 j1 j2 jb q (.val (.int j0)) (.val (.int j1)) (.val (.int j2)) (.val (.int (1 : Int32))) .unset .unset) [(.ref q)]) rfl (by rw [hml]; rfl) [] [] rfl (lenOf own_pd___D rfl) rfl (Nat.le_refl _) (Jvm.hb hby at_203) (by decide) (by decide)
    have N1689 := Fr.app N1686 Nq1689
    have pre1690 := fun (τ : State) kt => pre1687 τ (by
      refine XS.aload X1686.here hx rfl (Jvm.hb hby at_201) rfl rfl ?_
      exact st1689 τ kt)
    obtain ⟨_, T1691, L1691, X1691, ⟨rfl, Nq1691, eq1691⟩, st1691⟩ := own_stat (y := own_mn4) X1689 hx hZ hown (own_W30 hw) (own_W31 hw) (by decide) (rm_max l Z a0 hw [] j0 j1 T1686.heap n0 (Nat.le_trans Z0 K1686.1)) (own_W33 hw) (own_W32 hw) 2 (by decide) (by decide) eq1689 (mkF m 210 (own_LA3 p1 p2 p3 p4 p5 nn j0 j1 j2 jb q (.val (.int j0)) (.val (.int j1)) (.val (.int j2)) (.val (.int (1 : Int32))) .unset .unset) [(.int j1), (.int j0), (.double (FP.i2d j0))]) rfl (by rw [hml]; rfl) [(.int j0), (.int j1)] [(.double (FP.i2d j0))] rfl (lenOf own_pd__II_I rfl) rfl (Nat.le_refl _) (Jvm.hb hby at_210) (by decide) (by decide)
    have N1691 := Fr.app N1689 Nq1691
    have pre1692 := fun (τ : State) kt => pre1690 τ (by
      refine XS.iload X1689.here hx rfl (Jvm.hb hby at_206) rfl ?_
      refine XS.iload X1689.here hx rfl (Jvm.hb hby at_208) rfl ?_
      exact st1691 τ kt)
    obtain ⟨_, T1693, L1693, X1693, ⟨rfl, Nq1693, eq1693⟩, st1693⟩ := own_stat (y := own_mn5) X1691 hx hZ hown (own_W34 hw) (own_W35 hw) (by decide) (rmE2 l Z a0 hw [] (FP.i2d j0) (own_max j0 j1) jb T1686.heap n0 (Nat.le_trans Z0 K1686.1) (own_ne100 (by (try simp only [own_max_int, own_m100]); omega)) (own_eq (by simp only [own_max_int, own_min_int, own_m100]; omega) _)) (own_W37 hw) (own_W36 hw) 0 (by decide) (by decide) eq1691 (mkF m 215 (own_LA3 p1 p2 p3 p4 p5 nn j0 j1 j2 jb q (.val (.int j0)) (.val (.int j1)) (.val (.int j2)) (.val (.int (1 : Int32))) .unset .unset) [(.int jb), (.int (own_max j0 j1)), (.double (FP.i2d j0))]) rfl (by rw [hml]; rfl) [(.double (FP.i2d j0)), (.int (own_max j0 j1)), (.int jb)] [] rfl (lenOf own_pd__DII_Z rfl) rfl (Nat.le_refl _) (Jvm.hb hby at_215) (by decide) (by decide)
    have N1693 := Fr.app N1691 Nq1693
    have pre1694 := fun (τ : State) kt => pre1692 τ (by
      refine XS.iload X1691.here hx rfl (Jvm.hb hby at_213) rfl ?_
      exact st1693 τ kt)
    obtain ⟨_, T1695, L1695, X1695, ⟨rfl, Nq1695, Kq1695, f1_1695, f2_1695, f3_1695, f4_1695, f5_1695, f6_1695⟩, st1695⟩ := own_virt (y := own_mn6) (b := q) X1693 hx hZ hown (own_W39 hw) (own_W40 hw) (own_W42 hw) (own_W41 hw) (by decide) (rmRem_23_x l Z a0 hw [] q (0 : Int32) A B kA kB (0 : Int32) (1 : Int32) (0 : Int32) (0 : UInt64) (FP.i2d j1) (FP.i2d j0) T1686.heap n0 (Nat.le_trans Z0 K1686.1) f1688 f1_1686 f2_1686 f3_1686 f4_1686 f5_1686 f6_1686 naA naB nAB g_q gA gB (by decide)) (own_W43 hw) (own_W2 hw) 0 (by decide) (by decide) f1688 eq1693 (mkF m 223 (own_LA3 p1 p2 p3 p4 p5 nn j0 j1 j2 jb q (.val (.int j0)) (.val (.int j1)) (.val (.int j2)) (.val (.int (1 : Int32))) (.val (.int (1 : Int32))) .unset) [(.int (0 : Int32)), (.ref q)]) rfl (by rw [hml]; rfl) [(.int (0 : Int32))] [] rfl (lenOf own_pd__I_V rfl) rfl (Nat.le_refl _) (Jvm.hb hby at_223) (by decide) (by decide)
    have N1695 := Fr.app N1693 Nq1695
    have K1695 : Keep h0 T1695.heap [] := K1686.trans Kq1695 (allS (Or.inr sz_q) (allS (Or.inr sz_A) (allS (Or.inr sz_B) (all0))))
    have pre1696 := fun (τ : State) kt => pre1694 τ (by
      refine XS.istore X1693.here hx rfl (Jvm.hb hby at_218) rfl (l' := (own_LA3 p1 p2 p3 p4 p5 nn j0 j1 j2 jb q (.val (.int j0)) (.val (.int j1)) (.val (.int j2)) (.val (.int (1 : Int32))) (.val (.int (1 : Int32))) .unset)) rfl ?_
      refine XS.aload X1693.here hx rfl (Jvm.hb hby at_220) rfl rfl ?_
      refine XS.iconst X1693.here hx rfl (Jvm.hb hby at_222) ?_
      exact st1695 τ kt)
    have f1697 := f1688.keep Kq1695
    obtain ⟨_, T1698, L1698, X1698, ⟨rfl, Nq1698, eq1698⟩, st1698⟩ := own_virt (y := own_mn3) (b := q) X1695 hx hZ hown (own_W24 hw) (own_W25 hw) (own_W27 hw) (own_W26 hw) (by decide) (rmMax_23 l Z a0 hw [] q A B kA kB (0 : Int32) (1 : Int32) (0 : Int32) (0 : UInt64) (FP.i2d j1) (FP.i2d j0) T1695.heap n0 (Nat.le_trans Z0 K1695.1) f1697 f1_1695 f2_1695 f3_1695 f4_1695 f5_1695 f6_1695 naA naB nAB g_q gA gB) (own_W28 hw) (own_W2 hw) 0 (by decide) (by decide) f1697 rfl (mkF m 228 (own_LA3 p1 p2 p3 p4 p5 nn j0 j1 j2 jb q (.val (.int j0)) (.val (.int j1)) (.val (.int j2)) (.val (.int (1 : Int32))) (.val (.int (1 : Int32))) .unset) [(.ref q)]) rfl (by rw [hml]; rfl) [] [] rfl (lenOf own_pd___D rfl) rfl (Nat.le_refl _) (Jvm.hb hby at_228) (by decide) (by decide)
    have N1698 := Fr.app N1695 Nq1698
    have pre1699 := fun (τ : State) kt => pre1696 τ (by
      refine XS.aload X1695.here hx rfl (Jvm.hb hby at_226) rfl rfl ?_
      exact st1698 τ kt)
    obtain ⟨_, T1700, L1700, X1700, ⟨rfl, Nq1700, eq1700⟩, st1700⟩ := own_stat (y := own_mn5) X1698 hx hZ hown (own_W34 hw) (own_W35 hw) (by decide) (rmE2 l Z a0 hw [] (FP.i2d j0) j0 jb T1695.heap n0 (Nat.le_trans Z0 K1695.1) (own_ne100 (by (try simp only [own_max_int, own_m100]); omega)) (own_eq (by simp only [own_max_int, own_min_int, own_m100]; omega) _)) (own_W37 hw) (own_W36 hw) 0 (by decide) (by decide) eq1698 (mkF m 235 (own_LA3 p1 p2 p3 p4 p5 nn j0 j1 j2 jb q (.val (.int j0)) (.val (.int j1)) (.val (.int j2)) (.val (.int (1 : Int32))) (.val (.int (1 : Int32))) .unset) [(.int jb), (.int j0), (.double (FP.i2d j0))]) rfl (by rw [hml]; rfl) [(.double (FP.i2d j0)), (.int j0), (.int jb)] [] rfl (lenOf own_pd__DII_Z rfl) rfl (Nat.le_refl _) (Jvm.hb hby at_235) (by decide) (by decide)
    have N1700 := Fr.app N1698 Nq1700
    have pre1701 := fun (τ : State) kt => pre1699 τ (by
      refine XS.iload X1698.here hx rfl (Jvm.hb hby at_231) rfl ?_
      refine XS.iload X1698.here hx rfl (Jvm.hb hby at_233) rfl ?_
      exact st1700 τ kt)
    have pre1702 := fun (τ : State) kt => pre1701 τ (by
      refine XS.istore X1700.here hx rfl (Jvm.hb hby at_238) rfl (l' := (own_LA3 p1 p2 p3 p4 p5 nn j0 j1 j2 jb q (.val (.int j0)) (.val (.int j1)) (.val (.int j2)) (.val (.int (1 : Int32))) (.val (.int (1 : Int32))) (.val (.int (1 : Int32))))) rfl ?_
      refine XS.iload X1700.here hx rfl (Jvm.hb hby at_240) rfl ?_
      refine XS.ifNo X1700.here hx rfl (Jvm.hb hby at_242) rfl ((if0 _ _).trans (feq (by decide)).1) ?_
      refine XS.iload X1700.here hx rfl (Jvm.hb hby at_245) rfl ?_
      refine XS.ifNo X1700.here hx rfl (Jvm.hb hby at_247) rfl ((if0 _ _).trans (feq (by decide)).1) ?_
      refine XS.iload X1700.here hx rfl (Jvm.hb hby at_250) rfl ?_
      refine XS.ifNo X1700.here hx rfl (Jvm.hb hby at_252) rfl ((if0 _ _).trans (feq (by decide)).1) ?_
      refine XS.iconst X1700.here hx rfl (Jvm.hb hby at_255) ?_
      refine XS.goto X1700.here hx rfl (pc0 := 256) (pc' := 260) rfl (Jvm.hb hby at_256) (by decide) (by decide) ?_
      exact kt)
    obtain ⟨fs, hrL, hrun, hended, hW, hsame⟩ := X1700.leave (v := some (.int (1 : Int32))) (fun h => by rw [Bd.returns] at h; cases h)
    refine ⟨_, _, cast (congrFun hPS _) (pre1702 _ ?_), hrun, hended, _, _, rfl, ?_, ⟨_, rfl⟩, hW, hsame.mono (by decide) (by decide)⟩
    · show Steps p.tables e below (T1700.setTop (mkF m 260 (own_LA3 p1 p2 p3 p4 p5 nn j0 j1 j2 jb q (.val (.int j0)) (.val (.int j1)) (.val (.int j2)) (.val (.int (1 : Int32))) (.val (.int (1 : Int32))) (.val (.int (1 : Int32)))) [(.int (1 : Int32))])) _
      exact retN X1700 hx (t := .boolean) Bd.returns (by simp) (Jvm.hb hby at_260) hrL
    · show Q0 n0 _ T1700.heap _
      exact ⟨rfl, N1700⟩
  have f1703 := f792.keep Kq793
  obtain ⟨_, T1704, L1704, X1704, ⟨rfl, Nq1704, Kq1704, f1_1704, f2_1704, f3_1704, f4_1704, f5_1704, f6_1704⟩, st1704⟩ := own_virt (y := own_mn7) (b := q) X793 hx hZ hown (own_W44 hw) (own_W45 hw) (own_W47 hw) (own_W46 hw) (by decide) (rmAdd_23_ce l Z a0 hw [] q (1 : Int32) (FP.i2d j1) A B kA kB (0 : Int32) (0 : Int32) (2 : Int32) (0 : UInt64) (0 : UInt64) (FP.i2d j2) T793.heap n0 (Nat.le_trans Z0 K793.1) f1703 f1_793 f2_793 f3_793 f4_793 f5_793 f6_793 naA naB nAB g_q gA gB (fun z => qa796 ((own_gt _ _ _).mp z))) (own_W48 hw) (own_W2 hw) 0 (by decide) (by decide) f1703 rfl (mkF m 104 (own_LA3 p1 p2 p3 p4 p5 nn j0 j1 j2 jb q .unset .unset .unset .unset .unset .unset) [(.double (FP.i2d j1)), (.int (1 : Int32)), (.ref q)]) rfl (by rw [hml]; rfl) [(.int (1 : Int32)), (.double (FP.i2d j1))] [] rfl (lenOf own_pd__ID_V rfl) rfl (Nat.le_refl _) (Jvm.hb hby at_104) (by decide) (by decide)
  have N1704 := Fr.app N793 Nq1704
  have K1704 : Keep h0 T1704.heap [] := K793.trans Kq1704 (allS (Or.inr sz_q) (allS (Or.inr sz_A) (allS (Or.inr sz_B) (all0))))
  have pre1705 := fun (τ : State) kt => pre795 τ (st1704 τ kt)
  have pre1706 := fun (τ : State) kt => pre1705 τ (by
    refine XS.iload X1704.here hx rfl (Jvm.hb hby at_107) rfl ?_
    refine XS.ifNo X1704.here hx rfl (Jvm.hb hby at_109) rfl ((if0 _ _).trans (feq (by decide)).1) ?_
    refine XS.aload X1704.here hx rfl (Jvm.hb hby at_112) rfl rfl ?_
    refine XS.iconst X1704.here hx rfl (Jvm.hb hby at_114) ?_
    refine XS.iload X1704.here hx rfl (Jvm.hb hby at_115) rfl ?_
    refine own_i2d X1704.here hx rfl (Jvm.hb hby at_117) rfl ?_
    exact kt)
  by_cases qa1707 : j0.toInt < j1.toInt
  · skip
    have f1708 := f1703.keep Kq1704
    obtain ⟨_, T1709, L1709, X1709, ⟨rfl, Nq1709, Kq1709, f1_1709, f2_1709, f3_1709, f4_1709, f5_1709, f6_1709⟩, st1709⟩ := own_virt (y := own_mn7) (b := q) X1704 hx hZ hown (own_W44 hw) (own_W45 hw) (own_W47 hw) (own_W46 hw) (by decide) (rmAdd_23_x l Z a0 hw [] q (0 : Int32) (FP.i2d j0) A B kA kB (0 : Int32) (0 : Int32) (1 : Int32) (0 : UInt64) (0 : UInt64) (FP.i2d j1) T1704.heap n0 (Nat.le_trans Z0 K1704.1) f1708 f1_1704 f2_1704 f3_1704 f4_1704 f5_1704 f6_1704 naA naB nAB g_q gA gB ((own_gt _ _ _).mpr qa1707)) (own_W48 hw) (own_W2 hw) 0 (by decide) (by decide) f1708 rfl (mkF m 118 (own_LA3 p1 p2 p3 p4 p5 nn j0 j1 j2 jb q .unset .unset .unset .unset .unset .unset) [(.double (FP.i2d j0)), (.int (0 : Int32)), (.ref q)]) rfl (by rw [hml]; rfl) [(.int (0 : Int32)), (.double (FP.i2d j0))] [] rfl (lenOf own_pd__ID_V rfl) rfl (Nat.le_refl _) (Jvm.hb hby at_118) (by decide) (by decide)
    have N1709 := Fr.app N1704 Nq1709
    have K1709 : Keep h0 T1709.heap [] := K1704.trans Kq1709 (allS (Or.inr sz_q) (allS (Or.inr sz_A) (allS (Or.inr sz_B) (all0))))
    have pre1710 := fun (τ : State) kt => pre1706 τ (st1709 τ kt)
    have pre1711 := fun (τ : State) kt => pre1710 τ (by
      refine XS.aload X1709.here hx rfl (Jvm.hb hby at_121) rfl rfl ?_
      refine XS.iload X1709.here hx rfl (Jvm.hb hby at_123) rfl ?_
      refine own_i2d X1709.here hx rfl (Jvm.hb hby at_125) rfl ?_
      exact kt)
    by_cases qc1712 : j0.toInt < jb.toInt
    · skip
      by_cases qb1713 : jb.toInt < j1.toInt
      · skip
        have f1714 := f1708.keep Kq1709
        obtain ⟨_, T1715, L1715, X1715, ⟨rfl, Nq1715, Kq1715, f1_1715, f2_1715, f3_1715, f4_1715, f5_1715, f6_1715⟩, st1715⟩ := own_virt (y := own_mn2) (b := q) X1709 hx hZ hown (own_W19 hw) (own_W20 hw) (own_W22 hw) (own_W21 hw) (by decide) (rmCap_13_xs l Z a0 hw [] q (FP.i2d jb) A B kA kB (0 : Int32) (0 : Int32) (1 : Int32) (0 : UInt64) (FP.i2d j0) (FP.i2d j1) T1709.heap n0 (Nat.le_trans Z0 K1709.1) f1714 f1_1709 f2_1709 f3_1709 f4_1709 f5_1709 f6_1709 naA naB nAB g_q gA gB ((own_lt _ _ _).mpr qc1712) ((own_gt _ _ _).mpr qb1713)) (own_W23 hw) (own_W2 hw) 0 (by decide) (by decide) f1714 rfl (mkF m 126 (own_LA3 p1 p2 p3 p4 p5 nn j0 j1 j2 jb q .unset .unset .unset .unset .unset .unset) [(.double (FP.i2d jb)), (.ref q)]) rfl (by rw [hml]; rfl) [(.double (FP.i2d jb))] [] rfl (lenOf own_pd__D_V rfl) rfl (Nat.le_refl _) (Jvm.hb hby at_126) (by decide) (by decide)
        have N1715 := Fr.app N1709 Nq1715
        have K1715 : Keep h0 T1715.heap [] := K1709.trans Kq1715 (allS (Or.inr sz_q) (allS (Or.inr sz_A) (allS (Or.inr sz_B) (all0))))
        have pre1716 := fun (τ : State) kt => pre1711 τ (st1715 τ kt)
        have f1717 := f1714.keep Kq1715
        obtain ⟨_, T1718, L1718, X1718, ⟨rfl, Nq1718, eq1718⟩, st1718⟩ := own_virt (y := own_mn3) (b := q) X1715 hx hZ hown (own_W24 hw) (own_W25 hw) (own_W27 hw) (own_W26 hw) (by decide) (rmMax_13 l Z a0 hw [] q A B kA kB (0 : Int32) (0 : Int32) (1 : Int32) (0 : UInt64) (FP.i2d j0) (FP.i2d jb) T1715.heap n0 (Nat.le_trans Z0 K1715.1) f1717 f1_1715 f2_1715 f3_1715 f4_1715 f5_1715 f6_1715 naA naB nAB g_q gA gB) (own_W28 hw) (own_W2 hw) 0 (by decide) (by decide) f1717 rfl (mkF m 173 (own_LA3 p1 p2 p3 p4 p5 nn j0 j1 j2 jb q (.val (.int j0)) (.val (.int j1)) (.val (.int j2)) .unset .unset .unset) [(.ref q)]) rfl (by rw [hml]; rfl) [] [] rfl (lenOf own_pd___D rfl) rfl (Nat.le_refl _) (Jvm.hb hby at_173) (by decide) (by decide)
        have N1718 := Fr.app N1715 Nq1718
        have pre1719 := fun (τ : State) kt => pre1716 τ (by
          refine XS.iload X1715.here hx rfl (Jvm.hb hby at_129) rfl ?_
          refine XS.ifNo X1715.here hx rfl (Jvm.hb hby at_131) rfl ((if0 _ _).trans (feq (by decide)).1) ?_
          refine XS.iload X1715.here hx rfl (Jvm.hb hby at_134) rfl ?_
          refine XS.goto X1715.here hx rfl (pc0 := 136) (pc' := 141) rfl (Jvm.hb hby at_136) (by decide) (by decide) ?_
          refine XS.istore X1715.here hx rfl (Jvm.hb hby at_141) rfl (l' := (own_LA3 p1 p2 p3 p4 p5 nn j0 j1 j2 jb q (.val (.int j0)) .unset .unset .unset .unset .unset)) rfl ?_
          refine XS.iload X1715.here hx rfl (Jvm.hb hby at_143) rfl ?_
          refine XS.ifNo X1715.here hx rfl (Jvm.hb hby at_145) rfl ((if0 _ _).trans (feq (by decide)).1) ?_
          refine XS.iload X1715.here hx rfl (Jvm.hb hby at_148) rfl ?_
          refine XS.goto X1715.here hx rfl (pc0 := 150) (pc' := 155) rfl (Jvm.hb hby at_150) (by decide) (by decide) ?_
          refine XS.istore X1715.here hx rfl (Jvm.hb hby at_155) rfl (l' := (own_LA3 p1 p2 p3 p4 p5 nn j0 j1 j2 jb q (.val (.int j0)) (.val (.int j1)) .unset .unset .unset .unset)) rfl ?_
          refine XS.iload X1715.here hx rfl (Jvm.hb hby at_157) rfl ?_
          refine XS.ifNo X1715.here hx rfl (Jvm.hb hby at_159) rfl ((if0 _ _).trans (feq (by decide)).1) ?_
          refine XS.iload X1715.here hx rfl (Jvm.hb hby at_162) rfl ?_
          refine XS.goto X1715.here hx rfl (pc0 := 164) (pc' := 169) rfl (Jvm.hb hby at_164) (by decide) (by decide) ?_
          refine XS.istore X1715.here hx rfl (Jvm.hb hby at_169) rfl (l' := (own_LA3 p1 p2 p3 p4 p5 nn j0 j1 j2 jb q (.val (.int j0)) (.val (.int j1)) (.val (.int j2)) .unset .unset .unset)) rfl ?_
          refine XS.aload X1715.here hx rfl (Jvm.hb hby at_171) rfl rfl ?_
          exact st1718 τ kt)
        obtain ⟨_, T1720, L1720, X1720, ⟨rfl, Nq1720, eq1720⟩, st1720⟩ := own_stat (y := own_mn4) X1718 hx hZ hown (own_W30 hw) (own_W31 hw) (by decide) (rm_max l Z a0 hw [] j1 j2 T1715.heap n0 (Nat.le_trans Z0 K1715.1)) (own_W33 hw) (own_W32 hw) 3 (by decide) (by decide) eq1718 (mkF m 182 (own_LA3 p1 p2 p3 p4 p5 nn j0 j1 j2 jb q (.val (.int j0)) (.val (.int j1)) (.val (.int j2)) .unset .unset .unset) [(.int j2), (.int j1), (.int j0), (.double (FP.i2d jb))]) rfl (by rw [hml]; rfl) [(.int j1), (.int j2)] [(.int j0), (.double (FP.i2d jb))] rfl (lenOf own_pd__II_I rfl) rfl (Nat.le_refl _) (Jvm.hb hby at_182) (by decide) (by decide)
        have N1720 := Fr.app N1718 Nq1720
        have pre1721 := fun (τ : State) kt => pre1719 τ (by
          refine XS.iload X1718.here hx rfl (Jvm.hb hby at_176) rfl ?_
          refine XS.iload X1718.here hx rfl (Jvm.hb hby at_178) rfl ?_
          refine XS.iload X1718.here hx rfl (Jvm.hb hby at_180) rfl ?_
          exact st1720 τ kt)
        obtain ⟨_, T1722, L1722, X1722, ⟨rfl, Nq1722, eq1722⟩, st1722⟩ := own_stat (y := own_mn4) X1720 hx hZ hown (own_W30 hw) (own_W31 hw) (by decide) (rm_max l Z a0 hw [] j0 (own_max j1 j2) T1715.heap n0 (Nat.le_trans Z0 K1715.1)) (own_W33 hw) (own_W32 hw) 2 (by decide) (by decide) eq1720 (mkF m 185 (own_LA3 p1 p2 p3 p4 p5 nn j0 j1 j2 jb q (.val (.int j0)) (.val (.int j1)) (.val (.int j2)) .unset .unset .unset) [(.int (own_max j1 j2)), (.int j0), (.double (FP.i2d jb))]) rfl (by rw [hml]; rfl) [(.int j0), (.int (own_max j1 j2))] [(.double (FP.i2d jb))] rfl (lenOf own_pd__II_I rfl) rfl (Nat.le_refl _) (Jvm.hb hby at_185) (by decide) (by decide)
        have N1722 := Fr.app N1720 Nq1722
        have pre1723 := fun (τ : State) kt => pre1721 τ (st1722 τ kt)
        obtain ⟨_, T1724, L1724, X1724, ⟨rfl, Nq1724, eq1724⟩, st1724⟩ := own_stat (y := own_mn5) X1722 hx hZ hown (own_W34 hw) (own_W35 hw) (by decide) (rmE2 l Z a0 hw [] (FP.i2d jb) (own_max j0 (own_max j1 j2)) jb T1715.heap n0 (Nat.le_trans Z0 K1715.1) (own_ne100 (by (try simp only [own_max_int, own_m100]); omega)) (own_eq (by simp only [own_max_int, own_min_int, own_m100]; omega) _)) (own_W37 hw) (own_W36 hw) 0 (by decide) (by decide) eq1722 (mkF m 190 (own_LA3 p1 p2 p3 p4 p5 nn j0 j1 j2 jb q (.val (.int j0)) (.val (.int j1)) (.val (.int j2)) .unset .unset .unset) [(.int jb), (.int (own_max j0 (own_max j1 j2))), (.double (FP.i2d jb))]) rfl (by rw [hml]; rfl) [(.double (FP.i2d jb)), (.int (own_max j0 (own_max j1 j2))), (.int jb)] [] rfl (lenOf own_pd__DII_Z rfl) rfl (Nat.le_refl _) (Jvm.hb hby at_190) (by decide) (by decide)
        have N1724 := Fr.app N1722 Nq1724
        have pre1725 := fun (τ : State) kt => pre1723 τ (by
          refine XS.iload X1722.here hx rfl (Jvm.hb hby at_188) rfl ?_
          exact st1724 τ kt)
        obtain ⟨_, T1726, L1726, X1726, ⟨rfl, Nq1726, Kq1726, f1_1726, f2_1726, f3_1726, f4_1726, f5_1726, f6_1726⟩, st1726⟩ := own_virt (y := own_mn6) (b := q) X1724 hx hZ hown (own_W39 hw) (own_W40 hw) (own_W42 hw) (own_W41 hw) (by decide) (rmRem_13_x l Z a0 hw [] q (1 : Int32) A B kA kB (0 : Int32) (0 : Int32) (1 : Int32) (0 : UInt64) (FP.i2d j0) (FP.i2d jb) T1715.heap n0 (Nat.le_trans Z0 K1715.1) f1717 f1_1715 f2_1715 f3_1715 f4_1715 f5_1715 f6_1715 naA naB nAB g_q gA gB (by decide)) (own_W43 hw) (own_W2 hw) 0 (by decide) (by decide) f1717 eq1724 (mkF m 198 (own_LA3 p1 p2 p3 p4 p5 nn j0 j1 j2 jb q (.val (.int j0)) (.val (.int j1)) (.val (.int j2)) (.val (.int (1 : Int32))) .unset .unset) [(.int (1 : Int32)), (.ref q)]) rfl (by rw [hml]; rfl) [(.int (1 : Int32))] [] rfl (lenOf own_pd__I_V rfl) rfl (Nat.le_refl _) (Jvm.hb hby at_198) (by decide) (by decide)
        have N1726 := Fr.app N1724 Nq1726
        have K1726 : Keep h0 T1726.heap [] := K1715.trans Kq1726 (allS (Or.inr sz_q) (allS (Or.inr sz_A) (allS (Or.inr sz_B) (all0))))
        have pre1727 := fun (τ : State) kt => pre1725 τ (by
          refine XS.istore X1724.here hx rfl (Jvm.hb hby at_193) rfl (l' := (own_LA3 p1 p2 p3 p4 p5 nn j0 j1 j2 jb q (.val (.int j0)) (.val (.int j1)) (.val (.int j2)) (.val (.int (1 : Int32))) .unset .unset)) rfl ?_
          refine XS.aload X1724.here hx rfl (Jvm.hb hby at_195) rfl rfl ?_
          refine XS.iconst X1724.here hx rfl (Jvm.hb hby at_197) ?_
          exact st1726 τ kt)
        have f1728 := f1717.keep Kq1726
        obtain ⟨_, T1729, L1729, X1729, ⟨rfl, Nq1729, eq1729⟩, st1729⟩ := own_virt (y := own_mn3) (b := q) X1726 hx hZ hown (own_W24 hw) (own_W25 hw) (own_W27 hw) (own_W26 hw) (by decide) (rmMax_13 l Z a0 hw [] q A B kA kB (0 : Int32) (0 : Int32) (1 : Int32) (0 : UInt64) (FP.i2d j0) (FP.i2d jb) T1726.heap n0 (Nat.le_trans Z0 K1726.1) f1728 f1_1726 f2_1726 f3_1726 f4_1726 f5_1726 f6_1726 naA naB nAB g_q gA gB) (own_W28 hw) (own_W2 hw) 0 (by decide) (by decide) f1728 rfl (mkF m 203 (own_LA3 p1 p2 p3 p4 p5 nn j0 j1 j2 jb q (.val (.int j0)) (.val (.int j1)) (.val (.int j2)) (.val (.int (1 : Int32))) .unset .unset) [(.ref q)]) rfl (by rw [hml]; rfl) [] [] rfl (lenOf own_pd___D rfl) rfl (Nat.le_refl _) (Jvm.hb hby at_203) (by decide) (by decide)
        have N1729 := Fr.app N1726 Nq1729
        have pre1730 := fun (τ : State) kt => pre1727 τ (by
          refine XS.aload X1726.here hx rfl (Jvm.hb hby at_201) rfl rfl ?_
          exact st1729 τ kt)
        obtain ⟨_, T1731, L1731, X1731, ⟨rfl, Nq1731, eq1731⟩, st1731⟩ := own_stat (y := own_mn4) X1729 hx hZ hown (own_W30 hw) (own_W31 hw) (by decide) (rm_max l Z a0 hw [] j0 j1 T1726.heap n0 (Nat.le_trans Z0 K1726.1)) (own_W33 hw) (own_W32 hw) 2 (by decide) (by decide) eq1729 (mkF m 210 (own_LA3 p1 p2 p3 p4 p5 nn j0 j1 j2 jb q (.val (.int j0)) (.val (.int j1)) (.val (.int j2)) (.val (.int (1 : Int32))) .unset .unset) [(.int j1), (.int j0), (.double (FP.i2d jb))]) rfl (by rw [hml]; rfl) [(.int j0), (.int j1)] [(.double (FP.i2d jb))] rfl (lenOf own_pd__II_I rfl) rfl (Nat.le_refl _) (Jvm.hb hby at_210) (by decide) (by decide)
        have N1731 := Fr.app N1729 Nq1731
        have pre1732 := fun (τ : State) kt => pre1730 τ (by
          refine XS.iload X1729.here hx rfl (Jvm.hb hby at_206) rfl ?_
          refine XS.iload X1729.here hx rfl (Jvm.hb hby at_208) rfl ?_
          exact st1731 τ kt)
        obtain ⟨_, T1733, L1733, X1733, ⟨rfl, Nq1733, eq1733⟩, st1733⟩ := own_stat (y := own_mn5) X1731 hx hZ hown (own_W34 hw) (own_W35 hw) (by decide) (rmE2 l Z a0 hw [] (FP.i2d jb) (own_max j0 j1) jb T1726.heap n0 (Nat.le_trans Z0 K1726.1) (own_ne100 (by (try simp only [own_max_int, own_m100]); omega)) (own_eq (by simp only [own_max_int, own_min_int, own_m100]; omega) _)) (own_W37 hw) (own_W36 hw) 0 (by decide) (by decide) eq1731 (mkF m 215 (own_LA3 p1 p2 p3 p4 p5 nn j0 j1 j2 jb q (.val (.int j0)) (.val (.int j1)) (.val (.int j2)) (.val (.int (1 : Int32))) .unset .unset) [(.int jb), (.int (own_max j0 j1)), (.double (FP.i2d jb))]) rfl (by rw [hml]; rfl) [(.double (FP.i2d jb)), (.int (own_max j0 j1)), (.int jb)] [] rfl (lenOf own_pd__DII_Z rfl) rfl (Nat.le_refl _) (Jvm.hb hby at_215) (by decide) (by decide)
        have N1733 := Fr.app N1731 Nq1733
        have pre1734 := fun (τ : State) kt => pre1732 τ (by
          refine XS.iload X1731.here hx rfl (Jvm.hb hby at_213) rfl ?_
          exact st1733 τ kt)
        obtain ⟨_, T1735, L1735, X1735, ⟨rfl, Nq1735, Kq1735, f1_1735, f2_1735, f3_1735, f4_1735, f5_1735, f6_1735⟩, st1735⟩ := own_virt (y := own_mn6) (b := q) X1733 hx hZ hown (own_W39 hw) (own_W40 hw) (own_W42 hw) (own_W41 hw) (by decide) (rmRem_13_cx l Z a0 hw [] q (0 : Int32) A B kA kB (0 : Int32) (0 : Int32) (1 : Int32) (0 : UInt64) (FP.i2d j0) (FP.i2d jb) T1726.heap n0 (Nat.le_trans Z0 K1726.1) f1728 f1_1726 f2_1726 f3_1726 f4_1726 f5_1726 f6_1726 naA naB nAB g_q gA gB (by decide) (by decide)) (own_W43 hw) (own_W2 hw) 0 (by decide) (by decide) f1728 eq1733 (mkF m 223 (own_LA3 p1 p2 p3 p4 p5 nn j0 j1 j2 jb q (.val (.int j0)) (.val (.int j1)) (.val (.int j2)) (.val (.int (1 : Int32))) (.val (.int (1 : Int32))) .unset) [(.int (0 : Int32)), (.ref q)]) rfl (by rw [hml]; rfl) [(.int (0 : Int32))] [] rfl (lenOf own_pd__I_V rfl) rfl (Nat.le_refl _) (Jvm.hb hby at_223) (by decide) (by decide)
        have N1735 := Fr.app N1733 Nq1735
        have K1735 : Keep h0 T1735.heap [] := K1726.trans Kq1735 (allS (Or.inr sz_q) (allS (Or.inr sz_A) (allS (Or.inr sz_B) (all0))))
        have pre1736 := fun (τ : State) kt => pre1734 τ (by
          refine XS.istore X1733.here hx rfl (Jvm.hb hby at_218) rfl (l' := (own_LA3 p1 p2 p3 p4 p5 nn j0 j1 j2 jb q (.val (.int j0)) (.val (.int j1)) (.val (.int j2)) (.val (.int (1 : Int32))) (.val (.int (1 : Int32))) .unset)) rfl ?_
          refine XS.aload X1733.here hx rfl (Jvm.hb hby at_220) rfl rfl ?_
          refine XS.iconst X1733.here hx rfl (Jvm.hb hby at_222) ?_
          exact st1735 τ kt)
        have f1737 := f1728.keep Kq1735
        obtain ⟨_, T1738, L1738, X1738, ⟨rfl, Nq1738, eq1738⟩, st1738⟩ := own_virt (y := own_mn3) (b := q) X1735 hx hZ hown (own_W24 hw) (own_W25 hw) (own_W27 hw) (own_W26 hw) (by decide) (rmMax_12 l Z a0 hw [] q A B kA kB (0 : Int32) (0 : Int32) (1 : Int32) (0 : UInt64) (FP.i2d j0) (FP.i2d jb) T1735.heap n0 (Nat.le_trans Z0 K1735.1) f1737 f1_1735 f2_1735 f3_1735 f4_1735 f5_1735 f6_1735 naA naB nAB g_q gA gB) (own_W28 hw) (own_W2 hw) 0 (by decide) (by decide) f1737 rfl (mkF m 228 (own_LA3 p1 p2 p3 p4 p5 nn j0 j1 j2 jb q (.val (.int j0)) (.val (.int j1)) (.val (.int j2)) (.val (.int (1 : Int32))) (.val (.int (1 : Int32))) .unset) [(.ref q)]) rfl (by rw [hml]; rfl) [] [] rfl (lenOf own_pd___D rfl) rfl (Nat.le_refl _) (Jvm.hb hby at_228) (by decide) (by decide)
        have N1738 := Fr.app N1735 Nq1738
        have pre1739 := fun (τ : State) kt => pre1736 τ (by
          refine XS.aload X1735.here hx rfl (Jvm.hb hby at_226) rfl rfl ?_
          exact st1738 τ kt)
        obtain ⟨_, T1740, L1740, X1740, ⟨rfl, Nq1740, eq1740⟩, st1740⟩ := own_stat (y := own_mn5) X1738 hx hZ hown (own_W34 hw) (own_W35 hw) (by decide) (rmE2 l Z a0 hw [] (FP.i2d j0) j0 jb T1735.heap n0 (Nat.le_trans Z0 K1735.1) (own_ne100 (by (try simp only [own_max_int, own_m100]); omega)) (own_eq (by simp only [own_max_int, own_min_int, own_m100]; omega) _)) (own_W37 hw) (own_W36 hw) 0 (by decide) (by decide) eq1738 (mkF m 235 (own_LA3 p1 p2 p3 p4 p5 nn j0 j1 j2 jb q (.val (.int j0)) (.val (.int j1)) (.val (.int j2)) (.val (.int (1 : Int32))) (.val (.int (1 : Int32))) .unset) [(.int jb), (.int j0), (.double (FP.i2d j0))]) rfl (by rw [hml]; rfl) [(.double (FP.i2d j0)), (.int j0), (.int jb)] [] rfl (lenOf own_pd__DII_Z rfl) rfl (Nat.le_refl _) (Jvm.hb hby at_235) (by decide) (by decide)
        have N1740 := Fr.app N1738 Nq1740
        have pre1741 := fun (τ : State) kt => pre1739 τ (by
          refine XS.iload X1738.here hx rfl (Jvm.hb hby at_231) rfl ?_
          refine XS.iload X1738.here hx rfl (Jvm.hb hby at_233) rfl ?_
          exact st1740 τ kt)
        have pre1742 := fun (τ : State) kt => pre1741 τ (by
          refine XS.istore X1740.here hx rfl (Jvm.hb hby at_238) rfl (l' := (own_LA3 p1 p2 p3 p4 p5 nn j0 j1 j2 jb q (.val (.int j0)) (.val (.int j1)) (.val (.int j2)) (.val (.int (1 : Int32))) (.val (.int (1 : Int32))) (.val (.int (1 : Int32))))) rfl ?_
          refine XS.iload X1740.here hx rfl (Jvm.hb hby at_240) rfl ?_
          refine XS.ifNo X1740.here hx rfl (Jvm.hb hby at_242) rfl ((if0 _ _).trans (feq (by decide)).1) ?_
          refine XS.iload X1740.here hx rfl (Jvm.hb hby at_245) rfl ?_
          refine XS.ifNo X1740.here hx rfl (Jvm.hb hby at_247) rfl ((if0 _ _).trans (feq (by decide)).1) ?_
          refine XS.iload X1740.here hx rfl (Jvm.hb hby at_250) rfl ?_
          refine XS.ifNo X1740.here hx rfl (Jvm.hb hby at_252) rfl ((if0 _ _).trans (feq (by decide)).1) ?_
          refine XS.iconst X1740.here hx rfl (Jvm.hb hby at_255) ?_
          refine XS.goto X1740.here hx rfl (pc0 := 256) (pc' := 260) rfl (Jvm.hb hby at_256) (by decide) (by decide) ?_
          exact kt)
        obtain ⟨fs, hrL, hrun, hended, hW, hsame⟩ := X1740.leave (v := some (.int (1 : Int32))) (fun h => by rw [Bd.returns] at h; cases h)
        refine ⟨_, _, cast (congrFun hPS _) (pre1742 _ ?_), hrun, hended, _, _, rfl, ?_, ⟨_, rfl⟩, hW, hsame.mono (by decide) (by decide)⟩
        · show Steps p.tables e below (T1740.setTop (mkF m 260 (own_LA3 p1 p2 p3 p4 p5 nn j0 j1 j2 jb q (.val (.int j0)) (.val (.int j1)) (.val (.int j2)) (.val (.int (1 : Int32))) (.val (.int (1 : Int32))) (.val (.int (1 : Int32)))) [(.int (1 : Int32))])) _
          exact retN X1740 hx (t := .boolean) Bd.returns (by simp) (Jvm.hb hby at_260) hrL
        · show Q0 n0 _ T1740.heap _
          exact ⟨rfl, N1740⟩
      have f1743 := f1708.keep Kq1709
      obtain ⟨_, T1744, L1744, X1744, ⟨rfl, Nq1744, Kq1744, f1_1744, f2_1744, f3_1744, f4_1744, f5_1744, f6_1744⟩, st1744⟩ := own_virt (y := own_mn2) (b := q) X1709 hx hZ hown (own_W19 hw) (own_W20 hw) (own_W22 hw) (own_W21 hw) (by decide) (rmCap_13_xk l Z a0 hw [] q (FP.i2d jb) A B kA kB (0 : Int32) (0 : Int32) (1 : Int32) (0 : UInt64) (FP.i2d j0) (FP.i2d j1) T1709.heap n0 (Nat.le_trans Z0 K1709.1) f1743 f1_1709 f2_1709 f3_1709 f4_1709 f5_1709 f6_1709 naA naB nAB g_q gA gB ((own_lt _ _ _).mpr qc1712) (fun z => qb1713 ((own_gt _ _ _).mp z))) (own_W23 hw) (own_W2 hw) 0 (by decide) (by decide) f1743 rfl (mkF m 126 (own_LA3 p1 p2 p3 p4 p5 nn j0 j1 j2 jb q .unset .unset .unset .unset .unset .unset) [(.double (FP.i2d jb)), (.ref q)]) rfl (by rw [hml]; rfl) [(.double (FP.i2d jb))] [] rfl (lenOf own_pd__D_V rfl) rfl (Nat.le_refl _) (Jvm.hb hby at_126) (by decide) (by decide)
      have N1744 := Fr.app N1709 Nq1744
      have K1744 : Keep h0 T1744.heap [] := K1709.trans Kq1744 (allS (Or.inr sz_q) (allS (Or.inr sz_A) (allS (Or.inr sz_B) (all0))))
      have pre1745 := fun (τ : State) kt => pre1711 τ (st1744 τ kt)
      have f1746 := f1743.keep Kq1744
      obtain ⟨_, T1747, L1747, X1747, ⟨rfl, Nq1747, eq1747⟩, st1747⟩ := own_virt (y := own_mn3) (b := q) X1744 hx hZ hown (own_W24 hw) (own_W25 hw) (own_W27 hw) (own_W26 hw) (by decide) (rmMax_13 l Z a0 hw [] q A B kA kB (0 : Int32) (0 : Int32) (1 : Int32) (0 : UInt64) (FP.i2d j0) (FP.i2d j1) T1744.heap n0 (Nat.le_trans Z0 K1744.1) f1746 f1_1744 f2_1744 f3_1744 f4_1744 f5_1744 f6_1744 naA naB nAB g_q gA gB) (own_W28 hw) (own_W2 hw) 0 (by decide) (by decide) f1746 rfl (mkF m 173 (own_LA3 p1 p2 p3 p4 p5 nn j0 j1 j2 jb q (.val (.int j0)) (.val (.int j1)) (.val (.int j2)) .unset .unset .unset) [(.ref q)]) rfl (by rw [hml]; rfl) [] [] rfl (lenOf own_pd___D rfl) rfl (Nat.le_refl _) (Jvm.hb hby at_173) (by decide) (by decide)
      have N1747 := Fr.app N1744 Nq1747
      have pre1748 := fun (τ : State) kt => pre1745 τ (by
        refine XS.iload X1744.here hx rfl (Jvm.hb hby at_129) rfl ?_
        refine XS.ifNo X1744.here hx rfl (Jvm.hb hby at_131) rfl ((if0 _ _).trans (feq (by decide)).1) ?_
        refine XS.iload X1744.here hx rfl (Jvm.hb hby at_134) rfl ?_
        refine XS.goto X1744.here hx rfl (pc0 := 136) (pc' := 141) rfl (Jvm.hb hby at_136) (by decide) (by decide) ?_
        refine XS.istore X1744.here hx rfl (Jvm.hb hby at_141) rfl (l' := (own_LA3 p1 p2 p3 p4 p5 nn j0 j1 j2 jb q (.val (.int j0)) .unset .unset .unset .unset .unset)) rfl ?_
        refine XS.iload X1744.here hx rfl (Jvm.hb hby at_143) rfl ?_
        refine XS.ifNo X1744.here hx rfl (Jvm.hb hby at_145) rfl ((if0 _ _).trans (feq (by decide)).1) ?_
        refine XS.iload X1744.here hx rfl (Jvm.hb hby at_148) rfl ?_
        refine XS.goto X1744.here hx rfl (pc0 := 150) (pc' := 155) rfl (Jvm.hb hby at_150) (by decide) (by decide) ?_
        refine XS.istore X1744.here hx rfl (Jvm.hb hby at_155) rfl (l' := (own_LA3 p1 p2 p3 p4 p5 nn j0 j1 j2 jb q (.val (.int j0)) (.val (.int j1)) .unset .unset .unset .unset)) rfl ?_
        refine XS.iload X1744.here hx rfl (Jvm.hb hby at_157) rfl ?_
        refine XS.ifNo X1744.here hx rfl (Jvm.hb hby at_159) rfl ((if0 _ _).trans (feq (by decide)).1) ?_
        refine XS.iload X1744.here hx rfl (Jvm.hb hby at_162) rfl ?_
        refine XS.goto X1744.here hx rfl (pc0 := 164) (pc' := 169) rfl (Jvm.hb hby at_164) (by decide) (by decide) ?_
        refine XS.istore X1744.here hx rfl (Jvm.hb hby at_169) rfl (l' := (own_LA3 p1 p2 p3 p4 p5 nn j0 j1 j2 jb q (.val (.int j0)) (.val (.int j1)) (.val (.int j2)) .unset .unset .unset)) rfl ?_
        refine XS.aload X1744.here hx rfl (Jvm.hb hby at_171) rfl rfl ?_
        exact st1747 τ kt)
      obtain ⟨_, T1749, L1749, X1749, ⟨rfl, Nq1749, eq1749⟩, st1749⟩ := own_stat (y := own_mn4) X1747 hx hZ hown (own_W30 hw) (own_W31 hw) (by decide) (rm_max l Z a0 hw [] j1 j2 T1744.heap n0 (Nat.le_trans Z0 K1744.1)) (own_W33 hw) (own_W32 hw) 3 (by decide) (by decide) eq1747 (mkF m 182 (own_LA3 p1 p2 p3 p4 p5 nn j0 j1 j2 jb q (.val (.int j0)) (.val (.int j1)) (.val (.int j2)) .unset .unset .unset) [(.int j2), (.int j1), (.int j0), (.double (FP.i2d j1))]) rfl (by rw [hml]; rfl) [(.int j1), (.int j2)] [(.int j0), (.double (FP.i2d j1))] rfl (lenOf own_pd__II_I rfl) rfl (Nat.le_refl _) (Jvm.hb hby at_182) (by decide) (by decide)
      have N1749 := Fr.app N1747 Nq1749
      have pre1750 := fun (τ : State) kt => pre1748 τ (by
        refine XS.iload X1747.here hx rfl (Jvm.hb hby at_176) rfl ?_
        refine XS.iload X1747.here hx rfl (Jvm.hb hby at_178) rfl ?_
        refine XS.iload X1747.here hx rfl (Jvm.hb hby at_180) rfl ?_
        exact st1749 τ kt)
      obtain ⟨_, T1751, L1751, X1751, ⟨rfl, Nq1751, eq1751⟩, st1751⟩ := own_stat (y := own_mn4) X1749 hx hZ hown (own_W30 hw) (own_W31 hw) (by decide) (rm_max l Z a0 hw [] j0 (own_max j1 j2) T1744.heap n0 (Nat.le_trans Z0 K1744.1)) (own_W33 hw) (own_W32 hw) 2 (by decide) (by decide) eq1749 (mkF m 185 (own_LA3 p1 p2 p3 p4 p5 nn j0 j1 j2 jb q (.val (.int j0)) (.val (.int j1)) (.val (.int j2)) .unset .unset .unset) [(.int (own_max j1 j2)), (.int j0), (.double (FP.i2d j1))]) rfl (by rw [hml]; rfl) [(.int j0), (.int (own_max j1 j2))] [(.double (FP.i2d j1))] rfl (lenOf own_pd__II_I rfl) rfl (Nat.le_refl _) (Jvm.hb hby at_185) (by decide) (by decide)
      have N1751 := Fr.app N1749 Nq1751
      have pre1752 := fun (τ : State) kt => pre1750 τ (st1751 τ kt)
      obtain ⟨_, T1753, L1753, X1753, ⟨rfl, Nq1753, eq1753⟩, st1753⟩ := own_stat (y := own_mn5) X1751 hx hZ hown (own_W34 hw) (own_W35 hw) (by decide) (rmE2 l Z a0 hw [] (FP.i2d j1) (own_max j0 (own_max j1 j2)) jb T1744.heap n0 (Nat.le_trans Z0 K1744.1) (own_ne100 (by (try simp only [own_max_int, own_m100]); omega)) (own_eq (by simp only [own_max_int, own_min_int, own_m100]; omega) _)) (own_W37 hw) (own_W36 hw) 0 (by decide) (by decide) eq1751 (mkF m 190 (own_LA3 p1 p2 p3 p4 p5 nn j0 j1 j2 jb q (.val (.int j0)) (.val (.int j1)) (.val (.int j2)) .unset .unset .unset) [(.int jb), (.int (own_max j0 (own_max j1 j2))), (.double (FP.i2d j1))]) rfl (by rw [hml]; rfl) [(.double (FP.i2d j1)), (.int (own_max j0 (own_max j1 j2))), (.int jb)] [] rfl (lenOf own_pd__DII_Z rfl) rfl (Nat.le_refl _) (Jvm.hb hby at_190) (by decide) (by decide)
      have N1753 := Fr.app N1751 Nq1753
      have pre1754 := fun (τ : State) kt => pre1752 τ (by
        refine XS.iload X1751.here hx rfl (Jvm.hb hby at_188) rfl ?_
        exact st1753 τ kt)
      obtain ⟨_, T1755, L1755, X1755, ⟨rfl, Nq1755, Kq1755, f1_1755, f2_1755, f3_1755, f4_1755, f5_1755, f6_1755⟩, st1755⟩ := own_virt (y := own_mn6) (b := q) X1753 hx hZ hown (own_W39 hw) (own_W40 hw) (own_W42 hw) (own_W41 hw) (by decide) (rmRem_13_x l Z a0 hw [] q (1 : Int32) A B kA kB (0 : Int32) (0 : Int32) (1 : Int32) (0 : UInt64) (FP.i2d j0) (FP.i2d j1) T1744.heap n0 (Nat.le_trans Z0 K1744.1) f1746 f1_1744 f2_1744 f3_1744 f4_1744 f5_1744 f6_1744 naA naB nAB g_q gA gB (by decide)) (own_W43 hw) (own_W2 hw) 0 (by decide) (by decide) f1746 eq1753 (mkF m 198 (own_LA3 p1 p2 p3 p4 p5 nn j0 j1 j2 jb q (.val (.int j0)) (.val (.int j1)) (.val (.int j2)) (.val (.int (1 : Int32))) .unset .unset) [(.int (1 : Int32)), (.ref q)]) rfl (by rw [hml]; rfl) [(.int (1 : Int32))] [] rfl (lenOf own_pd__I_V rfl) rfl (Nat.le_refl _) (Jvm.hb hby at_198) (by decide) (by decide)
      have N1755 := Fr.app N1753 Nq1755
      have K1755 : Keep h0 T1755.heap [] := K1744.trans Kq1755 (allS (Or.inr sz_q) (allS (Or.inr sz_A) (allS (Or.inr sz_B) (all0))))
      have pre1756 := fun (τ : State) kt => pre1754 τ (by
        refine XS.istore X1753.here hx rfl (Jvm.hb hby at_193) rfl (l' := (own_LA3 p1 p2 p3 p4 p5 nn j0 j1 j2 jb q (.val (.int j0)) (.val (.int j1)) (.val (.int j2)) (.val (.int (1 : Int32))) .unset .unset)) rfl ?_
        refine XS.aload X1753.here hx rfl (Jvm.hb hby at_195) rfl rfl ?_
        refine XS.iconst X1753.here hx rfl (Jvm.hb hby at_197) ?_
        exact st1755 τ kt)
      have f1757 := f1746.keep Kq1755
      obtain ⟨_, T1758, L1758, X1758, ⟨rfl, Nq1758, eq1758⟩, st1758⟩ := own_virt (y := own_mn3) (b := q) X1755 hx hZ hown (own_W24 hw) (own_W25 hw) (own_W27 hw) (own_W26 hw) (by decide) (rmMax_13 l Z a0 hw [] q A B kA kB (0 : Int32) (0 : Int32) (1 : Int32) (0 : UInt64) (FP.i2d j0) (FP.i2d j1) T1755.heap n0 (Nat.le_trans Z0 K1755.1) f1757 f1_1755 f2_1755 f3_1755 f4_1755 f5_1755 f6_1755 naA naB nAB g_q gA gB) (own_W28 hw) (own_W2 hw) 0 (by decide) (by decide) f1757 rfl (mkF m 203 (own_LA3 p1 p2 p3 p4 p5 nn j0 j1 j2 jb q (.val (.int j0)) (.val (.int j1)) (.val (.int j2)) (.val (.int (1 : Int32))) .unset .unset) [(.ref q)]) rfl (by rw [hml]; rfl) [] [] rfl (lenOf own_pd___D rfl) rfl (Nat.le_refl _) (Jvm.hb hby at_203) (by decide) (by decide)
      have N1758 := Fr.app N1755 Nq1758
      have pre1759 := fun (τ : State) kt => pre1756 τ (by
        refine XS.aload X1755.here hx rfl (Jvm.hb hby at_201) rfl rfl ?_
        exact st1758 τ kt)
      obtain ⟨_, T1760, L1760, X1760, ⟨rfl, Nq1760, eq1760⟩, st1760⟩ := own_stat (y := own_mn4) X1758 hx hZ hown (own_W30 hw) (own_W31 hw) (by decide) (rm_max l Z a0 hw [] j0 j1 T1755.heap n0 (Nat.le_trans Z0 K1755.1)) (own_W33 hw) (own_W32 hw) 2 (by decide) (by decide) eq1758 (mkF m 210 (own_LA3 p1 p2 p3 p4 p5 nn j0 j1 j2 jb q (.val (.int j0)) (.val (.int j1)) (.val (.int j2)) (.val (.int (1 : Int32))) .unset .unset) [(.int j1), (.int j0), (.double (FP.i2d j1))]) rfl (by rw [hml]; rfl) [(.int j0), (.int j1)] [(.double (FP.i2d j1))] rfl (lenOf own_pd__II_I rfl) rfl (Nat.le_refl _) (Jvm.hb hby at_210) (by decide) (by decide)
      have N1760 := Fr.app N1758 Nq1760
      have pre1761 := fun (τ : State) kt => pre1759 τ (by
        refine XS.iload X1758.here hx rfl (Jvm.hb hby at_206) rfl ?_
        refine XS.iload X1758.here hx rfl (Jvm.hb hby at_208) rfl ?_
        exact st1760 τ kt)
      obtain ⟨_, T1762, L1762, X1762, ⟨rfl, Nq1762, eq1762⟩, st1762⟩ := own_stat (y := own_mn5) X1760 hx hZ hown (own_W34 hw) (own_W35 hw) (by decide) (rmE2 l Z a0 hw [] (FP.i2d j1) (own_max j0 j1) jb T1755.heap n0 (Nat.le_trans Z0 K1755.1) (own_ne100 (by (try simp only [own_max_int, own_m100]); omega)) (own_eq (by simp only [own_max_int, own_min_int, own_m100]; omega) _)) (own_W37 hw) (own_W36 hw) 0 (by decide) (by decide) eq1760 (mkF m 215 (own_LA3 p1 p2 p3 p4 p5 nn j0 j1 j2 jb q (.val (.int j0)) (.val (.int j1)) (.val (.int j2)) (.val (.int (1 : Int32))) .unset .unset) [(.int jb), (.int (own_max j0 j1)), (.double (FP.i2d j1))]) rfl (by rw [hml]; rfl) [(.double (FP.i2d j1)), (.int (own_max j0 j1)), (.int jb)] [] rfl (lenOf own_pd__DII_Z rfl) rfl (Nat.le_refl _) (Jvm.hb hby at_215) (by decide) (by decide)
      have N1762 := Fr.app N1760 Nq1762
      have pre1763 := fun (τ : State) kt => pre1761 τ (by
        refine XS.iload X1760.here hx rfl (Jvm.hb hby at_213) rfl ?_
        exact st1762 τ kt)
      obtain ⟨_, T1764, L1764, X1764, ⟨rfl, Nq1764, Kq1764, f1_1764, f2_1764, f3_1764, f4_1764, f5_1764, f6_1764⟩, st1764⟩ := own_virt (y := own_mn6) (b := q) X1762 hx hZ hown (own_W39 hw) (own_W40 hw) (own_W42 hw) (own_W41 hw) (by decide) (rmRem_13_cx l Z a0 hw [] q (0 : Int32) A B kA kB (0 : Int32) (0 : Int32) (1 : Int32) (0 : UInt64) (FP.i2d j0) (FP.i2d j1) T1755.heap n0 (Nat.le_trans Z0 K1755.1) f1757 f1_1755 f2_1755 f3_1755 f4_1755 f5_1755 f6_1755 naA naB nAB g_q gA gB (by decide) (by decide)) (own_W43 hw) (own_W2 hw) 0 (by decide) (by decide) f1757 eq1762 (mkF m 223 (own_LA3 p1 p2 p3 p4 p5 nn j0 j1 j2 jb q (.val (.int j0)) (.val (.int j1)) (.val (.int j2)) (.val (.int (1 : Int32))) (.val (.int (1 : Int32))) .unset) [(.int (0 : Int32)), (.ref q)]) rfl (by rw [hml]; rfl) [(.int (0 : Int32))] [] rfl (lenOf own_pd__I_V rfl) rfl (Nat.le_refl _) (Jvm.hb hby at_223) (by decide) (by decide)
      have N1764 := Fr.app N1762 Nq1764
      have K1764 : Keep h0 T1764.heap [] := K1755.trans Kq1764 (allS (Or.inr sz_q) (allS (Or.inr sz_A) (allS (Or.inr sz_B) (all0))))
      have pre1765 := fun (τ : State) kt => pre1763 τ (by
        refine XS.istore X1762.here hx rfl (Jvm.hb hby at_218) rfl (l' := (own_LA3 p1 p2 p3 p4 p5 nn j0 j1 j2 jb q (.val (.int j0)) (.val (.int j1)) (.val (.int j2)) (.val (.int (1 : Int32))) (.val (.int (1 : Int32))) .unset)) rfl ?_
        refine XS.aload X1762.here hx rfl (Jvm.hb hby at_220) rfl rfl ?_
        refine XS.iconst X1762.here hx rfl (Jvm.hb hby at_222) ?_
        exact st1764 τ kt)
      have f1766 := f1757.keep Kq1764
      obtain ⟨_, T1767, L1767, X1767, ⟨rfl, Nq1767, eq1767⟩, st1767⟩ := own_virt (y := own_mn3) (b := q) X1764 hx hZ hown (own_W24 hw) (own_W25 hw) (own_W27 hw) (own_W26 hw) (by decide) (rmMax_12 l Z a0 hw [] q A B kA kB (0 : Int32) (0 : Int32) (1 : Int32) (0 : UInt64) (FP.i2d j0) (FP.i2d j1) T1764.heap n0 (Nat.le_trans Z0 K1764.1) f1766 f1_1764 f2_1764 f3_1764 f4_1764 f5_1764 f6_1764 naA naB nAB g_q gA gB) (own_W28 hw) (own_W2 hw) 0 (by decide) (by decide) f1766 rfl (mkF m 228 (own_LA3 p1 p2 p3 p4 p5 nn j0 j1 j2 jb q (.val (.int j0)) (.val (.int j1)) (.val (.int j2)) (.val (.int (1 : Int32))) (.val (.int (1 : Int32))) .unset) [(.ref q)]) rfl (by rw [hml]; rfl) [] [] rfl (lenOf own_pd___D rfl) rfl (Nat.le_refl _) (Jvm.hb hby at_228) (by decide) (by decide)
      have N1767 := Fr.app N1764 Nq1767
      have pre1768 := fun (τ : State) kt => pre1765 τ (by
        refine XS.aload X1764.here hx rfl (Jvm.hb hby at_226) rfl rfl ?_
        exact st1767 τ kt)
      obtain ⟨_, T1769, L1769, X1769, ⟨rfl, Nq1769, eq1769⟩, st1769⟩ := own_stat (y := own_mn5) X1767 hx hZ hown (own_W34 hw) (own_W35 hw) (by decide) (rmE2 l Z a0 hw [] (FP.i2d j0) j0 jb T1764.heap n0 (Nat.le_trans Z0 K1764.1) (own_ne100 (by (try simp only [own_max_int, own_m100]); omega)) (own_eq (by simp only [own_max_int, own_min_int, own_m100]; omega) _)) (own_W37 hw) (own_W36 hw) 0 (by decide) (by decide) eq1767 (mkF m 235 (own_LA3 p1 p2 p3 p4 p5 nn j0 j1 j2 jb q (.val (.int j0)) (.val (.int j1)) (.val (.int j2)) (.val (.int (1 : Int32))) (.val (.int (1 : Int32))) .unset) [(.int jb), (.int j0), (.double (FP.i2d j0))]) rfl (by rw [hml]; rfl) [(.double (FP.i2d j0)), (.int j0), (.int jb)] [] rfl (lenOf own_pd__DII_Z rfl) rfl (Nat.le_refl _) (Jvm.hb hby at_235) (by decide) (by decide)
      have N1769 := Fr.app N1767 Nq1769
      have pre1770 := fun (τ : State) kt => pre1768 τ (by
        refine XS.iload X1767.here hx rfl (Jvm.hb hby at_231) rfl ?_
        refine XS.iload X1767.here hx rfl (Jvm.hb hby at_233) rfl ?_
        exact st1769 τ kt)
      have pre1771 := fun (τ : State) kt => pre1770 τ (by
        refine XS.istore X1769.here hx rfl (Jvm.hb hby at_238) rfl (l' := (own_LA3 p1 p2 p3 p4 p5 nn j0 j1 j2 jb q (.val (.int j0)) (.val (.int j1)) (.val (.int j2)) (.val (.int (1 : Int32))) (.val (.int (1 : Int32))) (.val (.int (1 : Int32))))) rfl ?_
        refine XS.iload X1769.here hx rfl (Jvm.hb hby at_240) rfl ?_
        refine XS.ifNo X1769.here hx rfl (Jvm.hb hby at_242) rfl ((if0 _ _).trans (feq (by decide)).1) ?_
        refine XS.iload X1769.here hx rfl (Jvm.hb hby at_245) rfl ?_
        refine XS.ifNo X1769.here hx rfl (Jvm.hb hby at_247) rfl ((if0 _ _).trans (feq (by decide)).1) ?_
        refine XS.iload X1769.here hx rfl (Jvm.hb hby at_250) rfl ?_
        refine XS.ifNo X1769.here hx rfl (Jvm.hb hby at_252) rfl ((if0 _ _).trans (feq (by decide)).1) ?_
        refine XS.iconst X1769.here hx rfl (Jvm.hb hby at_255) ?_
        refine XS.goto X1769.here hx rfl (pc0 := 256) (pc' := 260) rfl (Jvm.hb hby at_256) (by decide) (by decide) ?_
        exact kt)
      obtain ⟨fs, hrL, hrun, hended, hW, hsame⟩ := X1769.leave (v := some (.int (1 : Int32))) (fun h => by rw [Bd.returns] at h; cases h)
      refine ⟨_, _, cast (congrFun hPS _) (pre1771 _ ?_), hrun, hended, _, _, rfl, ?_, ⟨_, rfl⟩, hW, hsame.mono (by decide) (by decide)⟩
      · show Steps p.tables e below (T1769.setTop (mkF m 260 (own_LA3 p1 p2 p3 p4 p5 nn j0 j1 j2 jb q (.val (.int j0)) (.val (.int j1)) (.val (.int j2)) (.val (.int (1 : Int32))) (.val (.int (1 : Int32))) (.val (.int (1 : Int32)))) [(.int (1 : Int32))])) _
        exact retN X1769 hx (t := .boolean) Bd.returns (by simp) (Jvm.hb hby at_260) hrL
      · show Q0 n0 _ T1769.heap _
        exact ⟨rfl, N1769⟩
    by_cases qb1772 : jb.toInt < j0.toInt
    · skip
      have f1773 := f1708.keep Kq1709
      obtain ⟨_, T1774, L1774, X1774, ⟨rfl, Nq1774, Kq1774, f1_1774, f2_1774, f3_1774, f4_1774, f5_1774, f6_1774⟩, st1774⟩ := own_virt (y := own_mn2) (b := q) X1709 hx hZ hown (own_W19 hw) (own_W20 hw) (own_W22 hw) (own_W21 hw) (by decide) (rmCap_13_cos l Z a0 hw [] q (FP.i2d jb) A B kA kB (0 : Int32) (0 : Int32) (1 : Int32) (0 : UInt64) (FP.i2d j0) (FP.i2d j1) T1709.heap n0 (Nat.le_trans Z0 K1709.1) f1773 f1_1709 f2_1709 f3_1709 f4_1709 f5_1709 f6_1709 naA naB nAB g_q gA gB (fun z => qc1712 ((own_lt _ _ _).mp z)) ((own_gt _ _ _).mpr qb1772)) (own_W23 hw) (own_W2 hw) 0 (by decide) (by decide) f1773 rfl (mkF m 126 (own_LA3 p1 p2 p3 p4 p5 nn j0 j1 j2 jb q .unset .unset .unset .unset .unset .unset) [(.double (FP.i2d jb)), (.ref q)]) rfl (by rw [hml]; rfl) [(.double (FP.i2d jb))] [] rfl (lenOf own_pd__D_V rfl) rfl (Nat.le_refl _) (Jvm.hb hby at_126) (by decide) (by decide)
      have N1774 := Fr.app N1709 Nq1774
      have K1774 : Keep h0 T1774.heap [] := K1709.trans Kq1774 (allS (Or.inr sz_q) (allS (Or.inr sz_A) (allS (Or.inr sz_B) (all0))))
      have pre1775 := fun (τ : State) kt => pre1711 τ (st1774 τ kt)
      have f1776 := f1773.keep Kq1774
      obtain ⟨_, T1777, L1777, X1777, ⟨rfl, Nq1777, eq1777⟩, st1777⟩ := own_virt (y := own_mn3) (b := q) X1774 hx hZ hown (own_W24 hw) (own_W25 hw) (own_W27 hw) (own_W26 hw) (by decide) (rmMax_12 l Z a0 hw [] q A B kA kB (0 : Int32) (0 : Int32) (1 : Int32) (0 : UInt64) (FP.i2d jb) (FP.i2d j1) T1774.heap n0 (Nat.le_trans Z0 K1774.1) f1776 f1_1774 f2_1774 f3_1774 f4_1774 f5_1774 f6_1774 naA naB nAB g_q gA gB) (own_W28 hw) (own_W2 hw) 0 (by decide) (by decide) f1776 rfl (mkF m 173 (own_LA3 p1 p2 p3 p4 p5 nn j0 j1 j2 jb q (.val (.int j0)) (.val (.int j1)) (.val (.int j2)) .unset .unset .unset) [(.ref q)]) rfl (by rw [hml]; rfl) [] [] rfl (lenOf own_pd___D rfl) rfl (Nat.le_refl _) (Jvm.hb hby at_173) (by decide) (by decide)
      have N1777 := Fr.app N1774 Nq1777
      have pre1778 := fun (τ : State) kt => pre1775 τ (by
        refine XS.iload X1774.here hx rfl (Jvm.hb hby at_129) rfl ?_
        refine XS.ifNo X1774.here hx rfl (Jvm.hb hby at_131) rfl ((if0 _ _).trans (feq (by decide)).1) ?_
        refine XS.iload X1774.here hx rfl (Jvm.hb hby at_134) rfl ?_
        refine XS.goto X1774.here hx rfl (pc0 := 136) (pc' := 141) rfl (Jvm.hb hby at_136) (by decide) (by decide) ?_
        refine XS.istore X1774.here hx rfl (Jvm.hb hby at_141) rfl (l' := (own_LA3 p1 p2 p3 p4 p5 nn j0 j1 j2 jb q (.val (.int j0)) .unset .unset .unset .unset .unset)) rfl ?_
        refine XS.iload X1774.here hx rfl (Jvm.hb hby at_143) rfl ?_
        refine XS.ifNo X1774.here hx rfl (Jvm.hb hby at_145) rfl ((if0 _ _).trans (feq (by decide)).1) ?_
        refine XS.iload X1774.here hx rfl (Jvm.hb hby at_148) rfl ?_
        refine XS.goto X1774.here hx rfl (pc0 := 150) (pc' := 155) rfl (Jvm.hb hby at_150) (by decide) (by decide) ?_
        refine XS.istore X1774.here hx rfl (Jvm.hb hby at_155) rfl (l' := (own_LA3 p1 p2 p3 p4 p5 nn j0 j1 j2 jb q (.val (.int j0)) (.val (.int j1)) .unset .unset .unset .unset)) rfl ?_
        refine XS.iload X1774.here hx rfl (Jvm.hb hby at_157) rfl ?_
        refine XS.ifNo X1774.here hx rfl (Jvm.hb hby at_159) rfl ((if0 _ _).trans (feq (by decide)).1) ?_
        refine XS.iload X1774.here hx rfl (Jvm.hb hby at_162) rfl ?_
        refine XS.goto X1774.here hx rfl (pc0 := 164) (pc' := 169) rfl (Jvm.hb hby at_164) (by decide) (by decide) ?_
        refine XS.istore X1774.here hx rfl (Jvm.hb hby at_169) rfl (l' := (own_LA3 p1 p2 p3 p4 p5 nn j0 j1 j2 jb q (.val (.int j0)) (.val (.int j1)) (.val (.int j2)) .unset .unset .unset)) rfl ?_
        refine XS.aload X1774.here hx rfl (Jvm.hb hby at_171) rfl rfl ?_
        exact st1777 τ kt)
      obtain ⟨_, T1779, L1779, X1779, ⟨rfl, Nq1779, eq1779⟩, st1779⟩ := own_stat (y := own_mn4) X1777 hx hZ hown (own_W30 hw) (own_W31 hw) (by decide) (rm_max l Z a0 hw [] j1 j2 T1774.heap n0 (Nat.le_trans Z0 K1774.1)) (own_W33 hw) (own_W32 hw) 3 (by decide) (by decide) eq1777 (mkF m 182 (own_LA3 p1 p2 p3 p4 p5 nn j0 j1 j2 jb q (.val (.int j0)) (.val (.int j1)) (.val (.int j2)) .unset .unset .unset) [(.int j2), (.int j1), (.int j0), (.double (FP.i2d jb))]) rfl (by rw [hml]; rfl) [(.int j1), (.int j2)] [(.int j0), (.double (FP.i2d jb))] rfl (lenOf own_pd__II_I rfl) rfl (Nat.le_refl _) (Jvm.hb hby at_182) (by decide) (by decide)
      have N1779 := Fr.app N1777 Nq1779
      have pre1780 := fun (τ : State) kt => pre1778 τ (by
        refine XS.iload X1777.here hx rfl (Jvm.hb hby at_176) rfl ?_
        refine XS.iload X1777.here hx rfl (Jvm.hb hby at_178) rfl ?_
        refine XS.iload X1777.here hx rfl (Jvm.hb hby at_180) rfl ?_
        exact st1779 τ kt)
      obtain ⟨_, T1781, L1781, X1781, ⟨rfl, Nq1781, eq1781⟩, st1781⟩ := own_stat (y := own_mn4) X1779 hx hZ hown (own_W30 hw) (own_W31 hw) (by decide) (rm_max l Z a0 hw [] j0 (own_max j1 j2) T1774.heap n0 (Nat.le_trans Z0 K1774.1)) (own_W33 hw) (own_W32 hw) 2 (by decide) (by decide) eq1779 (mkF m 185 (own_LA3 p1 p2 p3 p4 p5 nn j0 j1 j2 jb q (.val (.int j0)) (.val (.int j1)) (.val (.int j2)) .unset .unset .unset) [(.int (own_max j1 j2)), (.int j0), (.double (FP.i2d jb))]) rfl (by rw [hml]; rfl) [(.int j0), (.int (own_max j1 j2))] [(.double (FP.i2d jb))] rfl (lenOf own_pd__II_I rfl) rfl (Nat.le_refl _) (Jvm.hb hby at_185) (by decide) (by decide)
      have N1781 := Fr.app N1779 Nq1781
      have pre1782 := fun (τ : State) kt => pre1780 τ (st1781 τ kt)
      obtain ⟨_, T1783, L1783, X1783, ⟨rfl, Nq1783, eq1783⟩, st1783⟩ := own_stat (y := own_mn5) X1781 hx hZ hown (own_W34 hw) (own_W35 hw) (by decide) (rmE2 l Z a0 hw [] (FP.i2d jb) (own_max j0 (own_max j1 j2)) jb T1774.heap n0 (Nat.le_trans Z0 K1774.1) (own_ne100 (by (try simp only [own_max_int, own_m100]); omega)) (own_eq (by simp only [own_max_int, own_min_int, own_m100]; omega) _)) (own_W37 hw) (own_W36 hw) 0 (by decide) (by decide) eq1781 (mkF m 190 (own_LA3 p1 p2 p3 p4 p5 nn j0 j1 j2 jb q (.val (.int j0)) (.val (.int j1)) (.val (.int j2)) .unset .unset .unset) [(.int jb), (.int (own_max j0 (own_max j1 j2))), (.double (FP.i2d jb))]) rfl (by rw [hml]; rfl) [(.double (FP.i2d jb)), (.int (own_max j0 (own_max j1 j2))), (.int jb)] [] rfl (lenOf own_pd__DII_Z rfl) rfl (Nat.le_refl _) (Jvm.hb hby at_190) (by decide) (by decide)
      have N1783 := Fr.app N1781 Nq1783
      have pre1784 := fun (τ : State) kt => pre1782 τ (by
        refine XS.iload X1781.here hx rfl (Jvm.hb hby at_188) rfl ?_
        exact st1783 τ kt)
      obtain ⟨_, T1785, L1785, X1785, ⟨rfl, Nq1785, Kq1785, f1_1785, f2_1785, f3_1785, f4_1785, f5_1785, f6_1785⟩, st1785⟩ := own_virt (y := own_mn6) (b := q) X1783 hx hZ hown (own_W39 hw) (own_W40 hw) (own_W42 hw) (own_W41 hw) (by decide) (rmRem_12_x l Z a0 hw [] q (1 : Int32) A B kA kB (0 : Int32) (0 : Int32) (1 : Int32) (0 : UInt64) (FP.i2d jb) (FP.i2d j1) T1774.heap n0 (Nat.le_trans Z0 K1774.1) f1776 f1_1774 f2_1774 f3_1774 f4_1774 f5_1774 f6_1774 naA naB nAB g_q gA gB (by decide)) (own_W43 hw) (own_W2 hw) 0 (by decide) (by decide) f1776 eq1783 (mkF m 198 (own_LA3 p1 p2 p3 p4 p5 nn j0 j1 j2 jb q (.val (.int j0)) (.val (.int j1)) (.val (.int j2)) (.val (.int (1 : Int32))) .unset .unset) [(.int (1 : Int32)), (.ref q)]) rfl (by rw [hml]; rfl) [(.int (1 : Int32))] [] rfl (lenOf own_pd__I_V rfl) rfl (Nat.le_refl _) (Jvm.hb hby at_198) (by decide) (by decide)
      have N1785 := Fr.app N1783 Nq1785
      have K1785 : Keep h0 T1785.heap [] := K1774.trans Kq1785 (allS (Or.inr sz_q) (allS (Or.inr sz_A) (allS (Or.inr sz_B) (all0))))
      have pre1786 := fun (τ : State) kt => pre1784 τ (by
        refine XS.istore X1783.here hx rfl (Jvm.hb hby at_193) rfl (l' := (own_LA3 p1 p2 p3 p4 p5 nn j0 j1 j2 jb q (.val (.int j0)) (.val (.int j1)) (.val (.int j2)) (.val (.int (1 : Int32))) .unset .unset)) rfl ?_
        refine XS.aload X1783.here hx rfl (Jvm.hb hby at_195) rfl rfl ?_
        refine XS.iconst X1783.here hx rfl (Jvm.hb hby at_197) ?_
        exact st1785 τ kt)
      have f1787 := f1776.keep Kq1785
      obtain ⟨_, T1788, L1788, X1788, ⟨rfl, Nq1788, eq1788⟩, st1788⟩ := own_virt (y := own_mn3) (b := q) X1785 hx hZ hown (own_W24 hw) (own_W25 hw) (own_W27 hw) (own_W26 hw) (by decide) (rmMax_12 l Z a0 hw [] q A B kA kB (0 : Int32) (0 : Int32) (1 : Int32) (0 : UInt64) (FP.i2d jb) (FP.i2d j1) T1785.heap n0 (Nat.le_trans Z0 K1785.1) f1787 f1_1785 f2_1785 f3_1785 f4_1785 f5_1785 f6_1785 naA naB nAB g_q gA gB) (own_W28 hw) (own_W2 hw) 0 (by decide) (by decide) f1787 rfl (mkF m 203 (own_LA3 p1 p2 p3 p4 p5 nn j0 j1 j2 jb q (.val (.int j0)) (.val (.int j1)) (.val (.int j2)) (.val (.int (1 : Int32))) .unset .unset) [(.ref q)]) rfl (by rw [hml]; rfl) [] [] rfl (lenOf own_pd___D rfl) rfl (Nat.le_refl _) (Jvm.hb hby at_203) (by decide) (by decide)
      have N1788 := Fr.app N1785 Nq1788
      have pre1789 := fun (τ : State) kt => pre1786 τ (by
        refine XS.aload X1785.here hx rfl (Jvm.hb hby at_201) rfl rfl ?_
        exact st1788 τ kt)
      obtain ⟨_, T1790, L1790, X1790, ⟨rfl, Nq1790, eq1790⟩, st1790⟩ := own_stat (y := own_mn4) X1788 hx hZ hown (own_W30 hw) (own_W31 hw) (by decide) (rm_max l Z a0 hw [] j0 j1 T1785.heap n0 (Nat.le_trans Z0 K1785.1)) (own_W33 hw) (own_W32 hw) 2 (by decide) (by decide) eq1788 (mkF m 210 (own_LA3 p1 p2 p3 p4 p5 nn j0 j1 j2 jb q (.val (.int j0)) (.val (.int j1)) (.val (.int j2)) (.val (.int (1 : Int32))) .unset .unset) [(.int j1), (.int j0), (.double (FP.i2d jb))]) rfl (by rw [hml]; rfl) [(.int j0), (.int j1)] [(.double (FP.i2d jb))] rfl (lenOf own_pd__II_I rfl) rfl (Nat.le_refl _) (Jvm.hb hby at_210) (by decide) (by decide)
      have N1790 := Fr.app N1788 Nq1790
      have pre1791 := fun (τ : State) kt => pre1789 τ (by
        refine XS.iload X1788.here hx rfl (Jvm.hb hby at_206) rfl ?_
        refine XS.iload X1788.here hx rfl (Jvm.hb hby at_208) rfl ?_
        exact st1790 τ kt)
      obtain ⟨_, T1792, L1792, X1792, ⟨rfl, Nq1792, eq1792⟩, st1792⟩ := own_stat (y := own_mn5) X1790 hx hZ hown (own_W34 hw) (own_W35 hw) (by decide) (rmE2 l Z a0 hw [] (FP.i2d jb) (own_max j0 j1) jb T1785.heap n0 (Nat.le_trans Z0 K1785.1) (own_ne100 (by (try simp only [own_max_int, own_m100]); omega)) (own_eq (by simp only [own_max_int, own_min_int, own_m100]; omega) _)) (own_W37 hw) (own_W36 hw) 0 (by decide) (by decide) eq1790 (mkF m 215 (own_LA3 p1 p2 p3 p4 p5 nn j0 j1 j2 jb q (.val (.int j0)) (.val (.int j1)) (.val (.int j2)) (.val (.int (1 : Int32))) .unset .unset) [(.int jb), (.int (own_max j0 j1)), (.double (FP.i2d jb))]) rfl (by rw [hml]; rfl) [(.double (FP.i2d jb)), (.int (own_max j0 j1)), (.int jb)] [] rfl (lenOf own_pd__DII_Z rfl) rfl (Nat.le_refl _) (Jvm.hb hby at_215) (by decide) (by decide)
      have N1792 := Fr.app N1790 Nq1792
      have pre1793 := fun (τ : State) kt => pre1791 τ (by
        refine XS.iload X1790.here hx rfl (Jvm.hb hby at_213) rfl ?_
        exact st1792 τ kt)
      obtain ⟨_, T1794, L1794, X1794, ⟨rfl, Nq1794, Kq1794, f1_1794, f2_1794, f3_1794, f4_1794, f5_1794, f6_1794⟩, st1794⟩ := own_virt (y := own_mn6) (b := q) X1792 hx hZ hown (own_W39 hw) (own_W40 hw) (own_W42 hw) (own_W41 hw) (by decide) (rmRem_12_x l Z a0 hw [] q (0 : Int32) A B kA kB (0 : Int32) (0 : Int32) (1 : Int32) (0 : UInt64) (FP.i2d jb) (FP.i2d j1) T1785.heap n0 (Nat.le_trans Z0 K1785.1) f1787 f1_1785 f2_1785 f3_1785 f4_1785 f5_1785 f6_1785 naA naB nAB g_q gA gB (by decide)) (own_W43 hw) (own_W2 hw) 0 (by decide) (by decide) f1787 eq1792 (mkF m 223 (own_LA3 p1 p2 p3 p4 p5 nn j0 j1 j2 jb q (.val (.int j0)) (.val (.int j1)) (.val (.int j2)) (.val (.int (1 : Int32))) (.val (.int (1 : Int32))) .unset) [(.int (0 : Int32)), (.ref q)]) rfl (by rw [hml]; rfl) [(.int (0 : Int32))] [] rfl (lenOf own_pd__I_V rfl) rfl (Nat.le_refl _) (Jvm.hb hby at_223) (by decide) (by decide)
      have N1794 := Fr.app N1792 Nq1794
      have K1794 : Keep h0 T1794.heap [] := K1785.trans Kq1794 (allS (Or.inr sz_q) (allS (Or.inr sz_A) (allS (Or.inr sz_B) (all0))))
      have pre1795 := fun (τ : State) kt => pre1793 τ (by
        refine XS.istore X1792.here hx rfl (Jvm.hb hby at_218) rfl (l' := (own_LA3 p1 p2 p3 p4 p5 nn j0 j1 j2 jb q (.val (.int j0)) (.val (.int j1)) (.val (.int j2)) (.val (.int (1 : Int32))) (.val (.int (1 : Int32))) .unset)) rfl ?_
        refine XS.aload X1792.here hx rfl (Jvm.hb hby at_220) rfl rfl ?_
        refine XS.iconst X1792.here hx rfl (Jvm.hb hby at_222) ?_
        exact st1794 τ kt)
      have f1796 := f1787.keep Kq1794
      obtain ⟨_, T1797, L1797, X1797, ⟨rfl, Nq1797, eq1797⟩, st1797⟩ := own_virt (y := own_mn3) (b := q) X1794 hx hZ hown (own_W24 hw) (own_W25 hw) (own_W27 hw) (own_W26 hw) (by decide) (rmMax_12 l Z a0 hw [] q A B kA kB (0 : Int32) (0 : Int32) (1 : Int32) (0 : UInt64) (FP.i2d jb) (FP.i2d j1) T1794.heap n0 (Nat.le_trans Z0 K1794.1) f1796 f1_1794 f2_1794 f3_1794 f4_1794 f5_1794 f6_1794 naA naB nAB g_q gA gB) (own_W28 hw) (own_W2 hw) 0 (by decide) (by decide) f1796 rfl (mkF m 228 (own_LA3 p1 p2 p3 p4 p5 nn j0 j1 j2 jb q (.val (.int j0)) (.val (.int j1)) (.val (.int j2)) (.val (.int (1 : Int32))) (.val (.int (1 : Int32))) .unset) [(.ref q)]) rfl (by rw [hml]; rfl) [] [] rfl (lenOf own_pd___D rfl) rfl (Nat.le_refl _) (Jvm.hb hby at_228) (by decide) (by decide)
      have N1797 := Fr.app N1794 Nq1797
      have pre1798 := fun (τ : State) kt => pre1795 τ (by
        refine XS.aload X1794.here hx rfl (Jvm.hb hby at_226) rfl rfl ?_
        exact st1797 τ kt)
      obtain ⟨_, T1799, L1799, X1799, ⟨rfl, Nq1799, eq1799⟩, st1799⟩ := own_stat (y := own_mn5) X1797 hx hZ hown (own_W34 hw) (own_W35 hw) (by decide) (rmE2 l Z a0 hw [] (FP.i2d jb) j0 jb T1794.heap n0 (Nat.le_trans Z0 K1794.1) (own_ne100 (by (try simp only [own_max_int, own_m100]); omega)) (own_eq (by simp only [own_max_int, own_min_int, own_m100]; omega) _)) (own_W37 hw) (own_W36 hw) 0 (by decide) (by decide) eq1797 (mkF m 235 (own_LA3 p1 p2 p3 p4 p5 nn j0 j1 j2 jb q (.val (.int j0)) (.val (.int j1)) (.val (.int j2)) (.val (.int (1 : Int32))) (.val (.int (1 : Int32))) .unset) [(.int jb), (.int j0), (.double (FP.i2d jb))]) rfl (by rw [hml]; rfl) [(.double (FP.i2d jb)), (.int j0), (.int jb)] [] rfl (lenOf own_pd__DII_Z rfl) rfl (Nat.le_refl _) (Jvm.hb hby at_235) (by decide) (by decide)
      have N1799 := Fr.app N1797 Nq1799
      have pre1800 := fun (τ : State) kt => pre1798 τ (by
        refine XS.iload X1797.here hx rfl (Jvm.hb hby at_231) rfl ?_
        refine XS.iload X1797.here hx rfl (Jvm.hb hby at_233) rfl ?_
        exact st1799 τ kt)
      have pre1801 := fun (τ : State) kt => pre1800 τ (by
        refine XS.istore X1799.here hx rfl (Jvm.hb hby at_238) rfl (l' := (own_LA3 p1 p2 p3 p4 p5 nn j0 j1 j2 jb q (.val (.int j0)) (.val (.int j1)) (.val (.int j2)) (.val (.int (1 : Int32))) (.val (.int (1 : Int32))) (.val (.int (1 : Int32))))) rfl ?_
        refine XS.iload X1799.here hx rfl (Jvm.hb hby at_240) rfl ?_
        refine XS.ifNo X1799.here hx rfl (Jvm.hb hby at_242) rfl ((if0 _ _).trans (feq (by decide)).1) ?_
        refine XS.iload X1799.here hx rfl (Jvm.hb hby at_245) rfl ?_
        refine XS.ifNo X1799.here hx rfl (Jvm.hb hby at_247) rfl ((if0 _ _).trans (feq (by decide)).1) ?_
        refine XS.iload X1799.here hx rfl (Jvm.hb hby at_250) rfl ?_
        refine XS.ifNo X1799.here hx rfl (Jvm.hb hby at_252) rfl ((if0 _ _).trans (feq (by decide)).1) ?_
        refine XS.iconst X1799.here hx rfl (Jvm.hb hby at_255) ?_
        refine XS.goto X1799.here hx rfl (pc0 := 256) (pc' := 260) rfl (Jvm.hb hby at_256) (by decide) (by decide) ?_
        exact kt)
      obtain ⟨fs, hrL, hrun, hended, hW, hsame⟩ := X1799.leave (v := some (.int (1 : Int32))) (fun h => by rw [Bd.returns] at h; cases h)
      refine ⟨_, _, cast (congrFun hPS _) (pre1801 _ ?_), hrun, hended, _, _, rfl, ?_, ⟨_, rfl⟩, hW, hsame.mono (by decide) (by decide)⟩
      · show Steps p.tables e below (T1799.setTop (mkF m 260 (own_LA3 p1 p2 p3 p4 p5 nn j0 j1 j2 jb q (.val (.int j0)) (.val (.int j1)) (.val (.int j2)) (.val (.int (1 : Int32))) (.val (.int (1 : Int32))) (.val (.int (1 : Int32)))) [(.int (1 : Int32))])) _
        exact retN X1799 hx (t := .boolean) Bd.returns (by simp) (Jvm.hb hby at_260) hrL
      · show Q0 n0 _ T1799.heap _
        exact ⟨rfl, N1799⟩
    have f1802 := f1708.keep Kq1709
    obtain ⟨_, T1803, L1803, X1803, ⟨rfl, Nq1803, Kq1803, f1_1803, f2_1803, f3_1803, f4_1803, f5_1803, f6_1803⟩, st1803⟩ := own_virt (y := own_mn2) (b := q) X1709 hx hZ hown (own_W19 hw) (own_W20 hw) (own_W22 hw) (own_W21 hw) (by decide) (rmCap_13_cok l Z a0 hw [] q (FP.i2d jb) A B kA kB (0 : Int32) (0 : Int32) (1 : Int32) (0 : UInt64) (FP.i2d j0) (FP.i2d j1) T1709.heap n0 (Nat.le_trans Z0 K1709.1) f1802 f1_1709 f2_1709 f3_1709 f4_1709 f5_1709 f6_1709 naA naB nAB g_q gA gB (fun z => qc1712 ((own_lt _ _ _).mp z)) (fun z => qb1772 ((own_gt _ _ _).mp z))) (own_W23 hw) (own_W2 hw) 0 (by decide) (by decide) f1802 rfl (mkF m 126 (own_LA3 p1 p2 p3 p4 p5 nn j0 j1 j2 jb q .unset .unset .unset .unset .unset .unset) [(.double (FP.i2d jb)), (.ref q)]) rfl (by rw [hml]; rfl) [(.double (FP.i2d jb))] [] rfl (lenOf own_pd__D_V rfl) rfl (Nat.le_refl _) (Jvm.hb hby at_126) (by decide) (by decide)
    have N1803 := Fr.app N1709 Nq1803
    have K1803 : Keep h0 T1803.heap [] := K1709.trans Kq1803 (allS (Or.inr sz_q) (allS (Or.inr sz_A) (allS (Or.inr sz_B) (all0))))
    have pre1804 := fun (τ : State) kt => pre1711 τ (st1803 τ kt)
    have f1805 := f1802.keep Kq1803
    obtain ⟨_, T1806, L1806, X1806, ⟨rfl, Nq1806, eq1806⟩, st1806⟩ := own_virt (y := own_mn3) (b := q) X1803 hx hZ hown (own_W24 hw) (own_W25 hw) (own_W27 hw) (own_W26 hw) (by decide) (rmMax_12 l Z a0 hw [] q A B kA kB (0 : Int32) (0 : Int32) (1 : Int32) (0 : UInt64) (FP.i2d j0) (FP.i2d j1) T1803.heap n0 (Nat.le_trans Z0 K1803.1) f1805 f1_1803 f2_1803 f3_1803 f4_1803 f5_1803 f6_1803 naA naB nAB g_q gA gB) (own_W28 hw) (own_W2 hw) 0 (by decide) (by decide) f1805 rfl (mkF m 173 (own_LA3 p1 p2 p3 p4 p5 nn j0 j1 j2 jb q (.val (.int j0)) (.val (.int j1)) (.val (.int j2)) .unset .unset .unset) [(.ref q)]) rfl (by rw [hml]; rfl) [] [] rfl (lenOf own_pd___D rfl) rfl (Nat.le_refl _) (Jvm.hb hby at_173) (by decide) (by decide)
    have N1806 := Fr.app N1803 Nq1806
    have pre1807 := fun (τ : State) kt => pre1804 τ (by
      refine XS.iload X1803.here hx rfl (Jvm.hb hby at_129) rfl ?_
      refine XS.ifNo X1803.here hx rfl (Jvm.hb hby at_131) rfl ((if0 _ _).trans (feq (by decide)).1) ?_
      refine XS.iload X1803.here hx rfl (Jvm.hb hby at_134) rfl ?_
      refine XS.goto X1803.here hx rfl (pc0 := 136) (pc' := 141) rfl (Jvm.hb hby at_136) (by decide) (by decide) ?_
      refine XS.istore X1803.here hx rfl (Jvm.hb hby at_141) rfl (l' := (own_LA3 p1 p2 p3 p4 p5 nn j0 j1 j2 jb q (.val (.int j0)) .unset .unset .unset .unset .unset)) rfl ?_
      refine XS.iload X1803.here hx rfl (Jvm.hb hby at_143) rfl ?_
      refine XS.ifNo X1803.here hx rfl (Jvm.hb hby at_145) rfl ((if0 _ _).trans (feq (by decide)).1) ?_
      refine XS.iload X1803.here hx rfl (Jvm.hb hby at_148) rfl ?_
      refine XS.goto X1803.here hx rfl (pc0 := 150) (pc' := 155) rfl (Jvm.hb hby at_150) (by decide) (by decide) ?_
      refine XS.istore X1803.here hx rfl (Jvm.hb hby at_155) rfl (l' := (own_LA3 p1 p2 p3 p4 p5 nn j0 j1 j2 jb q (.val (.int j0)) (.val (.int j1)) .unset .unset .unset .unset)) rfl ?_
      refine XS.iload X1803.here hx rfl (Jvm.hb hby at_157) rfl ?_
      refine XS.ifNo X1803.here hx rfl (Jvm.hb hby at_159) rfl ((if0 _ _).trans (feq (by decide)).1) ?_
      refine XS.iload X1803.here hx rfl (Jvm.hb hby at_162) rfl ?_
      refine XS.goto X1803.here hx rfl (pc0 := 164) (pc' := 169) rfl (Jvm.hb hby at_164) (by decide) (by decide) ?_
      refine XS.istore X1803.here hx rfl (Jvm.hb hby at_169) rfl (l' := (own_LA3 p1 p2 p3 p4 p5 nn j0 j1 j2 jb q (.val (.int j0)) (.val (.int j1)) (.val (.int j2)) .unset .unset .unset)) rfl ?_
      refine XS.aload X1803.here hx rfl (Jvm.hb hby at_171) rfl rfl ?_
      exact st1806 τ kt)
    obtain ⟨_, T1808, L1808, X1808, ⟨rfl, Nq1808, eq1808⟩, st1808⟩ := own_stat (y := own_mn4) X1806 hx hZ hown (own_W30 hw) (own_W31 hw) (by decide) (rm_max l Z a0 hw [] j1 j2 T1803.heap n0 (Nat.le_trans Z0 K1803.1)) (own_W33 hw) (own_W32 hw) 3 (by decide) (by decide) eq1806 (mkF m 182 (own_LA3 p1 p2 p3 p4 p5 nn j0 j1 j2 jb q (.val (.int j0)) (.val (.int j1)) (.val (.int j2)) .unset .unset .unset) [(.int j2), (.int j1), (.int j0), (.double (FP.i2d j0))]) rfl (by rw [hml]; rfl) [(.int j1), (.int j2)] [(.int j0), (.double (FP.i2d j0))] rfl (lenOf own_pd__II_I rfl) rfl (Nat.le_refl _) (Jvm.hb hby at_182) (by decide) (by decide)
    have N1808 := Fr.app N1806 Nq1808
    have pre1809 := fun (τ : State) kt => pre1807 τ (by
      refine XS.iload X1806.here hx rfl (Jvm.hb hby at_176) rfl ?_
      refine XS.iload X1806.here hx rfl (Jvm.hb hby at_178) rfl ?_
      refine XS.iload X1806.here hx rfl (Jvm.hb hby at_180) rfl ?_
      exact st1808 τ kt)
    obtain ⟨_, T1810, L1810, X1810, ⟨rfl, Nq1810, eq1810⟩, st1810⟩ := own_stat (y := own_mn4) X1808 hx hZ hown (own_W30 hw) (own_W31 hw) (by decide) (rm_max l Z a0 hw [] j0 (own_max j1 j2) T1803.heap n0 (Nat.le_trans Z0 K1803.1)) (own_W33 hw) (own_W32 hw) 2 (by decide) (by decide) eq1808 (mkF m 185 (own_LA3 p1 p2 p3 p4 p5 nn j0 j1 j2 jb q (.val (.int j0)) (.val (.int j1)) (.val (.int j2)) .unset .unset .unset) [(.int (own_max j1 j2)), (.int j0), (.double (FP.i2d j0))]) rfl (by rw [hml]; rfl) [(.int j0), (.int (own_max j1 j2))] [(.double (FP.i2d j0))] rfl (lenOf own_pd__II_I rfl) rfl (Nat.le_refl _) (Jvm.hb hby at_185) (by decide) (by decide)
    have N1810 := Fr.app N1808 Nq1810
    have pre1811 := fun (τ : State) kt => pre1809 τ (st1810 τ kt)
    obtain ⟨_, T1812, L1812, X1812, ⟨rfl, Nq1812, eq1812⟩, st1812⟩ := own_stat (y := own_mn5) X1810 hx hZ hown (own_W34 hw) (own_W35 hw) (by decide) (rmE2 l Z a0 hw [] (FP.i2d j0) (own_max j0 (own_max j1 j2)) jb T1803.heap n0 (Nat.le_trans Z0 K1803.1) (own_ne100 (by (try simp only [own_max_int, own_m100]); omega)) (own_eq (by simp only [own_max_int, own_min_int, own_m100]; omega) _)) (own_W37 hw) (own_W36 hw) 0 (by decide) (by decide) eq1810 (mkF m 190 (own_LA3 p1 p2 p3 p4 p5 nn j0 j1 j2 jb q (.val (.int j0)) (.val (.int j1)) (.val (.int j2)) .unset .unset .unset) [(.int jb), (.int (own_max j0 (own_max j1 j2))), (.double (FP.i2d j0))]) rfl (by rw [hml]; rfl) [(.double (FP.i2d j0)), (.int (own_max j0 (own_max j1 j2))), (.int jb)] [] rfl (lenOf own_pd__DII_Z rfl) rfl (Nat.le_refl _) (Jvm.hb hby at_190) (by decide) (by decide)
    have N1812 := Fr.app N1810 Nq1812
    have pre1813 := fun (τ : State) kt => pre1811 τ (by
      refine XS.iload X1810.here hx rfl (Jvm.hb hby at_188) rfl ?_
      exact st1812 τ kt)
    obtain ⟨_, T1814, L1814, X1814, ⟨rfl, Nq1814, Kq1814, f1_1814, f2_1814, f3_1814, f4_1814, f5_1814, f6_1814⟩, st1814⟩ := own_virt (y := own_mn6) (b := q) X1812 hx hZ hown (own_W39 hw) (own_W40 hw) (own_W42 hw) (own_W41 hw) (by decide) (rmRem_12_x l Z a0 hw [] q (1 : Int32) A B kA kB (0 : Int32) (0 : Int32) (1 : Int32) (0 : UInt64) (FP.i2d j0) (FP.i2d j1) T1803.heap n0 (Nat.le_trans Z0 K1803.1) f1805 f1_1803 f2_1803 f3_1803 f4_1803 f5_1803 f6_1803 naA naB nAB g_q gA gB (by decide)) (own_W43 hw) (own_W2 hw) 0 (by decide) (by decide) f1805 eq1812 (mkF m 198 (own_LA3 p1 p2 p3 p4 p5 nn j0 j1 j2 jb q (.val (.int j0)) (.val (.int j1)) (.val (.int j2)) (.val (.int (1 : Int32))) .unset .unset) [(.int (1 : Int32)), (.ref q)]) rfl (by rw [hml]; rfl) [(.int (1 : Int32))] [] rfl (lenOf own_pd__I_V rfl) rfl (Nat.le_refl _) (Jvm.hb hby at_198) (by decide) (by decide)
    have N1814 := Fr.app N1812 Nq1814
    have K1814 : Keep h0 T1814.heap [] := K1803.trans Kq1814 (allS (Or.inr sz_q) (allS (Or.inr sz_A) (allS (Or.inr sz_B) (all0))))
    have pre1815 := fun (τ : State) kt => pre1813 τ (by
      refine XS.istore X1812.here hx rfl (Jvm.hb hby at_193) rfl (l' := (own_LA3 p1 p2 p3 p4 p5 nn j0 j1 j2 jb q (.val (.int j0)) (.val (.int j1)) (.val (.int j2)) (.val (.int (1 : Int32))) .unset .unset)) rfl ?_
      refine XS.aload X1812.here hx rfl (Jvm.hb hby at_195) rfl rfl ?_
      refine XS.iconst X1812.here hx rfl (Jvm.hb hby at_197) ?_
      exact st1814 τ kt)
    have f1816 := f1805.keep Kq1814
    obtain ⟨_, T1817, L1817, X1817, ⟨rfl, Nq1817, eq1817⟩, st1817⟩ := own_virt (y := own_mn3) (b := q) X1814 hx hZ hown (own_W24 hw) (own_W25 hw) (own_W27 hw) (own_W26 hw) (by decide) (rmMax_12 l Z a0 hw [] q A B kA kB (0 : Int32) (0 : Int32) (1 : Int32) (0 : UInt64) (FP.i2d j0) (FP.i2d j1) T1814.heap n0 (Nat.le_trans Z0 K1814.1) f1816 f1_1814 f2_1814 f3_1814 f4_1814 f5_1814 f6_1814 naA naB nAB g_q gA gB) (own_W28 hw) (own_W2 hw) 0 (by decide) (by decide) f1816 rfl (mkF m 203 (own_LA3 p1 p2 p3 p4 p5 nn j0 j1 j2 jb q (.val (.int j0)) (.val (.int j1)) (.val (.int j2)) (.val (.int (1 : Int32))) .unset .unset) [(.ref q)]) rfl (by rw [hml]; rfl) [] [] rfl (lenOf own_pd___D rfl) rfl (Nat.le_refl _) (Jvm.hb hby at_203) (by decide) (by decide)
    have N1817 := Fr.app N1814 Nq1817
    have pre1818 := fun (τ : State) kt => pre1815 τ (by
      refine XS.aload X1814.here hx rfl (Jvm.hb hby at_201) rfl rfl ?_
      exact st1817 τ kt)
    obtain ⟨_, T1819, L1819, X1819, ⟨rfl, Nq1819, eq1819⟩, st1819⟩ := own_stat (y := own_mn4) X1817 hx hZ hown (own_W30 hw) (own_W31 hw) (by decide) (rm_max l Z a0 hw [] j0 j1 T1814.heap n0 (Nat.le_trans Z0 K1814.1)) (own_W33 hw) (own_W32 hw) 2 (by decide) (by decide) eq1817 (mkF m 210 (own_LA3 p1 p2 p3 p4 p5 nn j0 j1 j2 jb q (.val (.int j0)) (.val (.int j1)) (.val (.int j2)) (.val (.int (1 : Int32))) .unset .unset) [(.int j1), (.int j0), (.double (FP.i2d j0))]) rfl (by rw [hml]; rfl) [(.int j0), (.int j1)] [(.double (FP.i2d j0))] rfl (lenOf own_pd__II_I rfl) rfl (Nat.le_refl _) (Jvm.hb hby at_210) (by decide) (by decide)
    have N1819 := Fr.app N1817 Nq1819
    have pre1820 := fun (τ : State) kt => pre1818 τ (by
      refine XS.iload X1817.here hx rfl (Jvm.hb hby at_206) rfl ?_
      refine XS.iload X1817.here hx rfl (Jvm.hb hby at_208) rfl ?_
      exact st1819 τ kt)
    obtain ⟨_, T1821, L1821, X1821, ⟨rfl, Nq1821, eq1821⟩, st1821⟩ := own_stat (y := own_mn5) X1819 hx hZ hown (own_W34 hw) (own_W35 hw) (by decide) (rmE2 l Z a0 hw [] (FP.i2d j0) (own_max j0 j1) jb T1814.heap n0 (Nat.le_trans Z0 K1814.1) (own_ne100 (by (try simp only [own_max_int, own_m100]); omega)) (own_eq (by simp only [own_max_int, own_min_int, own_m100]; omega) _)) (own_W37 hw) (own_W36 hw) 0 (by decide) (by decide) eq1819 (mkF m 215 (own_LA3 p1 p2 p3 p4 p5 nn j0 j1 j2 jb q (.val (.int j0)) (.val (.int j1)) (.val (.int j2)) (.val (.int (1 : Int32))) .unset .unset) [(.int jb), (.int (own_max j0 j1)), (.double (FP.i2d j0))]) rfl (by rw [hml]; rfl) [(.double (FP.i2d j0)), (.int (own_max j0 j1)), (.int jb)] [] rfl (lenOf own_pd__DII_Z rfl) rfl (Nat.le_refl _) (Jvm.hb hby at_215) (by decide) (by decide)
    have N1821 := Fr.app N1819 Nq1821
    have pre1822 := fun (τ : State) kt => pre1820 τ (by
      refine XS.iload X1819.here hx rfl (Jvm.hb hby at_213) rfl ?_
      exact st1821 τ kt)
    obtain ⟨_, T1823, L1823, X1823, ⟨rfl, Nq1823, Kq1823, f1_1823, f2_1823, f3_1823, f4_1823, f5_1823, f6_1823⟩, st1823⟩ := own_virt (y := own_mn6) (b := q) X1821 hx hZ hown (own_W39 hw) (own_W40 hw) (own_W42 hw) (own_W41 hw) (by decide) (rmRem_12_x l Z a0 hw [] q (0 : Int32) A B kA kB (0 : Int32) (0 : Int32) (1 : Int32) (0 : UInt64) (FP.i2d j0) (FP.i2d j1) T1814.heap n0 (Nat.le_trans Z0 K1814.1) f1816 f1_1814 f2_1814 f3_1814 f4_1814 f5_1814 f6_1814 naA naB nAB g_q gA gB (by decide)) (own_W43 hw) (own_W2 hw) 0 (by decide) (by decide) f1816 eq1821 (mkF m 223 (own_LA3 p1 p2 p3 p4 p5 nn j0 j1 j2 jb q (.val (.int j0)) (.val (.int j1)) (.val (.int j2)) (.val (.int (1 : Int32))) (.val (.int (1 : Int32))) .unset) [(.int (0 : Int32)), (.ref q)]) rfl (by rw [hml]; rfl) [(.int (0 : Int32))] [] rfl (lenOf own_pd__I_V rfl) rfl (Nat.le_refl _) (Jvm.hb hby at_223) (by decide) (by decide)
    have N1823 := Fr.app N1821 Nq1823
    have K1823 : Keep h0 T1823.heap [] := K1814.trans Kq1823 (allS (Or.inr sz_q) (allS (Or.inr sz_A) (allS (Or.inr sz_B) (all0))))
    have pre1824 := fun (τ : State) kt => pre1822 τ (by
      refine XS.istore X1821.here hx rfl (Jvm.hb hby at_218) rfl (l' := (own_LA3 p1 p2 p3 p4 p5 nn j0 j1 j2 jb q (.val (.int j0)) (.val (.int j1)) (.val (.int j2)) (.val (.int (1 : Int32))) (.val (.int (1 : Int32))) .unset)) rfl ?_
      refine XS.aload X1821.here hx rfl (Jvm.hb hby at_220) rfl rfl ?_
      refine XS.iconst X1821.here hx rfl (Jvm.hb hby at_222) ?_
      exact st1823 τ kt)
    have f1825 := f1816.keep Kq1823
    obtain ⟨_, T1826, L1826, X1826, ⟨rfl, Nq1826, eq1826⟩, st1826⟩ := own_virt (y := own_mn3) (b := q) X1823 hx hZ hown (own_W24 hw) (own_W25 hw) (own_W27 hw) (own_W26 hw) (by decide) (rmMax_12 l Z a0 hw [] q A B kA kB (0 : Int32) (0 : Int32) (1 : Int32) (0 : UInt64) (FP.i2d j0) (FP.i2d j1) T1823.heap n0 (Nat.le_trans Z0 K1823.1) f1825 f1_1823 f2_1823 f3_1823 f4_1823 f5_1823 f6_1823 naA naB nAB g_q gA gB) (own_W28 hw) (own_W2 hw) 0 (by decide) (by decide) f1825 rfl (mkF m 228 (own_LA3 p1 p2 p3 p4 p5 nn j0 j1 j2 jb q (.val (.int j0)) (.val (.int j1)) (.val (.int j2)) (.val (.int (1 : Int32))) (.val (.int (1 : Int32))) .unset) [(.ref q)]) rfl (by rw [hml]; rfl) [] [] rfl (lenOf own_pd___D rfl) rfl (Nat.le_refl _) (Jvm.hb hby at_228) (by decide) (by decide)
    have N1826 := Fr.app N1823 Nq1826
    have pre1827 := fun (τ : State) kt => pre1824 τ (by
      refine XS.aload X1823.here hx rfl (Jvm.hb hby at_226) rfl rfl ?_
      exact st1826 τ kt)
    obtain ⟨_, T1828, L1828, X1828, ⟨rfl, Nq1828, eq1828⟩, st1828⟩ := own_stat (y := own_mn5) X1826 hx hZ hown (own_W34 hw) (own_W35 hw) (by decide) (rmE2 l Z a0 hw [] (FP.i2d j0) j0 jb T1823.heap n0 (Nat.le_trans Z0 K1823.1) (own_ne100 (by (try simp only [own_max_int, own_m100]); omega)) (own_eq (by simp only [own_max_int, own_min_int, own_m100]; omega) _)) (own_W37 hw) (own_W36 hw) 0 (by decide) (by decide) eq1826 (mkF m 235 (own_LA3 p1 p2 p3 p4 p5 nn j0 j1 j2 jb q (.val (.int j0)) (.val (.int j1)) (.val (.int j2)) (.val (.int (1 : Int32))) (.val (.int (1 : Int32))) .unset) [(.int jb), (.int j0), (.double (FP.i2d j0))]) rfl (by rw [hml]; rfl) [(.double (FP.i2d j0)), (.int j0), (.int jb)] [] rfl (lenOf own_pd__DII_Z rfl) rfl (Nat.le_refl _) (Jvm.hb hby at_235) (by decide) (by decide)
    have N1828 := Fr.app N1826 Nq1828
    have pre1829 := fun (τ : State) kt => pre1827 τ (by
      refine XS.iload X1826.here hx rfl (Jvm.hb hby at_231) rfl ?_
      refine XS.iload X1826.here hx rfl (Jvm.hb hby at_233) rfl ?_
      exact st1828 τ kt)
    have pre1830 := fun (τ : State) kt => pre1829 τ (by
      refine XS.istore X1828.here hx rfl (Jvm.hb hby at_238) rfl (l' := (own_LA3 p1 p2 p3 p4 p5 nn j0 j1 j2 jb q (.val (.int j0)) (.val (.int j1)) (.val (.int j2)) (.val (.int (1 : Int32))) (.val (.int (1 : Int32))) (.val (.int (1 : Int32))))) rfl ?_
      refine XS.iload X1828.here hx rfl (Jvm.hb hby at_240) rfl ?_
      refine XS.ifNo X1828.here hx rfl (Jvm.hb hby at_242) rfl ((if0 _ _).trans (feq (by decide)).1) ?_
      refine XS.iload X1828.here hx rfl (Jvm.hb hby at_245) rfl ?_
      refine XS.ifNo X1828.here hx rfl (Jvm.hb hby at_247) rfl ((if0 _ _).trans (feq (by decide)).1) ?_
      refine XS.iload X1828.here hx rfl (Jvm.hb hby at_250) rfl ?_
      refine XS.ifNo X1828.here hx rfl (Jvm.hb hby at_252) rfl ((if0 _ _).trans (feq (by decide)).1) ?_
      refine XS.iconst X1828.here hx rfl (Jvm.hb hby at_255) ?_
      refine XS.goto X1828.here hx rfl (pc0 := 256) (pc' := 260) rfl (Jvm.hb hby at_256) (by decide) (by decide) ?_
      exact kt)
    obtain ⟨fs, hrL, hrun, hended, hW, hsame⟩ := X1828.leave (v := some (.int (1 : Int32))) (fun h => by rw [Bd.returns] at h; cases h)
    refine ⟨_, _, cast (congrFun hPS _) (pre1830 _ ?_), hrun, hended, _, _, rfl, ?_, ⟨_, rfl⟩, hW, hsame.mono (by decide) (by decide)⟩
    · show Steps p.tables e below (T1828.setTop (mkF m 260 (own_LA3 p1 p2 p3 p4 p5 nn j0 j1 j2 jb q (.val (.int j0)) (.val (.int j1)) (.val (.int j2)) (.val (.int (1 : Int32))) (.val (.int (1 : Int32))) (.val (.int (1 : Int32)))) [(.int (1 : Int32))])) _
      exact retN X1828 hx (t := .boolean) Bd.returns (by simp) (Jvm.hb hby at_260) hrL
    · show Q0 n0 _ T1828.heap _
      exact ⟨rfl, N1828⟩
  have f1831 := f1703.keep Kq1704
  obtain ⟨_, T1832, L1832, X1832, ⟨rfl, Nq1832, Kq1832, f1_1832, f2_1832, f3_1832, f4_1832, f5_1832, f6_1832⟩, st1832⟩ := own_virt (y := own_mn7) (b := q) X1704 hx hZ hown (own_W44 hw) (own_W45 hw) (own_W47 hw) (own_W46 hw) (by decide) (rmAdd_23_ce l Z a0 hw [] q (0 : Int32) (FP.i2d j0) A B kA kB (0 : Int32) (0 : Int32) (1 : Int32) (0 : UInt64) (0 : UInt64) (FP.i2d j1) T1704.heap n0 (Nat.le_trans Z0 K1704.1) f1831 f1_1704 f2_1704 f3_1704 f4_1704 f5_1704 f6_1704 naA naB nAB g_q gA gB (fun z => qa1707 ((own_gt _ _ _).mp z))) (own_W48 hw) (own_W2 hw) 0 (by decide) (by decide) f1831 rfl (mkF m 118 (own_LA3 p1 p2 p3 p4 p5 nn j0 j1 j2 jb q .unset .unset .unset .unset .unset .unset) [(.double (FP.i2d j0)), (.int (0 : Int32)), (.ref q)]) rfl (by rw [hml]; rfl) [(.int (0 : Int32)), (.double (FP.i2d j0))] [] rfl (lenOf own_pd__ID_V rfl) rfl (Nat.le_refl _) (Jvm.hb hby at_118) (by decide) (by decide)
  have N1832 := Fr.app N1704 Nq1832
  have K1832 : Keep h0 T1832.heap [] := K1704.trans Kq1832 (allS (Or.inr sz_q) (allS (Or.inr sz_A) (allS (Or.inr sz_B) (all0))))
  have pre1833 := fun (τ : State) kt => pre1706 τ (st1832 τ kt)
  have pre1834 := fun (τ : State) kt => pre1833 τ (by
    refine XS.aload X1832.here hx rfl (Jvm.hb hby at_121) rfl rfl ?_
    refine XS.iload X1832.here hx rfl (Jvm.hb hby at_123) rfl ?_
    refine own_i2d X1832.here hx rfl (Jvm.hb hby at_125) rfl ?_
    exact kt)
  by_cases qb1835 : jb.toInt < j0.toInt
  · skip
    have f1836 := f1831.keep Kq1832
    obtain ⟨_, T1837, L1837, X1837, ⟨rfl, Nq1837, Kq1837, f1_1837, f2_1837, f3_1837, f4_1837, f5_1837, f6_1837⟩, st1837⟩ := own_virt (y := own_mn2) (b := q) X1832 hx hZ hown (own_W19 hw) (own_W20 hw) (own_W22 hw) (own_W21 hw) (by decide) (rmCap_23_os l Z a0 hw [] q (FP.i2d jb) A B kA kB (0 : Int32) (0 : Int32) (0 : Int32) (0 : UInt64) (0 : UInt64) (FP.i2d j0) T1832.heap n0 (Nat.le_trans Z0 K1832.1) f1836 f1_1832 f2_1832 f3_1832 f4_1832 f5_1832 f6_1832 naA naB nAB g_q gA gB ((own_gt _ _ _).mpr qb1835)) (own_W23 hw) (own_W2 hw) 0 (by decide) (by decide) f1836 rfl (mkF m 126 (own_LA3 p1 p2 p3 p4 p5 nn j0 j1 j2 jb q .unset .unset .unset .unset .unset .unset) [(.double (FP.i2d jb)), (.ref q)]) rfl (by rw [hml]; rfl) [(.double (FP.i2d jb))] [] rfl (lenOf own_pd__D_V rfl) rfl (Nat.le_refl _) (Jvm.hb hby at_126) (by decide) (by decide)
    have N1837 := Fr.app N1832 Nq1837
    have K1837 : Keep h0 T1837.heap [] := K1832.trans Kq1837 (allS (Or.inr sz_q) (allS (Or.inr sz_A) (allS (Or.inr sz_B) (all0))))
    have pre1838 := fun (τ : State) kt => pre1834 τ (st1837 τ kt)
    have f1839 := f1836.keep Kq1837
    obtain ⟨_, T1840, L1840, X1840, ⟨rfl, Nq1840, eq1840⟩, st1840⟩ := own_virt (y := own_mn3) (b := q) X1837 hx hZ hown (own_W24 hw) (own_W25 hw) (own_W27 hw) (own_W26 hw) (by decide) (rmMax_23 l Z a0 hw [] q A B kA kB (0 : Int32) (0 : Int32) (0 : Int32) (0 : UInt64) (0 : UInt64) (FP.i2d jb) T1837.heap n0 (Nat.le_trans Z0 K1837.1) f1839 f1_1837 f2_1837 f3_1837 f4_1837 f5_1837 f6_1837 naA naB nAB g_q gA gB) (own_W28 hw) (own_W2 hw) 0 (by decide) (by decide) f1839 rfl (mkF m 173 (own_LA3 p1 p2 p3 p4 p5 nn j0 j1 j2 jb q (.val (.int j0)) (.val (.int j1)) (.val (.int j2)) .unset .unset .unset) [(.ref q)]) rfl (by rw [hml]; rfl) [] [] rfl (lenOf own_pd___D rfl) rfl (Nat.le_refl _) (Jvm.hb hby at_173) (by decide) (by decide)
    have N1840 := Fr.app N1837 Nq1840
    have pre1841 := fun (τ : State) kt => pre1838 τ (by
      refine XS.iload X1837.here hx rfl (Jvm.hb hby at_129) rfl ?_
      refine XS.ifNo X1837.here hx rfl (Jvm.hb hby at_131) rfl ((if0 _ _).trans (feq (by decide)).1) ?_
      refine XS.iload X1837.here hx rfl (Jvm.hb hby at_134) rfl ?_
      refine XS.goto X1837.here hx rfl (pc0 := 136) (pc' := 141) rfl (Jvm.hb hby at_136) (by decide) (by decide) ?_
      refine XS.istore X1837.here hx rfl (Jvm.hb hby at_141) rfl (l' := (own_LA3 p1 p2 p3 p4 p5 nn j0 j1 j2 jb q (.val (.int j0)) .unset .unset .unset .unset .unset)) rfl ?_
      refine XS.iload X1837.here hx rfl (Jvm.hb hby at_143) rfl ?_
      refine XS.ifNo X1837.here hx rfl (Jvm.hb hby at_145) rfl ((if0 _ _).trans (feq (by decide)).1) ?_
      refine XS.iload X1837.here hx rfl (Jvm.hb hby at_148) rfl ?_
      refine XS.goto X1837.here hx rfl (pc0 := 150) (pc' := 155) rfl (Jvm.hb hby at_150) (by decide) (by decide) ?_
      refine XS.istore X1837.here hx rfl (Jvm.hb hby at_155) rfl (l' := (own_LA3 p1 p2 p3 p4 p5 nn j0 j1 j2 jb q (.val (.int j0)) (.val (.int j1)) .unset .unset .unset .unset)) rfl ?_
      refine XS.iload X1837.here hx rfl (Jvm.hb hby at_157) rfl ?_
      refine XS.ifNo X1837.here hx rfl (Jvm.hb hby at_159) rfl ((if0 _ _).trans (feq (by decide)).1) ?_
      refine XS.iload X1837.here hx rfl (Jvm.hb hby at_162) rfl ?_
      refine XS.goto X1837.here hx rfl (pc0 := 164) (pc' := 169) rfl (Jvm.hb hby at_164) (by decide) (by decide) ?_
      refine XS.istore X1837.here hx rfl (Jvm.hb hby at_169) rfl (l' := (own_LA3 p1 p2 p3 p4 p5 nn j0 j1 j2 jb q (.val (.int j0)) (.val (.int j1)) (.val (.int j2)) .unset .unset .unset)) rfl ?_
      refine XS.aload X1837.here hx rfl (Jvm.hb hby at_171) rfl rfl ?_
      exact st1840 τ kt)
    obtain ⟨_, T1842, L1842, X1842, ⟨rfl, Nq1842, eq1842⟩, st1842⟩ := own_stat (y := own_mn4) X1840 hx hZ hown (own_W30 hw) (own_W31 hw) (by decide) (rm_max l Z a0 hw [] j1 j2 T1837.heap n0 (Nat.le_trans Z0 K1837.1)) (own_W33 hw) (own_W32 hw) 3 (by decide) (by decide) eq1840 (mkF m 182 (own_LA3 p1 p2 p3 p4 p5 nn j0 j1 j2 jb q (.val (.int j0)) (.val (.int j1)) (.val (.int j2)) .unset .unset .unset) [(.int j2), (.int j1), (.int j0), (.double (FP.i2d jb))]) rfl (by rw [hml]; rfl) [(.int j1), (.int j2)] [(.int j0), (.double (FP.i2d jb))] rfl (lenOf own_pd__II_I rfl) rfl (Nat.le_refl _) (Jvm.hb hby at_182) (by decide) (by decide)
    have N1842 := Fr.app N1840 Nq1842
    have pre1843 := fun (τ : State) kt => pre1841 τ (by
      refine XS.iload X1840.here hx rfl (Jvm.hb hby at_176) rfl ?_
      refine XS.iload X1840.here hx rfl (Jvm.hb hby at_178) rfl ?_
      refine XS.iload X1840.here hx rfl (Jvm.hb hby at_180) rfl ?_
      exact st1842 τ kt)
    obtain ⟨_, T1844, L1844, X1844, ⟨rfl, Nq1844, eq1844⟩, st1844⟩ := own_stat (y := own_mn4) X1842 hx hZ hown (own_W30 hw) (own_W31 hw) (by decide) (rm_max l Z a0 hw [] j0 (own_max j1 j2) T1837.heap n0 (Nat.le_trans Z0 K1837.1)) (own_W33 hw) (own_W32 hw) 2 (by decide) (by decide) eq1842 (mkF m 185 (own_LA3 p1 p2 p3 p4 p5 nn j0 j1 j2 jb q (.val (.int j0)) (.val (.int j1)) (.val (.int j2)) .unset .unset .unset) [(.int (own_max j1 j2)), (.int j0), (.double (FP.i2d jb))]) rfl (by rw [hml]; rfl) [(.int j0), (.int (own_max j1 j2))] [(.double (FP.i2d jb))] rfl (lenOf own_pd__II_I rfl) rfl (Nat.le_refl _) (Jvm.hb hby at_185) (by decide) (by decide)
    have N1844 := Fr.app N1842 Nq1844
    have pre1845 := fun (τ : State) kt => pre1843 τ (st1844 τ kt)
    obtain ⟨_, T1846, L1846, X1846, ⟨rfl, Nq1846, eq1846⟩, st1846⟩ := own_stat (y := own_mn5) X1844 hx hZ hown (own_W34 hw) (own_W35 hw) (by decide) (rmE2 l Z a0 hw [] (FP.i2d jb) (own_max j0 (own_max j1 j2)) jb T1837.heap n0 (Nat.le_trans Z0 K1837.1) (own_ne100 (by (try simp only [own_max_int, own_m100]); omega)) (own_eq (by simp only [own_max_int, own_min_int, own_m100]; omega) _)) (own_W37 hw) (own_W36 hw) 0 (by decide) (by decide) eq1844 (mkF m 190 (own_LA3 p1 p2 p3 p4 p5 nn j0 j1 j2 jb q (.val (.int j0)) (.val (.int j1)) (.val (.int j2)) .unset .unset .unset) [(.int jb), (.int (own_max j0 (own_max j1 j2))), (.double (FP.i2d jb))]) rfl (by rw [hml]; rfl) [(.double (FP.i2d jb)), (.int (own_max j0 (own_max j1 j2))), (.int jb)] [] rfl (lenOf own_pd__DII_Z rfl) rfl (Nat.le_refl _) (Jvm.hb hby at_190) (by decide) (by decide)
    have N1846 := Fr.app N1844 Nq1846
    have pre1847 := fun (τ : State) kt => pre1845 τ (by
      refine XS.iload X1844.here hx rfl (Jvm.hb hby at_188) rfl ?_
      exact st1846 τ kt)
    obtain ⟨_, T1848, L1848, X1848, ⟨rfl, Nq1848, Kq1848, f1_1848, f2_1848, f3_1848, f4_1848, f5_1848, f6_1848⟩, st1848⟩ := own_virt (y := own_mn6) (b := q) X1846 hx hZ hown (own_W39 hw) (own_W40 hw) (own_W42 hw) (own_W41 hw) (by decide) (rmRem_23_x l Z a0 hw [] q (1 : Int32) A B kA kB (0 : Int32) (0 : Int32) (0 : Int32) (0 : UInt64) (0 : UInt64) (FP.i2d jb) T1837.heap n0 (Nat.le_trans Z0 K1837.1) f1839 f1_1837 f2_1837 f3_1837 f4_1837 f5_1837 f6_1837 naA naB nAB g_q gA gB (by decide)) (own_W43 hw) (own_W2 hw) 0 (by decide) (by decide) f1839 eq1846 (mkF m 198 (own_LA3 p1 p2 p3 p4 p5 nn j0 j1 j2 jb q (.val (.int j0)) (.val (.int j1)) (.val (.int j2)) (.val (.int (1 : Int32))) .unset .unset) [(.int (1 : Int32)), (.ref q)]) rfl (by rw [hml]; rfl) [(.int (1 : Int32))] [] rfl (lenOf own_pd__I_V rfl) rfl (Nat.le_refl _) (Jvm.hb hby at_198) (by decide) (by decide)
    have N1848 := Fr.app N1846 Nq1848
    have K1848 : Keep h0 T1848.heap [] := K1837.trans Kq1848 (allS (Or.inr sz_q) (allS (Or.inr sz_A) (allS (Or.inr sz_B) (all0))))
    have pre1849 := fun (τ : State) kt => pre1847 τ (by
      refine XS.istore X1846.here hx rfl (Jvm.hb hby at_193) rfl (l' := (own_LA3 p1 p2 p3 p4 p5 nn j0 j1 j2 jb q (.val (.int j0)) (.val (.int j1)) (.val (.int j2)) (.val (.int (1 : Int32))) .unset .unset)) rfl ?_
      refine XS.aload X1846.here hx rfl (Jvm.hb hby at_195) rfl rfl ?_
      refine XS.iconst X1846.here hx rfl (Jvm.hb hby at_197) ?_
      exact st1848 τ kt)
    have f1850 := f1839.keep Kq1848
    obtain ⟨_, T1851, L1851, X1851, ⟨rfl, Nq1851, eq1851⟩, st1851⟩ := own_virt (y := own_mn3) (b := q) X1848 hx hZ hown (own_W24 hw) (own_W25 hw) (own_W27 hw) (own_W26 hw) (by decide) (rmMax_23 l Z a0 hw [] q A B kA kB (0 : Int32) (0 : Int32) (0 : Int32) (0 : UInt64) (0 : UInt64) (FP.i2d jb) T1848.heap n0 (Nat.le_trans Z0 K1848.1) f1850 f1_1848 f2_1848 f3_1848 f4_1848 f5_1848 f6_1848 naA naB nAB g_q gA gB) (own_W28 hw) (own_W2 hw) 0 (by decide) (by decide) f1850 rfl (mkF m 203 (own_LA3 p1 p2 p3 p4 p5 nn j0 j1 j2 jb q (.val (.int j0)) (.val (.int j1)) (.val (.int j2)) (.val (.int (1 : Int32))) .unset .unset) [(.ref q)]) rfl (by rw [hml]; rfl) [] [] rfl (lenOf own_pd___D rfl) rfl (Nat.le_refl _) (Jvm.hb hby at_203) (by decide) (by decide)
    have N1851 := Fr.app N1848 Nq1851
    have pre1852 := fun (τ : State) kt => pre1849 τ (by
      refine XS.aload X1848.here hx rfl (Jvm.hb hby at_201) rfl rfl ?_
      exact st1851 τ kt)
    obtain ⟨_, T1853, L1853, X1853, ⟨rfl, Nq1853, eq1853⟩, st1853⟩ := own_stat (y := own_mn4) X1851 hx hZ hown (own_W30 hw) (own_W31 hw) (by decide) (rm_max l Z a0 hw [] j0 j1 T1848.heap n0 (Nat.le_trans Z0 K1848.1)) (own_W33 hw) (own_W32 hw) 2 (by decide) (by decide) eq1851 (mkF m 210 (own_LA3 p1 p2 p3 p4 p5 nn j0 j1 j2 jb q (.val (.int j0)) (.val (.int j1)) (.val (.int j2)) (.val (.int (1 : Int32))) .unset .unset) [(.int j1), (.int j0), (.double (FP.i2d jb))]) rfl (by rw [hml]; rfl) [(.int j0), (.int j1)] [(.double (FP.i2d jb))] rfl (lenOf own_pd__II_I rfl) rfl (Nat.le_refl _) (Jvm.hb hby at_210) (by decide) (by decide)
    have N1853 := Fr.app N1851 Nq1853
    have pre1854 := fun (τ : State) kt => pre1852 τ (by
      refine XS.iload X1851.here hx rfl (Jvm.hb hby at_206) rfl ?_
      refine XS.iload X1851.here hx rfl (Jvm.hb hby at_208) rfl ?_
      exact st1853 τ kt)
    obtain ⟨_, T1855, L1855, X1855, ⟨rfl, Nq1855, eq1855⟩, st1855⟩ := own_stat (y := own_mn5) X1853 hx hZ hown (own_W34 hw) (own_W35 hw) (by decide) (rmE2 l Z a0 hw [] (FP.i2d jb) (own_max j0 j1) jb T1848.heap n0 (Nat.le_trans Z0 K1848.1) (own_ne100 (by (try simp only [own_max_int, own_m100]); omega)) (own_eq (by simp only [own_max_int, own_min_int, own_m100]; omega) _)) (own_W37 hw) (own_W36 hw) 0 (by decide) (by decide) eq1853 (mkF m 215 (own_LA3 p1 p2 p3 p4 p5 nn j0 j1 j2 jb q (.val (.int j0)) (.val (.int j1)) (.val (.int j2)) (.val (.int (1 : Int32))) .unset .unset) [(.int jb), (.int (own_max j0 j1)), (.double (FP.i2d jb))]) rfl (by rw [hml]; rfl) [(.double (FP.i2d jb)), (.int (own_max j0 j1)), (.int jb)] [] rfl (lenOf own_pd__DII_Z rfl) rfl (Nat.le_refl _) (Jvm.hb hby at_215) (by decide) (by decide)
    have N1855 := Fr.app N1853 Nq1855
    have pre1856 := fun (τ : State) kt => pre1854 τ (by
      refine XS.iload X1853.here hx rfl (Jvm.hb hby at_213) rfl ?_
      exact st1855 τ kt)
    obtain ⟨_, T1857, L1857, X1857, ⟨rfl, Nq1857, Kq1857, f1_1857, f2_1857, f3_1857, f4_1857, f5_1857, f6_1857⟩, st1857⟩ := own_virt (y := own_mn6) (b := q) X1855 hx hZ hown (own_W39 hw) (own_W40 hw) (own_W42 hw) (own_W41 hw) (by decide) (rmRem_23_x l Z a0 hw [] q (0 : Int32) A B kA kB (0 : Int32) (0 : Int32) (0 : Int32) (0 : UInt64) (0 : UInt64) (FP.i2d jb) T1848.heap n0 (Nat.le_trans Z0 K1848.1) f1850 f1_1848 f2_1848 f3_1848 f4_1848 f5_1848 f6_1848 naA naB nAB g_q gA gB (by decide)) (own_W43 hw) (own_W2 hw) 0 (by decide) (by decide) f1850 eq1855 (mkF m 223 (own_LA3 p1 p2 p3 p4 p5 nn j0 j1 j2 jb q (.val (.int j0)) (.val (.int j1)) (.val (.int j2)) (.val (.int (1 : Int32))) (.val (.int (1 : Int32))) .unset) [(.int (0 : Int32)), (.ref q)]) rfl (by rw [hml]; rfl) [(.int (0 : Int32))] [] rfl (lenOf own_pd__I_V rfl) rfl (Nat.le_refl _) (Jvm.hb hby at_223) (by decide) (by decide)
    have N1857 := Fr.app N1855 Nq1857
    have K1857 : Keep h0 T1857.heap [] := K1848.trans Kq1857 (allS (Or.inr sz_q) (allS (Or.inr sz_A) (allS (Or.inr sz_B) (all0))))
    have pre1858 := fun (τ : State) kt => pre1856 τ (by
      refine XS.istore X1855.here hx rfl (Jvm.hb hby at_218) rfl (l' := (own_LA3 p1 p2 p3 p4 p5 nn j0 j1 j2 jb q (.val (.int j0)) (.val (.int j1)) (.val (.int j2)) (.val (.int (1 : Int32))) (.val (.int (1 : Int32))) .unset)) rfl ?_
      refine XS.aload X1855.here hx rfl (Jvm.hb hby at_220) rfl rfl ?_
      refine XS.iconst X1855.here hx rfl (Jvm.hb hby at_222) ?_
      exact st1857 τ kt)
    have f1859 := f1850.keep Kq1857
    obtain ⟨_, T1860, L1860, X1860, ⟨rfl, Nq1860, eq1860⟩, st1860⟩ := own_virt (y := own_mn3) (b := q) X1857 hx hZ hown (own_W24 hw) (own_W25 hw) (own_W27 hw) (own_W26 hw) (by decide) (rmMax_23 l Z a0 hw [] q A B kA kB (0 : Int32) (0 : Int32) (0 : Int32) (0 : UInt64) (0 : UInt64) (FP.i2d jb) T1857.heap n0 (Nat.le_trans Z0 K1857.1) f1859 f1_1857 f2_1857 f3_1857 f4_1857 f5_1857 f6_1857 naA naB nAB g_q gA gB) (own_W28 hw) (own_W2 hw) 0 (by decide) (by decide) f1859 rfl (mkF m 228 (own_LA3 p1 p2 p3 p4 p5 nn j0 j1 j2 jb q (.val (.int j0)) (.val (.int j1)) (.val (.int j2)) (.val (.int (1 : Int32))) (.val (.int (1 : Int32))) .unset) [(.ref q)]) rfl (by rw [hml]; rfl) [] [] rfl (lenOf own_pd___D rfl) rfl (Nat.le_refl _) (Jvm.hb hby at_228) (by decide) (by decide)
    have N1860 := Fr.app N1857 Nq1860
    have pre1861 := fun (τ : State) kt => pre1858 τ (by
      refine XS.aload X1857.here hx rfl (Jvm.hb hby at_226) rfl rfl ?_
      exact st1860 τ kt)
    obtain ⟨_, T1862, L1862, X1862, ⟨rfl, Nq1862, eq1862⟩, st1862⟩ := own_stat (y := own_mn5) X1860 hx hZ hown (own_W34 hw) (own_W35 hw) (by decide) (rmE2 l Z a0 hw [] (FP.i2d jb) j0 jb T1857.heap n0 (Nat.le_trans Z0 K1857.1) (own_ne100 (by (try simp only [own_max_int, own_m100]); omega)) (own_eq (by simp only [own_max_int, own_min_int, own_m100]; omega) _)) (own_W37 hw) (own_W36 hw) 0 (by decide) (by decide) eq1860 (mkF m 235 (own_LA3 p1 p2 p3 p4 p5 nn j0 j1 j2 jb q (.val (.int j0)) (.val (.int j1)) (.val (.int j2)) (.val (.int (1 : Int32))) (.val (.int (1 : Int32))) .unset) [(.int jb), (.int j0), (.double (FP.i2d jb))]) rfl (by rw [hml]; rfl) [(.double (FP.i2d jb)), (.int j0), (.int jb)] [] rfl (lenOf own_pd__DII_Z rfl) rfl (Nat.le_refl _) (Jvm.hb hby at_235) (by decide) (by decide)
    have N1862 := Fr.app N1860 Nq1862
    have pre1863 := fun (τ : State) kt => pre1861 τ (by
      refine XS.iload X1860.here hx rfl (Jvm.hb hby at_231) rfl ?_
      refine XS.iload X1860.here hx rfl (Jvm.hb hby at_233) rfl ?_
      exact st1862 τ kt)
    have pre1864 := fun (τ : State) kt => pre1863 τ (by
      refine XS.istore X1862.here hx rfl (Jvm.hb hby at_238) rfl (l' := (own_LA3 p1 p2 p3 p4 p5 nn j0 j1 j2 jb q (.val (.int j0)) (.val (.int j1)) (.val (.int j2)) (.val (.int (1 : Int32))) (.val (.int (1 : Int32))) (.val (.int (1 : Int32))))) rfl ?_
      refine XS.iload X1862.here hx rfl (Jvm.hb hby at_240) rfl ?_
      refine XS.ifNo X1862.here hx rfl (Jvm.hb hby at_242) rfl ((if0 _ _).trans (feq (by decide)).1) ?_
      refine XS.iload X1862.here hx rfl (Jvm.hb hby at_245) rfl ?_
      refine XS.ifNo X1862.here hx rfl (Jvm.hb hby at_247) rfl ((if0 _ _).trans (feq (by decide)).1) ?_
      refine XS.iload X1862.here hx rfl (Jvm.hb hby at_250) rfl ?_
      refine XS.ifNo X1862.here hx rfl (Jvm.hb hby at_252) rfl ((if0 _ _).trans (feq (by decide)).1) ?_
      refine XS.iconst X1862.here hx rfl (Jvm.hb hby at_255) ?_
      refine XS.goto X1862.here hx rfl (pc0 := 256) (pc' := 260) rfl (Jvm.hb hby at_256) (by decide) (by decide) ?_
      exact kt)
    obtain ⟨fs, hrL, hrun, hended, hW, hsame⟩ := X1862.leave (v := some (.int (1 : Int32))) (fun h => by rw [Bd.returns] at h; cases h)
    refine ⟨_, _, cast (congrFun hPS _) (pre1864 _ ?_), hrun, hended, _, _, rfl, ?_, ⟨_, rfl⟩, hW, hsame.mono (by decide) (by decide)⟩
    · show Steps p.tables e below (T1862.setTop (mkF m 260 (own_LA3 p1 p2 p3 p4 p5 nn j0 j1 j2 jb q (.val (.int j0)) (.val (.int j1)) (.val (.int j2)) (.val (.int (1 : Int32))) (.val (.int (1 : Int32))) (.val (.int (1 : Int32)))) [(.int (1 : Int32))])) _
      exact retN X1862 hx (t := .boolean) Bd.returns (by simp) (Jvm.hb hby at_260) hrL
    · show Q0 n0 _ T1862.heap _
      exact ⟨rfl, N1862⟩
  have f1865 := f1831.keep Kq1832
  obtain ⟨_, T1866, L1866, X1866, ⟨rfl, Nq1866, Kq1866, f1_1866, f2_1866, f3_1866, f4_1866, f5_1866, f6_1866⟩, st1866⟩ := own_virt (y := own_mn2) (b := q) X1832 hx hZ hown (own_W19 hw) (own_W20 hw) (own_W22 hw) (own_W21 hw) (by decide) (rmCap_23_ok l Z a0 hw [] q (FP.i2d jb) A B kA kB (0 : Int32) (0 : Int32) (0 : Int32) (0 : UInt64) (0 : UInt64) (FP.i2d j0) T1832.heap n0 (Nat.le_trans Z0 K1832.1) f1865 f1_1832 f2_1832 f3_1832 f4_1832 f5_1832 f6_1832 naA naB nAB g_q gA gB (fun z => qb1835 ((own_gt _ _ _).mp z))) (own_W23 hw) (own_W2 hw) 0 (by decide) (by decide) f1865 rfl (mkF m 126 (own_LA3 p1 p2 p3 p4 p5 nn j0 j1 j2 jb q .unset .unset .unset .unset .unset .unset) [(.double (FP.i2d jb)), (.ref q)]) rfl (by rw [hml]; rfl) [(.double (FP.i2d jb))] [] rfl (lenOf own_pd__D_V rfl) rfl (Nat.le_refl _) (Jvm.hb hby at_126) (by decide) (by decide)
  have N1866 := Fr.app N1832 Nq1866
  have K1866 : Keep h0 T1866.heap [] := K1832.trans Kq1866 (allS (Or.inr sz_q) (allS (Or.inr sz_A) (allS (Or.inr sz_B) (all0))))
  have pre1867 := fun (τ : State) kt => pre1834 τ (st1866 τ kt)
  have f1868 := f1865.keep Kq1866
  obtain ⟨_, T1869, L1869, X1869, ⟨rfl, Nq1869, eq1869⟩, st1869⟩ := own_virt (y := own_mn3) (b := q) X1866 hx hZ hown (own_W24 hw) (own_W25 hw) (own_W27 hw) (own_W26 hw) (by decide) (rmMax_23 l Z a0 hw [] q A B kA kB (0 : Int32) (0 : Int32) (0 : Int32) (0 : UInt64) (0 : UInt64) (FP.i2d j0) T1866.heap n0 (Nat.le_trans Z0 K1866.1) f1868 f1_1866 f2_1866 f3_1866 f4_1866 f5_1866 f6_1866 naA naB nAB g_q gA gB) (own_W28 hw) (own_W2 hw) 0 (by decide) (by decide) f1868 rfl (mkF m 173 (own_LA3 p1 p2 p3 p4 p5 nn j0 j1 j2 jb q (.val (.int j0)) (.val (.int j1)) (.val (.int j2)) .unset .unset .unset) [(.ref q)]) rfl (by rw [hml]; rfl) [] [] rfl (lenOf own_pd___D rfl) rfl (Nat.le_refl _) (Jvm.hb hby at_173) (by decide) (by decide)
  have N1869 := Fr.app N1866 Nq1869
  have pre1870 := fun (τ : State) kt => pre1867 τ (by
    refine XS.iload X1866.here hx rfl (Jvm.hb hby at_129) rfl ?_
    refine XS.ifNo X1866.here hx rfl (Jvm.hb hby at_131) rfl ((if0 _ _).trans (feq (by decide)).1) ?_
    refine XS.iload X1866.here hx rfl (Jvm.hb hby at_134) rfl ?_
    refine XS.goto X1866.here hx rfl (pc0 := 136) (pc' := 141) rfl (Jvm.hb hby at_136) (by decide) (by decide) ?_
    refine XS.istore X1866.here hx rfl (Jvm.hb hby at_141) rfl (l' := (own_LA3 p1 p2 p3 p4 p5 nn j0 j1 j2 jb q (.val (.int j0)) .unset .unset .unset .unset .unset)) rfl ?_
    refine XS.iload X1866.here hx rfl (Jvm.hb hby at_143) rfl ?_
    refine XS.ifNo X1866.here hx rfl (Jvm.hb hby at_145) rfl ((if0 _ _).trans (feq (by decide)).1) ?_
    refine XS.iload X1866.here hx rfl (Jvm.hb hby at_148) rfl ?_
    refine XS.goto X1866.here hx rfl (pc0 := 150) (pc' := 155) rfl (Jvm.hb hby at_150) (by decide) (by decide) ?_
    refine XS.istore X1866.here hx rfl (Jvm.hb hby at_155) rfl (l' := (own_LA3 p1 p2 p3 p4 p5 nn j0 j1 j2 jb q (.val (.int j0)) (.val (.int j1)) .unset .unset .unset .unset)) rfl ?_
    refine XS.iload X1866.here hx rfl (Jvm.hb hby at_157) rfl ?_
    refine XS.ifNo X1866.here hx rfl (Jvm.hb hby at_159) rfl ((if0 _ _).trans (feq (by decide)).1) ?_
    refine XS.iload X1866.here hx rfl (Jvm.hb hby at_162) rfl ?_
    refine XS.goto X1866.here hx rfl (pc0 := 164) (pc' := 169) rfl (Jvm.hb hby at_164) (by decide) (by decide) ?_
    refine XS.istore X1866.here hx rfl (Jvm.hb hby at_169) rfl (l' := (own_LA3 p1 p2 p3 p4 p5 nn j0 j1 j2 jb q (.val (.int j0)) (.val (.int j1)) (.val (.int j2)) .unset .unset .unset)) rfl ?_
    refine XS.aload X1866.here hx rfl (Jvm.hb hby at_171) rfl rfl ?_
    exact st1869 τ kt)
  obtain ⟨_, T1871, L1871, X1871, ⟨rfl, Nq1871, eq1871⟩, st1871⟩ := own_stat (y := own_mn4) X1869 hx hZ hown (own_W30 hw) (own_W31 hw) (by decide) (rm_max l Z a0 hw [] j1 j2 T1866.heap n0 (Nat.le_trans Z0 K1866.1)) (own_W33 hw) (own_W32 hw) 3 (by decide) (by decide) eq1869 (mkF m 182 (own_LA3 p1 p2 p3 p4 p5 nn j0 j1 j2 jb q (.val (.int j0)) (.val (.int j1)) (.val (.int j2)) .unset .unset .unset) [(.int j2), (.int j1), (.int j0), (.double (FP.i2d j0))]) rfl (by rw [hml]; rfl) [(.int j1), (.int j2)] [(.int j0), (.double (FP.i2d j0))] rfl (lenOf own_pd__II_I rfl) rfl (Nat.le_refl _) (Jvm.hb hby at_182) (by decide) (by decide)
  have N1871 := Fr.app N1869 Nq1871
  have pre1872 := fun (τ : State) kt => pre1870 τ (by
    refine XS.iload X1869.here hx rfl (Jvm.hb hby at_176) rfl ?_
    refine XS.iload X1869.here hx rfl (Jvm.hb hby at_178) rfl ?_
    refine XS.iload X1869.here hx rfl (Jvm.hb hby at_180) rfl ?_
    exact st1871 τ kt)
  obtain ⟨_, T1873, L1873, X1873, ⟨rfl, Nq1873, eq1873⟩, st1873⟩ := own_stat (y := own_mn4) X1871 hx hZ hown (own_W30 hw) (own_W31 hw) (by decide) (rm_max l Z a0 hw [] j0 (own_max j1 j2) T1866.heap n0 (Nat.le_trans Z0 K1866.1)) (own_W33 hw) (own_W32 hw) 2 (by decide) (by decide) eq1871 (mkF m 185 (own_LA3 p1 p2 p3 p4 p5 nn j0 j1 j2 jb q (.val (.int j0)) (.val (.int j1)) (.val (.int j2)) .unset .unset .unset) [(.int (own_max j1 j2)), (.int j0), (.double (FP.i2d j0))]) rfl (by rw [hml]; rfl) [(.int j0), (.int (own_max j1 j2))] [(.double (FP.i2d j0))] rfl (lenOf own_pd__II_I rfl) rfl (Nat.le_refl _) (Jvm.hb hby at_185) (by decide) (by decide)
  have N1873 := Fr.app N1871 Nq1873
  have pre1874 := fun (τ : State) kt => pre1872 τ (st1873 τ kt)
  obtain ⟨_, T1875, L1875, X1875, ⟨rfl, Nq1875, eq1875⟩, st1875⟩ := own_stat (y := own_mn5) X1873 hx hZ hown (own_W34 hw) (own_W35 hw) (by decide) (rmE2 l Z a0 hw [] (FP.i2d j0) (own_max j0 (own_max j1 j2)) jb T1866.heap n0 (Nat.le_trans Z0 K1866.1) (own_ne100 (by (try simp only [own_max_int, own_m100]); omega)) (own_eq (by simp only [own_max_int, own_min_int, own_m100]; omega) _)) (own_W37 hw) (own_W36 hw) 0 (by decide) (by decide) eq1873 (mkF m 190 (own_LA3 p1 p2 p3 p4 p5 nn j0 j1 j2 jb q (.val (.int j0)) (.val (.int j1)) (.val (.int j2)) .unset .unset .unset) [(.int jb), (.int (own_max j0 (own_max j1 j2))), (.double (FP.i2d j0))]) rfl (by rw [hml]; rfl) [(.double (FP.i2d j0)), (.int (own_max j0 (own_max j1 j2))), (.int jb)] [] rfl (lenOf own_pd__DII_Z rfl) rfl (Nat.le_refl _) (Jvm.hb hby at_190) (by decide) (by decide)
  have N1875 := Fr.app N1873 Nq1875
  have pre1876 := fun (τ : State) kt => pre1874 τ (by
    refine XS.iload X1873.here hx rfl (Jvm.hb hby at_188) rfl ?_
    exact st1875 τ kt)
  obtain ⟨_, T1877, L1877, X1877, ⟨rfl, Nq1877, Kq1877, f1_1877, f2_1877, f3_1877, f4_1877, f5_1877, f6_1877⟩, st1877⟩ := own_virt (y := own_mn6) (b := q) X1875 hx hZ hown (own_W39 hw) (own_W40 hw) (own_W42 hw) (own_W41 hw) (by decide) (rmRem_23_x l Z a0 hw [] q (1 : Int32) A B kA kB (0 : Int32) (0 : Int32) (0 : Int32) (0 : UInt64) (0 : UInt64) (FP.i2d j0) T1866.heap n0 (Nat.le_trans Z0 K1866.1) f1868 f1_1866 f2_1866 f3_1866 f4_1866 f5_1866 f6_1866 naA naB nAB g_q gA gB (by decide)) (own_W43 hw) (own_W2 hw) 0 (by decide) (by decide) f1868 eq1875 (mkF m 198 (own_LA3 p1 p2 p3 p4 p5 nn j0 j1 j2 jb q (.val (.int j0)) (.val (.int j1)) (.val (.int j2)) (.val (.int (1 : Int32))) .unset .unset) [(.int (1 : Int32)), (.ref q)]) rfl (by rw [hml]; rfl) [(.int (1 : Int32))] [] rfl (lenOf own_pd__I_V rfl) rfl (Nat.le_refl _) (Jvm.hb hby at_198) (by decide) (by decide)
  have N1877 := Fr.app N1875 Nq1877
  have K1877 : Keep h0 T1877.heap [] := K1866.trans Kq1877 (allS (Or.inr sz_q) (allS (Or.inr sz_A) (allS (Or.inr sz_B) (all0))))
  have pre1878 := fun (τ : State) kt => pre1876 τ (by
    refine XS.istore X1875.here hx rfl (Jvm.hb hby at_193) rfl (l' := (own_LA3 p1 p2 p3 p4 p5 nn j0 j1 j2 jb q (.val (.int j0)) (.val (.int j1)) (.val (.int j2)) (.val (.int (1 : Int32))) .unset .unset)) rfl ?_
    refine XS.aload X1875.here hx rfl (Jvm.hb hby at_195) rfl rfl ?_
    refine XS.iconst X1875.here hx rfl (Jvm.hb hby at_197) ?_
    exact st1877 τ kt)
  have f1879 := f1868.keep Kq1877
  obtain ⟨_, T1880, L1880, X1880, ⟨rfl, Nq1880, eq1880⟩, st1880⟩ := own_virt (y := own_mn3) (b := q) X1877 hx hZ hown (own_W24 hw) (own_W25 hw) (own_W27 hw) (own_W26 hw) (by decide) (rmMax_23 l Z a0 hw [] q A B kA kB (0 : Int32) (0 : Int32) (0 : Int32) (0 : UInt64) (0 : UInt64) (FP.i2d j0) T1877.heap n0 (Nat.le_trans Z0 K1877.1) f1879 f1_1877 f2_1877 f3_1877 f4_1877 f5_1877 f6_1877 naA naB nAB g_q gA gB) (own_W28 hw) (own_W2 hw) 0 (by decide) (by decide) f1879 rfl (mkF m 203 (own_LA3 p1 p2 p3 p4 p5 nn j0 j1 j2 jb q (.val (.int j0)) (.val (.int j1)) (.val (.int j2)) (.val (.int (1 : Int32))) .unset .unset) [(.ref q)]) rfl (by rw [hml]; rfl) [] [] rfl (lenOf own_pd___D rfl) rfl (Nat.le_refl _) (Jvm.hb hby at_203) (by decide) (by decide)
  have N1880 := Fr.app N1877 Nq1880
  have pre1881 := fun (τ : State) kt => pre1878 τ (by
    refine XS.aload X1877.here hx rfl (Jvm.hb hby at_201) rfl rfl ?_
    exact st1880 τ kt)
  obtain ⟨_, T1882, L1882, X1882, ⟨rfl, Nq1882, eq1882⟩, st1882⟩ := own_stat (y := own_mn4) X1880 hx hZ hown (own_W30 hw) (own_W31 hw) (by decide) (rm_max l Z a0 hw [] j0 j1 T1877.heap n0 (Nat.le_trans Z0 K1877.1)) (own_W33 hw) (own_W32 hw) 2 (by decide) (by decide) eq1880 (mkF m 210 (own_LA3 p1 p2 p3 p4 p5 nn j0 j1 j2 jb q (.val (.int j0)) (.val (.int j1)) (.val (.int j2)) (.val (.int (1 : Int32))) .unset .unset) [(.int j1), (.int j0), (.double (FP.i2d j0))]) rfl (by rw [hml]; rfl) [(.int j0), (.int j1)] [(.double (FP.i2d j0))] rfl (lenOf own_pd__II_I rfl) rfl (Nat.le_refl _) (Jvm.hb hby at_210) (by decide) (by decide)
  have N1882 := Fr.app N1880 Nq1882
  have pre1883 := fun (τ : State) kt => pre1881 τ (by
    refine XS.iload X1880.here hx rfl (Jvm.hb hby at_206) rfl ?_
    refine XS.iload X1880.here hx rfl (Jvm.hb hby at_208) rfl ?_
    exact st1882 τ kt)
  obtain ⟨_, T1884, L1884, X1884, ⟨rfl, Nq1884, eq1884⟩, st1884⟩ := own_stat (y := own_mn5) X1882 hx hZ hown (own_W34 hw) (own_W35 hw) (by decide) (rmE2 l Z a0 hw [] (FP.i2d j0) (own_max j0 j1) jb T1877.heap n0 (Nat.le_trans Z0 K1877.1) (own_ne100 (by (try simp only [own_max_int, own_m100]); omega)) (own_eq (by simp only [own_max_int, own_min_int, own_m100]; omega) _)) (own_W37 hw) (own_W36 hw) 0 (by decide) (by decide) eq1882 (mkF m 215 (own_LA3 p1 p2 p3 p4 p5 nn j0 j1 j2 jb q (.val (.int j0)) (.val (.int j1)) (.val (.int j2)) (.val (.int (1 : Int32))) .unset .unset) [(.int jb), (.int (own_max j0 j1)), (.double (FP.i2d j0))]) rfl (by rw [hml]; rfl) [(.double (FP.i2d j0)), (.int (own_max j0 j1)), (.int jb)] [] rfl (lenOf own_pd__DII_Z rfl) rfl (Nat.le_refl _) (Jvm.hb hby at_215) (by decide) (by decide)
  have N1884 := Fr.app N1882 Nq1884
  have pre1885 := fun (τ : State) kt => pre1883 τ (by
    refine XS.iload X1882.here hx rfl (Jvm.hb hby at_213) rfl ?_
    exact st1884 τ kt)
  obtain ⟨_, T1886, L1886, X1886, ⟨rfl, Nq1886, Kq1886, f1_1886, f2_1886, f3_1886, f4_1886, f5_1886, f6_1886⟩, st1886⟩ := own_virt (y := own_mn6) (b := q) X1884 hx hZ hown (own_W39 hw) (own_W40 hw) (own_W42 hw) (own_W41 hw) (by decide) (rmRem_23_x l Z a0 hw [] q (0 : Int32) A B kA kB (0 : Int32) (0 : Int32) (0 : Int32) (0 : UInt64) (0 : UInt64) (FP.i2d j0) T1877.heap n0 (Nat.le_trans Z0 K1877.1) f1879 f1_1877 f2_1877 f3_1877 f4_1877 f5_1877 f6_1877 naA naB nAB g_q gA gB (by decide)) (own_W43 hw) (own_W2 hw) 0 (by decide) (by decide) f1879 eq1884 (mkF m 223 (own_LA3 p1 p2 p3 p4 p5 nn j0 j1 j2 jb q (.val (.int j0)) (.val (.int j1)) (.val (.int j2)) (.val (.int (1 : Int32))) (.val (.int (1 : Int32))) .unset) [(.int (0 : Int32)), (.ref q)]) rfl (by rw [hml]; rfl) [(.int (0 : Int32))] [] rfl (lenOf own_pd__I_V rfl) rfl (Nat.le_refl _) (Jvm.hb hby at_223) (by decide) (by decide)
  have N1886 := Fr.app N1884 Nq1886
  have K1886 : Keep h0 T1886.heap [] := K1877.trans Kq1886 (allS (Or.inr sz_q) (allS (Or.inr sz_A) (allS (Or.inr sz_B) (all0))))
  have pre1887 := fun (τ : State) kt => pre1885 τ (by
    refine XS.istore X1884.here hx rfl (Jvm.hb hby at_218) rfl (l' := (own_LA3 p1 p2 p3 p4 p5 nn j0 j1 j2 jb q (.val (.int j0)) (.val (.int j1)) (.val (.int j2)) (.val (.int (1 : Int32))) (.val (.int (1 : Int32))) .unset)) rfl ?_
    refine XS.aload X1884.here hx rfl (Jvm.hb hby at_220) rfl rfl ?_
    refine XS.iconst X1884.here hx rfl (Jvm.hb hby at_222) ?_
    exact st1886 τ kt)
  have f1888 := f1879.keep Kq1886
  obtain ⟨_, T1889, L1889, X1889, ⟨rfl, Nq1889, eq1889⟩, st1889⟩ := own_virt (y := own_mn3) (b := q) X1886 hx hZ hown (own_W24 hw) (own_W25 hw) (own_W27 hw) (own_W26 hw) (by decide) (rmMax_23 l Z a0 hw [] q A B kA kB (0 : Int32) (0 : Int32) (0 : Int32) (0 : UInt64) (0 : UInt64) (FP.i2d j0) T1886.heap n0 (Nat.le_trans Z0 K1886.1) f1888 f1_1886 f2_1886 f3_1886 f4_1886 f5_1886 f6_1886 naA naB nAB g_q gA gB) (own_W28 hw) (own_W2 hw) 0 (by decide) (by decide) f1888 rfl (mkF m 228 (own_LA3 p1 p2 p3 p4 p5 nn j0 j1 j2 jb q (.val (.int j0)) (.val (.int j1)) (.val (.int j2)) (.val (.int (1 : Int32))) (.val (.int (1 : Int32))) .unset) [(.ref q)]) rfl (by rw [hml]; rfl) [] [] rfl (lenOf own_pd___D rfl) rfl (Nat.le_refl _) (Jvm.hb hby at_228) (by decide) (by decide)
  have N1889 := Fr.app N1886 Nq1889
  have pre1890 := fun (τ : State) kt => pre1887 τ (by
    refine XS.aload X1886.here hx rfl (Jvm.hb hby at_226) rfl rfl ?_
    exact st1889 τ kt)
  obtain ⟨_, T1891, L1891, X1891, ⟨rfl, Nq1891, eq1891⟩, st1891⟩ := own_stat (y := own_mn5) X1889 hx hZ hown (own_W34 hw) (own_W35 hw) (by decide) (rmE2 l Z a0 hw [] (FP.i2d j0) j0 jb T1886.heap n0 (Nat.le_trans Z0 K1886.1) (own_ne100 (by (try simp only [own_max_int, own_m100]); omega)) (own_eq (by simp only [own_max_int, own_min_int, own_m100]; omega) _)) (own_W37 hw) (own_W36 hw) 0 (by decide) (by decide) eq1889 (mkF m 235 (own_LA3 p1 p2 p3 p4 p5 nn j0 j1 j2 jb q (.val (.int j0)) (.val (.int j1)) (.val (.int j2)) (.val (.int (1 : Int32))) (.val (.int (1 : Int32))) .unset) [(.int jb), (.int j0), (.double (FP.i2d j0))]) rfl (by rw [hml]; rfl) [(.double (FP.i2d j0)), (.int j0), (.int jb)] [] rfl (lenOf own_pd__DII_Z rfl) rfl (Nat.le_refl _) (Jvm.hb hby at_235) (by decide) (by decide)
  have N1891 := Fr.app N1889 Nq1891
  have pre1892 := fun (τ : State) kt => pre1890 τ (by
    refine XS.iload X1889.here hx rfl (Jvm.hb hby at_231) rfl ?_
    refine XS.iload X1889.here hx rfl (Jvm.hb hby at_233) rfl ?_
    exact st1891 τ kt)
  have pre1893 := fun (τ : State) kt => pre1892 τ (by
    refine XS.istore X1891.here hx rfl (Jvm.hb hby at_238) rfl (l' := (own_LA3 p1 p2 p3 p4 p5 nn j0 j1 j2 jb q (.val (.int j0)) (.val (.int j1)) (.val (.int j2)) (.val (.int (1 : Int32))) (.val (.int (1 : Int32))) (.val (.int (1 : Int32))))) rfl ?_
    refine XS.iload X1891.here hx rfl (Jvm.hb hby at_240) rfl ?_
    refine XS.ifNo X1891.here hx rfl (Jvm.hb hby at_242) rfl ((if0 _ _).trans (feq (by decide)).1) ?_
    refine XS.iload X1891.here hx rfl (Jvm.hb hby at_245) rfl ?_
    refine XS.ifNo X1891.here hx rfl (Jvm.hb hby at_247) rfl ((if0 _ _).trans (feq (by decide)).1) ?_
    refine XS.iload X1891.here hx rfl (Jvm.hb hby at_250) rfl ?_
    refine XS.ifNo X1891.here hx rfl (Jvm.hb hby at_252) rfl ((if0 _ _).trans (feq (by decide)).1) ?_
    refine XS.iconst X1891.here hx rfl (Jvm.hb hby at_255) ?_
    refine XS.goto X1891.here hx rfl (pc0 := 256) (pc' := 260) rfl (Jvm.hb hby at_256) (by decide) (by decide) ?_
    exact kt)
  obtain ⟨fs, hrL, hrun, hended, hW, hsame⟩ := X1891.leave (v := some (.int (1 : Int32))) (fun h => by rw [Bd.returns] at h; cases h)
  refine ⟨_, _, cast (congrFun hPS _) (pre1893 _ ?_), hrun, hended, _, _, rfl, ?_, ⟨_, rfl⟩, hW, hsame.mono (by decide) (by decide)⟩
  · show Steps p.tables e below (T1891.setTop (mkF m 260 (own_LA3 p1 p2 p3 p4 p5 nn j0 j1 j2 jb q (.val (.int j0)) (.val (.int j1)) (.val (.int j2)) (.val (.int (1 : Int32))) (.val (.int (1 : Int32))) (.val (.int (1 : Int32)))) [(.int (1 : Int32))])) _
    exact retN X1891 hx (t := .boolean) Bd.returns (by simp) (Jvm.hb hby at_260) hrL
  · show Q0 n0 _ T1891.heap _
    exact ⟨rfl, N1891⟩
set_option maxRecDepth 65536 in
set_option maxHeartbeats 40000000 in
theorem comes_1 {Post : Tables → Env → Array Value → State → Outcome → State → Prop} (hpost : ∀ tb e args s v u, (limb_1_1.after args s (.returned v) u = true ∧ limb_1_2.after args s (.returned v) u = true ∧ True) → FrameEnd s (.returned v) u (Jvm.fieldLocs frame_1_writes args s ++ Jvm.arrayLocs frame_1_arrays args s ++ Jvm.staticLocs frame_1_statics s) 16 128 → Post tb e args s (.returned v) u) :
    ArmFor flags0 classFile x code maxLocals ret World_1 tables_1 room_1 Calls_1 rest_1 Pre_1 Post := by
  intro l hfl _ _ p e ha hc hk s m args below hf hA hF happ hP
  obtain ⟨hcalls, hrest, hpre⟩ := hP
  obtain ⟨-, -, -, hnamed, -, -, -, hat⟩ := (Spec.applies_iff hf).mp happ
  obtain ⟨hg, hn⟩ := and_e (Cond.before_iff.mp (show (Jvm.Cond.and given_1 narrow_1).before args s = true from hpre))
  obtain ⟨g1, g2⟩ := and_e hg
  obtain ⟨g3, g4⟩ := and_e g2
  obtain ⟨g5, g6⟩ := and_e g4
  obtain ⟨g7, g8⟩ := and_e g6
  obtain ⟨g9, g10⟩ := and_e g8
  obtain ⟨w0, w1, w2, w3, w4, rfl⟩ : ∃ w0 w1 w2 w3 w4 : Value, args = #[w0, w1, w2, w3, w4] := by
    have hs : args.size = 5 := by simpa [Cond.value, given_1] using g1
    obtain ⟨L⟩ := args
    match L, hs with
    | [w0, w1, w2, w3, w4], _ => exact ⟨w0, w1, w2, w3, w4, rfl⟩
  have hw := fun d (hd : d ∈ tables_1) => atoms_spec (ws := Jvm.Cond.code x code maxLocals ret :: tables_1) hat d (List.mem_cons_of_mem _ hd)
  obtain ⟨i0, ei0⟩ := is_v g3
  obtain rfl : w0 = (.int i0) := Option.some.inj ei0
  obtain ⟨i1, ei1⟩ := is_v g5
  obtain rfl : w1 = (.int i1) := Option.some.inj ei1
  obtain ⟨i2, ei2⟩ := is_v g7
  obtain rfl : w2 = (.int i2) := Option.some.inj ei2
  obtain ⟨i3, ei3⟩ := is_v g9
  obtain rfl : w3 = (.int i3) := Option.some.inj ei3
  obtain ⟨i4, ei4⟩ := is_v g10
  obtain rfl : w4 = (.int i4) := Option.some.inj ei4
  obtain ⟨n, o, h1, h2, h3, _, L, rfl, ⟨rfl, N⟩, hq⟩ := rm0 l s _ hw tables_1 i0 i1 i2 i3 i4 s.heap s.heap.size (Nat.le_refl _) p e ha hc hk s m _ below hf ((Spec.applies_iff_loose hf).mp happ).1 ⟨rfl, State.Warmed39.refl s, rfl⟩ trivial
  refine ⟨n, _, h1, h2, h3, hpost _ _ _ _ _ _ ⟨Cond.after_iff.mpr rfl, Cond.after_iff.mpr (eq_i res_at (Term.int_eval (1)) rfl), trivial⟩ ⟨hq.1, hq.2.1, (hq.2.2.sift fun y hy => Or.inr (N y hy)).mono (by decide) (by decide)⟩⟩
theorem main_1_1 : Claimed_1_1 := comes_1 fun _ _ _ _ _ _ h hF => ⟨h.1, hF⟩
theorem main_1_2 : Claimed_1_2 := comes_1 fun _ _ _ _ _ _ h hF => ⟨h.2.1, hF⟩
end Jvm.Pilot.@@N@@
namespace Jvm.Pilot.@@N@@
open Jvm Jvm.ClassFile Sem Op Lib Jvm.Free Jvm.Stand Jvm.Pilot.@@N@@.Jvm.D
/-! MADE BY PROGRAM (witnessworld.py) out of the Statement's table words and the real class files: 12 classes; the members and pool entries that the words name. The judged class is class 1, her method 1. -/
namespace start1
open Jvm.ClassFile
def u (s : String) : CpInfo := .utf8 (stringToUtf16 s)
/-- a pool by its gaps: so many unusable entries, then the entry; so many at the end -/
def gap : Nat → List CpInfo → List CpInfo
  | 0, r => r
  | n + 1, r => .unusable :: gap n r
def poolList (es : List (Nat × CpInfo)) (last : Nat) : List CpInfo := es.foldr (fun e r => gap e.1 (e.2 :: r)) (gap last [])
def pool (es : List (Nat × CpInfo)) (last : Nat) : Array CpInfo := ⟨poolList es last⟩
def fileOf (pool : Array CpInfo) (this : Nat) (attrs : Array Attribute := #[]) (ms : Array MethodInfo := #[]) (fl : Nat := 33) (sup : Nat := 0) (ifs : Array Nat := #[]) (fds : Array FieldInfo := #[]) : ClassFile where
  minorVersion := 0
  majorVersion := 65
  constantPool := pool
  accessFlags := fl
  thisClass := this
  superClass := sup
  interfaces := ifs
  fields := fds
  methods := ms
  attributes := attrs
def plain (name : String) (sup : Option ClassId) : Class where
  name := name
  kind := .ordinary
  loader := none
  accessFlags := 33
  super := sup
  interfaces := #[]
  cf := none
  fields := #[]
  methods := #[]
  instanceTypes := #[]
  staticTypes := #[]
  resolved := #[]
  callSites := []
  init := .initialized
  statics := none
  mirror := none

def pool0 : Array CpInfo := pool [(5, u "<init>"), (0, u "()V"), (1, .class_ 10), (1, u "java/lang/Object")] 113

def k0c0 : Code := { maxStack := 0, maxLocals := 1, code := object_method_1_code, exceptionTable := #[], attributes := #[] }
def k0m0 : Method := { name := "<init>", desc := "()V", sig := { parameters := [], returnType := none }, accessFlags := 1, code := some k0c0 }
/-- java/lang/Object -/
def k0 : Class := { plain "java/lang/Object" none with
  accessFlags := 33
  interfaces := #[]
  cf := some (fileOf pool0 8 #[] #[{ accessFlags := 1, nameIndex := 5, descriptorIndex := 6, attributes := #[] }] 33 0 #[] #[])
  fields := #[]
  methods := #[k0m0]
  instanceTypes := #[]
  staticTypes := #[]
  resolved := Array.replicate 124 none
  statics := none }

def pool1 : Array CpInfo := pool [(2, .class_ 4), (1, u "java/lang/Object"), (0, u "<init>"), (0, u "()V"), (0, .class_ 8), (0, u "com/example/counterpath/counterpath/core/CappedMaximum"), (0, .methodref 7 10), (0, .nameAndType 5 11), (0, u "(I)V"), (0, .methodref 7 13), (0, .nameAndType 14 15), (0, u "addFirst"), (0, u "(ID)V"), (0, .methodref 7 17), (0, .nameAndType 18 19), (0, u "cap"), (0, u "(D)V"), (0, .methodref 7 21), (0, .nameAndType 22 23), (0, u "maximum"), (0, u "()D"), (0, .methodref 25 26), (0, .class_ 27), (0, .nameAndType 28 29), (0, u "java/lang/Math"), (0, u "max"), (0, u "(II)I"), (0, .methodref 31 32), (0, .class_ 33), (0, .nameAndType 34 35), (0, u "com/example/counterpath/counterpath/core/CappedMaximumCapPinLaw"), (0, u "expect"), (0, u "(DII)Z"), (0, .methodref 7 37), (0, .nameAndType 38 11), (0, u "removeAfter"), (2, .double 18442240474082181120), (1, .methodref 25 44), (0, .nameAndType 45 29), (0, u "min"), (2, u "law"), (0, u "(IIIII)Z")] 3

def k1m0 : Method := { name := "<init>", desc := "()V", sig := { parameters := [], returnType := none }, accessFlags := 1, code := none }
def k1c1 : Code := { maxStack := 5, maxLocals := 20, code := code, exceptionTable := #[], attributes := #[] }
def k1m1 : Method := { name := "law", desc := "(IIIII)Z", sig := { parameters := [.int, .int, .int, .int, .int], returnType := some .boolean }, accessFlags := 9, code := some k1c1 }
def k1c2 : Code := { maxStack := 4, maxLocals := 4, code := method_3_code, exceptionTable := #[], attributes := #[] }
def k1m2 : Method := { name := "expect", desc := "(DII)Z", sig := { parameters := [.double, .int, .int], returnType := some .boolean }, accessFlags := 10, code := some k1c2 }
/-- com/example/counterpath/counterpath/core/CappedMaximumCapPinLaw -/
def k1 : Class := { plain "com/example/counterpath/counterpath/core/CappedMaximumCapPinLaw" (some 0) with
  accessFlags := 49
  interfaces := #[]
  cf := some (fileOf pool1 31 #[] #[{ accessFlags := 1, nameIndex := 5, descriptorIndex := 6, attributes := #[] }, { accessFlags := 9, nameIndex := 48, descriptorIndex := 49, attributes := #[] }, { accessFlags := 10, nameIndex := 34, descriptorIndex := 35, attributes := #[] }] 49 2 #[] #[])
  fields := #[]
  methods := #[k1m0, k1m1, k1m2]
  instanceTypes := #[]
  staticTypes := #[]
  resolved := Array.replicate 53 none
  statics := none }

def pool2 : Array CpInfo := pool [(1, .methodref 2 3), (0, .class_ 4), (0, .nameAndType 5 6), (0, u "java/lang/Object"), (0, u "<init>"), (0, u "()V"), (0, .fieldref 8 9), (0, .class_ 10), (0, .nameAndType 11 12), (0, u "com/example/counterpath/counterpath/core/CappedMaximum"), (0, u "samples"), (0, u "[I"), (0, .fieldref 8 14), (0, .nameAndType 15 16), (0, u "values"), (0, u "[D"), (0, .fieldref 8 18), (0, .nameAndType 19 20), (0, u "head"), (0, u "I"), (0, .fieldref 8 22), (0, .nameAndType 23 20), (0, u "tail"), (2, .double 18442240474082181120), (1, u "(I)V"), (2, u "addFirst"), (0, u "(ID)V"), (1, u "cap"), (0, u "(D)V"), (0, u "removeAfter"), (0, u "maximum"), (0, u "()D")] 2

def k2c0 : Code := { maxStack := 2, maxLocals := 2, code := prog_3_method_1_code, exceptionTable := #[], attributes := #[] }
def k2m0 : Method := { name := "<init>", desc := "(I)V", sig := { parameters := [.int], returnType := none }, accessFlags := 0, code := some k2c0 }
def k2c1 : Code := { maxStack := 4, maxLocals := 4, code := prog_3_method_2_code, exceptionTable := #[], attributes := #[] }
def k2m1 : Method := { name := "addFirst", desc := "(ID)V", sig := { parameters := [.int, .double], returnType := none }, accessFlags := 0, code := some k2c1 }
def k2c2 : Code := { maxStack := 4, maxLocals := 3, code := prog_3_method_3_code, exceptionTable := #[], attributes := #[] }
def k2m2 : Method := { name := "cap", desc := "(D)V", sig := { parameters := [.double], returnType := none }, accessFlags := 0, code := some k2c2 }
def k2c3 : Code := { maxStack := 3, maxLocals := 2, code := prog_3_method_4_code, exceptionTable := #[], attributes := #[] }
def k2m3 : Method := { name := "removeAfter", desc := "(I)V", sig := { parameters := [.int], returnType := none }, accessFlags := 0, code := some k2c3 }
def k2c4 : Code := { maxStack := 3, maxLocals := 1, code := prog_3_method_5_code, exceptionTable := #[], attributes := #[] }
def k2m4 : Method := { name := "maximum", desc := "()D", sig := { parameters := [], returnType := some .double }, accessFlags := 0, code := some k2c4 }
/-- com/example/counterpath/counterpath/core/CappedMaximum -/
def k2 : Class := { plain "com/example/counterpath/counterpath/core/CappedMaximum" (some 0) with
  accessFlags := 48
  interfaces := #[]
  cf := some (fileOf pool2 8 #[] #[{ accessFlags := 0, nameIndex := 5, descriptorIndex := 28, attributes := #[] }, { accessFlags := 0, nameIndex := 31, descriptorIndex := 32, attributes := #[] }, { accessFlags := 0, nameIndex := 34, descriptorIndex := 35, attributes := #[] }, { accessFlags := 0, nameIndex := 36, descriptorIndex := 28, attributes := #[] }, { accessFlags := 0, nameIndex := 37, descriptorIndex := 38, attributes := #[] }] 48 2 #[] #[{ accessFlags := 18, nameIndex := 11, descriptorIndex := 12, attributes := #[] }, { accessFlags := 18, nameIndex := 15, descriptorIndex := 16, attributes := #[] }, { accessFlags := 2, nameIndex := 19, descriptorIndex := 20, attributes := #[] }, { accessFlags := 2, nameIndex := 23, descriptorIndex := 20, attributes := #[] }])
  fields := #[{ name := "samples", type := (.array .int), accessFlags := 18, slot := 0, constantValue := 0 }, { name := "values", type := (.array .double), accessFlags := 18, slot := 1, constantValue := 0 }, { name := "head", type := .int, accessFlags := 2, slot := 2, constantValue := 0 }, { name := "tail", type := .int, accessFlags := 2, slot := 3, constantValue := 0 }]
  methods := #[k2m0, k2m1, k2m2, k2m3, k2m4]
  instanceTypes := #[(.array .int), (.array .double), .int, .int]
  staticTypes := #[]
  resolved := Array.replicate 41 none
  statics := none }

def pool3 : Array CpInfo := pool [(1, .class_ 2), (0, u "java/lang/Math"), (1, .class_ 6), (1, u "java/lang/Object"), (0, u "<init>"), (0, u "()V"), (89, .class_ 100), (1, u "java/lang/Math$RandomNumberGeneratorHolder"), (71, u "negativeZeroFloatBits"), (0, u "J"), (2, u "negativeZeroDoubleBits"), (21, u "max"), (2, u "min"), (43, u "$assertionsDisabled"), (0, u "Z"), (88, u "(II)I"), (2, u "twoToTheDoubleScaleDown"), (0, u "D"), (4, u "twoToTheDoubleScaleUp"), (9, u "E"), (3, u "PI"), (2, u "TAU"), (2, u "DEGREES_TO_RADIANS"), (0, u "RADIANS_TO_DEGREES")] 94

def k3m0 : Method := { name := "<init>", desc := "()V", sig := { parameters := [], returnType := none }, accessFlags := 2, code := none }
def k3c1 : Code := { maxStack := 2, maxLocals := 2, code := jdk_29_method_65_code, exceptionTable := #[], attributes := #[] }
def k3m1 : Method := { name := "max", desc := "(II)I", sig := { parameters := [.int, .int], returnType := some .int }, accessFlags := 9, code := some k3c1 }
def k3c2 : Code := { maxStack := 2, maxLocals := 2, code := jdk_29_method_69_code, exceptionTable := #[], attributes := #[] }
def k3m2 : Method := { name := "min", desc := "(II)I", sig := { parameters := [.int, .int], returnType := some .int }, accessFlags := 9, code := some k3c2 }
/-- java/lang/Math -/
def k3 : Class := { plain "java/lang/Math" (some 0) with
  accessFlags := 49
  interfaces := #[]
  cf := some (fileOf pool3 1 #[.nestMembers #[98]] #[{ accessFlags := 2, nameIndex := 7, descriptorIndex := 8, attributes := #[] }, { accessFlags := 9, nameIndex := 198, descriptorIndex := 335, attributes := #[] }, { accessFlags := 9, nameIndex := 201, descriptorIndex := 335, attributes := #[] }] 49 4 #[] #[{ accessFlags := 25, nameIndex := 354, descriptorIndex := 339, attributes := #[] }, { accessFlags := 25, nameIndex := 358, descriptorIndex := 339, attributes := #[] }, { accessFlags := 25, nameIndex := 361, descriptorIndex := 339, attributes := #[] }, { accessFlags := 26, nameIndex := 364, descriptorIndex := 339, attributes := #[] }, { accessFlags := 26, nameIndex := 365, descriptorIndex := 339, attributes := #[] }, { accessFlags := 26, nameIndex := 172, descriptorIndex := 173, attributes := #[] }, { accessFlags := 26, nameIndex := 176, descriptorIndex := 173, attributes := #[] }, { accessFlags := 8, nameIndex := 344, descriptorIndex := 339, attributes := #[] }, { accessFlags := 8, nameIndex := 338, descriptorIndex := 339, attributes := #[] }, { accessFlags := 4120, nameIndex := 245, descriptorIndex := 246, attributes := #[] }])
  fields := #[{ name := "E", type := .double, accessFlags := 25, slot := 0, constantValue := 0 }, { name := "PI", type := .double, accessFlags := 25, slot := 1, constantValue := 0 }, { name := "TAU", type := .double, accessFlags := 25, slot := 2, constantValue := 0 }, { name := "DEGREES_TO_RADIANS", type := .double, accessFlags := 26, slot := 3, constantValue := 0 }, { name := "RADIANS_TO_DEGREES", type := .double, accessFlags := 26, slot := 4, constantValue := 0 }, { name := "negativeZeroFloatBits", type := .long, accessFlags := 26, slot := 5, constantValue := 0 }, { name := "negativeZeroDoubleBits", type := .long, accessFlags := 26, slot := 6, constantValue := 0 }, { name := "twoToTheDoubleScaleUp", type := .double, accessFlags := 8, slot := 7, constantValue := 0 }, { name := "twoToTheDoubleScaleDown", type := .double, accessFlags := 8, slot := 8, constantValue := 0 }, { name := "$assertionsDisabled", type := .boolean, accessFlags := 4120, slot := 9, constantValue := 0 }]
  methods := #[k3m0, k3m1, k3m2]
  instanceTypes := #[]
  staticTypes := #[.double, .double, .double, .double, .double, .long, .long, .double, .double, .boolean]
  resolved := Array.replicate 460 none
  statics := none }

def pool4 : Array CpInfo := pool [(1, u "java/lang/Cloneable"), (0, .class_ 1), (0, u "java/lang/Object"), (0, .class_ 3)] 3

/-- java/lang/Cloneable -/
def k4 : Class := { plain "java/lang/Cloneable" (some 0) with
  accessFlags := 1537
  interfaces := #[]
  cf := some (fileOf pool4 2 #[] #[] 1537 4 #[] #[])
  fields := #[]
  methods := #[]
  instanceTypes := #[]
  staticTypes := #[]
  resolved := Array.replicate 8 none
  statics := none }

def pool5 : Array CpInfo := pool [(1, u "java/io/Serializable"), (0, .class_ 1), (0, u "java/lang/Object"), (0, .class_ 3)] 3

/-- java/io/Serializable -/
def k5 : Class := { plain "java/io/Serializable" (some 0) with
  accessFlags := 1537
  interfaces := #[]
  cf := some (fileOf pool5 2 #[] #[] 1537 4 #[] #[])
  fields := #[]
  methods := #[]
  instanceTypes := #[]
  staticTypes := #[]
  resolved := Array.replicate 8 none
  statics := none }

/-- the primitive byte -/
def k6 : Class := { plain "byte" none with kind := .primitive 'B', accessFlags := 0x411 }
/-- [B -/
def k7 : Class := { plain "[B" (some 0) with kind := .array 6 .byte, interfaces := #[4, 5], accessFlags := 1041 }

/-- the primitive double -/
def k8 : Class := { plain "double" none with kind := .primitive 'D', accessFlags := 0x411 }
/-- [D -/
def k9 : Class := { plain "[D" (some 0) with kind := .array 8 .double, interfaces := #[4, 5], accessFlags := 1041 }

/-- the primitive int -/
def k10 : Class := { plain "int" none with kind := .primitive 'I', accessFlags := 0x411 }
/-- [I -/
def k11 : Class := { plain "[I" (some 0) with kind := .array 10 .int, interfaces := #[4, 5], accessFlags := 1041 }

def heap : Heap := #[]
def classes : Array Class := #[k0, k1, k2, k3, k4, k5, k6, k7, k8, k9, k10, k11]
def interned : List (Array UInt16 × Addr) := []
def slotsUsed : Nat := 0
def theMethod : MethodId := ⟨1, 1⟩
def args0 : Array Value := #[.int 5, .int 7, .int 9, .int 1, .int 2]
def aboutOver (below : List Frame) : State where
  vm := { classes := classes, interned := interned.toArray }
  heap := heap
  slotsUsed := slotsUsed
  threads := #[{ frames := .invoking theMethod args0 :: below }]
def below0 : List Frame := [.native { method := ⟨0, 0⟩, args := #[] }]
def about1 : State := aboutOver below0
def p0 : Program := .bare "" "" ""
def e0 : Env := launch0.env 0 0 0
theorem w_frames : about1.frames = Frame.invoking theMethod args0 :: below0 := rfl
set_option maxRecDepth 65536 in
theorem w_args : argsFit about1.vm theMethod args0 = true := by decide +kernel
set_option maxRecDepth 65536 in
theorem w_heap : heapFits about1 = true := by decide +kernel
set_option maxRecDepth 65536 in
theorem w_runnable : about1.curStatus? = some .runnable := by decide +kernel
set_option maxRecDepth 65536 in
theorem w_alone : about1.alone = true := by decide +kernel
set_option maxRecDepth 65536 in
theorem w_named : about1.methodNamed? x = some theMethod := by decide +kernel
set_option maxRecDepth 65536 in
theorem w_hears : about1.hears theMethod below0 = true := by decide +kernel
set_option maxRecDepth 65536 in
theorem w_ripe : about1.ripe theMethod args0 below0 = true := by decide +kernel
theorem w_running : about1.status = .running := rfl
set_option maxRecDepth 65536 in
theorem w_room : about1.hasRoom e0.platform room_1 = true :=
  launch0.hasRoom_least _ room_1 (by decide +kernel) (by decide +kernel) (by decide +kernel) (by decide +kernel) (by decide +kernel) (by decide +kernel)
theorem allAtoms_all (ts : List Jvm.Cond) (a : Array Jvm.Value) (st : Jvm.State) : (allAtoms ts).before a st = ts.all (fun c => c.before a st) := by
  induction ts with
  | nil => rfl
  | cons c t ih =>
    show (Jvm.Cond.and c (allAtoms t)).before a st = _
    rw [Jvm.Cond.before_and, ih, List.all_cons]
def words1 : List Jvm.Cond := Jvm.Cond.code x code maxLocals ret :: tables_1
/-- a 'code' word, met by the world's own term for the bytes: nothing is compared byte by byte -/
theorem code_word {y : MethodName} {bytes : ByteArray} {mx : Nat} {rt : Option FieldType} {a : Array Value} {s : State} {m : MethodId} {meth : Method} {c : Code} (h1 : s.methodNamed? y = some m) (h2 : s.vm.method? m = some meth) (h3 : meth.code = some c) (h4 : c.code = bytes)
    (h5 : (c.maxLocals == mx && c.exceptionTable.isEmpty && decide (c.maxStack ≤ mostOperands) && decide (meth.sig.returnType = rt) && !meth.locks && decide (parseMethodDescriptor y.desc = some meth.sig)) = true) : (Jvm.Cond.code y bytes mx rt).before a s = true := by
  simp only [Bool.and_eq_true, beq_iff_eq, Bool.not_eq_true', decide_eq_true_eq] at h5
  obtain ⟨⟨⟨⟨⟨g1, g2⟩, g3⟩, g4⟩, g5⟩, g6⟩ := h5
  simp [Cond.before, Cond.holds, Cond.value, h1, h2, h3, h4, g1, g2, g3, g4, g5, g6]
def isCode : Jvm.Cond → Bool
  | .code _ _ _ _ => true
  | _ => false
theorem all_split {L : List Jvm.Cond} {P : Jvm.Cond → Bool} (h1 : L.all (fun c => isCode c || P c) = true) (h2 : ∀ c ∈ L.filter isCode, P c = true) : L.all P = true := by
  refine List.all_eq_true.mpr fun c hc => ?_
  have h := List.all_eq_true.mp h1 c hc
  rcases Bool.eq_false_or_eq_true (isCode c) with hi | hi
  · exact h2 c (List.mem_filter.mpr ⟨hc, hi⟩)
  · simpa [hi] using h
set_option maxRecDepth 65536 in
theorem w_c0 : (Jvm.Cond.code x code maxLocals ret).before args0 about1 = true := code_word (m := ⟨1, 1⟩) (meth := k1m1) (c := k1c1) (by decide +kernel) rfl rfl rfl (by decide +kernel)
set_option maxRecDepth 65536 in
theorem w_c1 : (Jvm.Cond.code ({ cls := "com/example/counterpath/counterpath/core/CappedMaximum", name := "<init>", desc := "(I)V" } : Jvm.MethodName) prog_3_method_1_code (2 : Nat) (Option.none : Option Jvm.ClassFile.FieldType)).before args0 about1 = true := code_word (m := ⟨2, 0⟩) (meth := k2m0) (c := k2c0) (by decide +kernel) rfl rfl rfl (by decide +kernel)
set_option maxRecDepth 65536 in
theorem w_c2 : (Jvm.Cond.code ({ cls := "java/lang/Object", name := "<init>", desc := "()V" } : Jvm.MethodName) object_method_1_code (1 : Nat) (Option.none : Option Jvm.ClassFile.FieldType)).before args0 about1 = true := code_word (m := ⟨0, 0⟩) (meth := k0m0) (c := k0c0) (by decide +kernel) rfl rfl rfl (by decide +kernel)
set_option maxRecDepth 65536 in
theorem w_c3 : (Jvm.Cond.code ({ cls := "com/example/counterpath/counterpath/core/CappedMaximum", name := "cap", desc := "(D)V" } : Jvm.MethodName) prog_3_method_3_code (3 : Nat) (Option.none : Option Jvm.ClassFile.FieldType)).before args0 about1 = true := code_word (m := ⟨2, 2⟩) (meth := k2m2) (c := k2c2) (by decide +kernel) rfl rfl rfl (by decide +kernel)
set_option maxRecDepth 65536 in
theorem w_c4 : (Jvm.Cond.code ({ cls := "com/example/counterpath/counterpath/core/CappedMaximum", name := "maximum", desc := "()D" } : Jvm.MethodName) prog_3_method_5_code (1 : Nat) (Option.some Jvm.ClassFile.FieldType.double)).before args0 about1 = true := code_word (m := ⟨2, 4⟩) (meth := k2m4) (c := k2c4) (by decide +kernel) rfl rfl rfl (by decide +kernel)
set_option maxRecDepth 65536 in
theorem w_c5 : (Jvm.Cond.code ({ cls := "java/lang/Math", name := "max", desc := "(II)I" } : Jvm.MethodName) jdk_29_method_65_code (2 : Nat) (Option.some Jvm.ClassFile.FieldType.int)).before args0 about1 = true := code_word (m := ⟨3, 1⟩) (meth := k3m1) (c := k3c1) (by decide +kernel) rfl rfl rfl (by decide +kernel)
set_option maxRecDepth 65536 in
theorem w_c6 : (Jvm.Cond.code ({ cls := "com/example/counterpath/counterpath/core/CappedMaximumCapPinLaw", name := "expect", desc := "(DII)Z" } : Jvm.MethodName) method_3_code (4 : Nat) (Option.some Jvm.ClassFile.FieldType.boolean)).before args0 about1 = true := code_word (m := ⟨1, 2⟩) (meth := k1m2) (c := k1c2) (by decide +kernel) rfl rfl rfl (by decide +kernel)
set_option maxRecDepth 65536 in
theorem w_c7 : (Jvm.Cond.code ({ cls := "com/example/counterpath/counterpath/core/CappedMaximum", name := "removeAfter", desc := "(I)V" } : Jvm.MethodName) prog_3_method_4_code (2 : Nat) (Option.none : Option Jvm.ClassFile.FieldType)).before args0 about1 = true := code_word (m := ⟨2, 3⟩) (meth := k2m3) (c := k2c3) (by decide +kernel) rfl rfl rfl (by decide +kernel)
set_option maxRecDepth 65536 in
theorem w_c8 : (Jvm.Cond.code ({ cls := "com/example/counterpath/counterpath/core/CappedMaximum", name := "addFirst", desc := "(ID)V" } : Jvm.MethodName) prog_3_method_2_code (4 : Nat) (Option.none : Option Jvm.ClassFile.FieldType)).before args0 about1 = true := code_word (m := ⟨2, 1⟩) (meth := k2m1) (c := k2c1) (by decide +kernel) rfl rfl rfl (by decide +kernel)
set_option maxRecDepth 65536 in
theorem w_c9 : (Jvm.Cond.code ({ cls := "java/lang/Math", name := "min", desc := "(II)I" } : Jvm.MethodName) jdk_29_method_69_code (2 : Nat) (Option.some Jvm.ClassFile.FieldType.int)).before args0 about1 = true := code_word (m := ⟨3, 2⟩) (meth := k3m2) (c := k3c2) (by decide +kernel) rfl rfl rfl (by decide +kernel)
def codes1 : List Jvm.Cond := [Jvm.Cond.code x code maxLocals ret, Jvm.Cond.code ({ cls := "com/example/counterpath/counterpath/core/CappedMaximum", name := "<init>", desc := "(I)V" } : Jvm.MethodName) prog_3_method_1_code (2 : Nat) (Option.none : Option Jvm.ClassFile.FieldType), Jvm.Cond.code ({ cls := "java/lang/Object", name := "<init>", desc := "()V" } : Jvm.MethodName) object_method_1_code (1 : Nat) (Option.none : Option Jvm.ClassFile.FieldType), Jvm.Cond.code ({ cls := "com/example/counterpath/counterpath/core/CappedMaximum", name := "cap", desc := "(D)V" } : Jvm.MethodName) prog_3_method_3_code (3 : Nat) (Option.none : Option Jvm.ClassFile.FieldType), Jvm.Cond.code ({ cls := "com/example/counterpath/counterpath/core/CappedMaximum", name := "maximum", desc := "()D" } : Jvm.MethodName) prog_3_method_5_code (1 : Nat) (Option.some Jvm.ClassFile.FieldType.double), Jvm.Cond.code ({ cls := "java/lang/Math", name := "max", desc := "(II)I" } : Jvm.MethodName) jdk_29_method_65_code (2 : Nat) (Option.some Jvm.ClassFile.FieldType.int), Jvm.Cond.code ({ cls := "com/example/counterpath/counterpath/core/CappedMaximumCapPinLaw", name := "expect", desc := "(DII)Z" } : Jvm.MethodName) method_3_code (4 : Nat) (Option.some Jvm.ClassFile.FieldType.boolean), Jvm.Cond.code ({ cls := "com/example/counterpath/counterpath/core/CappedMaximum", name := "removeAfter", desc := "(I)V" } : Jvm.MethodName) prog_3_method_4_code (2 : Nat) (Option.none : Option Jvm.ClassFile.FieldType), Jvm.Cond.code ({ cls := "com/example/counterpath/counterpath/core/CappedMaximum", name := "addFirst", desc := "(ID)V" } : Jvm.MethodName) prog_3_method_2_code (4 : Nat) (Option.none : Option Jvm.ClassFile.FieldType), Jvm.Cond.code ({ cls := "java/lang/Math", name := "min", desc := "(II)I" } : Jvm.MethodName) jdk_29_method_69_code (2 : Nat) (Option.some Jvm.ClassFile.FieldType.int)]
set_option maxRecDepth 65536 in
theorem codes_eq : words1.filter isCode = codes1 := rfl
theorem w_codes : ∀ c ∈ words1.filter isCode, c.before args0 about1 = true := by
  rw [codes_eq]
  intro c hc
  simp only [codes1, List.mem_cons, List.not_mem_nil, or_false] at hc
  rcases hc with rfl | rfl | rfl | rfl | rfl | rfl | rfl | rfl | rfl | rfl
  · exact w_c0
  · exact w_c1
  · exact w_c2
  · exact w_c3
  · exact w_c4
  · exact w_c5
  · exact w_c6
  · exact w_c7
  · exact w_c8
  · exact w_c9
set_option maxRecDepth 65536 in
theorem w_t1 : (words1.take 24).all (fun c => isCode c || c.before args0 about1) = true := by decide +kernel
set_option maxRecDepth 65536 in
theorem w_t2 : ((words1.drop 24).take 24).all (fun c => isCode c || c.before args0 about1) = true := by decide +kernel
set_option maxRecDepth 65536 in
theorem w_t3 : ((words1.drop 24).drop 24).all (fun c => isCode c || c.before args0 about1) = true := by decide +kernel
theorem w_tables : (allAtoms (Jvm.Cond.code x code maxLocals ret :: tables_1)).before args0 about1 = true := by
  rw [allAtoms_all]
  show words1.all (fun c => c.before args0 about1) = true
  refine all_split ?_ w_codes
  rw [← List.take_append_drop 24 words1, List.all_append, w_t1, ← List.take_append_drop 24 (words1.drop 24), List.all_append, w_t2, w_t3]
  rfl
set_option maxRecDepth 65536 in
theorem w_case : (Jvm.Cond.and given_1 narrow_1).before args0 about1 = true := by decide +kernel
theorem w_applies : (headSpec (Jvm.Cond.code x code maxLocals ret :: tables_1) room_1).applies x e0.platform about1 = true :=
  (Spec.applies_iff w_frames).mpr ⟨w_running, w_runnable, w_alone, w_named, w_hears, w_ripe, w_room, w_tables⟩
theorem atStart : AtStart classFile x code maxLocals ret World_1 tables_1 room_1 Calls_1 rest_1 Pre_1 launch0 p0 e0 about1 theMethod args0 below0 :=
  ⟨lists_1, trivial, launch0.admits_env _ _ _, launch0.least_env, fairChoices_fair.cas, fairChoices_fair.clock, w_frames, w_args, w_heap, w_applies, trivial, trivial, w_case⟩
end start1
theorem witness_1 : WitnessClaimed_1 := ⟨start1.p0, start1.e0, start1.about1, start1.theMethod, start1.args0, start1.below0, start1.atStart⟩
end Jvm.Pilot.@@N@@
