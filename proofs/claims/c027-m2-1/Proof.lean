import JvmDerived
import JvmDerived.Pilot.@@N@@Statement
import JvmDerived.Pilot.@@N@@Code
set_option linter.unusedVariables false
set_option linter.unusedSimpArgs false
namespace Jvm.RoadKit
open Sem ClassFile Op Lib Jvm.Stand Jvm.Free Jvm.LawKit
section New
variable {p : Program} {l : Launch} {e : Env} {R : Room} {s : State} {m : MethodId} {args : Array Value} {below : List Frame} {meth : Method} {c : Code} {T : State} {locs : List Loc} {cells slots : Nat}
theorem retI (X : Stand p l e R s m args below meth c T locs cells slots) (hx : p.tables.exec = Jvm.exec) {pc : Nat} {Ls : Array Slot} {z : Int32} {rest : List Value} (hret : meth.sig.returnType = some .int) (hd : decode c.code pc = .ok (.ireturn, 1)) {fs : List Frame}
    (hl : ∀ (f : JFrame) (acts : List Action), f.method = m → f.locked = none → f.entered = [] → (doReturn e (T.setTop f) acts (some (.int z))).1 = T.setFrames fs) : Steps p.tables e below (T.setTop (mkF m pc Ls (.int z :: rest))) (T.setFrames fs) :=
  retOut X hx hret rfl (Or.inl ⟨rfl, Or.inl rfl, z, rfl⟩) hd hl
end New
end Jvm.RoadKit
namespace Jvm.Pilot.@@N@@
open Jvm Jvm.ClassFile Sem Op Lib Jvm.Free Jvm.Stand Jvm.LawKit Jvm.RoadKit Bundle Jvm.Pilot.@@N@@.Jvm.D
theorem own_dloadN {tb : Tables} [Ours tb] {e : Env} {below : List Frame} {T target : State} {m : MethodId} {c : Code} {g : JFrame} (h : At T m c below) (hx : tb.exec = Jvm.exec) (hg : g.method = m) {k : Fin 4} {v : UInt64} (hd : decode c.code g.pc = .ok (.dload_n k, 1)) (hl : g.locals[k.val]? = some (.val (.double v)))
    (hr : Steps tb e below (T.setTop { g with pc := g.pc + 1, stack := .double v :: g.stack }) target) : Steps tb e below (T.setTop g) target := by
  subst hg
  jvm_step h [h.top, hx, hd, hl]
  exact hr
theorem own_dload {tb : Tables} [Ours tb] {e : Env} {below : List Frame} {T target : State} {m : MethodId} {c : Code} {g : JFrame} (h : At T m c below) (hx : tb.exec = Jvm.exec) (hg : g.method = m) {k : Nat} {v : UInt64} (hd : decode c.code g.pc = .ok (.dload k, 2)) (hl : g.locals[k]? = some (.val (.double v)))
    (hr : Steps tb e below (T.setTop { g with pc := g.pc + 2, stack := .double v :: g.stack }) target) : Steps tb e below (T.setTop g) target := by
  subst hg
  jvm_step h [h.top, hx, hd, hl]
  exact hr
theorem own_dstoreN {tb : Tables} [Ours tb] {e : Env} {below : List Frame} {T target : State} {m : MethodId} {c : Code} {g : JFrame} (h : At T m c below) (hx : tb.exec = Jvm.exec) (hg : g.method = m) {k : Fin 4} {x : UInt64} {rest : List Value} {l' : Array Slot} (hd : decode c.code g.pc = .ok (.dstore_n k, 1)) (hs : g.stack = .double x :: rest) (hl : storeLocals g.locals k.val (.double x) = some l')
    (hr : Steps tb e below (T.setTop { g with pc := g.pc + 1, stack := rest, locals := l' }) target) : Steps tb e below (T.setTop g) target := by
  subst hg
  jvm_step h [h.top, hx, hd, hs, hl]
  exact hr
theorem own_dstore {tb : Tables} [Ours tb] {e : Env} {below : List Frame} {T target : State} {m : MethodId} {c : Code} {g : JFrame} (h : At T m c below) (hx : tb.exec = Jvm.exec) (hg : g.method = m) {k : Nat} {x : UInt64} {rest : List Value} {l' : Array Slot} (hd : decode c.code g.pc = .ok (.dstore k, 2)) (hs : g.stack = .double x :: rest) (hl : storeLocals g.locals k (.double x) = some l')
    (hr : Steps tb e below (T.setTop { g with pc := g.pc + 2, stack := rest, locals := l' }) target) : Steps tb e below (T.setTop g) target := by
  subst hg
  jvm_step h [h.top, hx, hd, hs, hl]
  exact hr
theorem own_dconst0 {tb : Tables} [Ours tb] {e : Env} {below : List Frame} {T target : State} {m : MethodId} {c : Code} {g : JFrame} (h : At T m c below) (hx : tb.exec = Jvm.exec) (hg : g.method = m) (hd : decode c.code g.pc = .ok (.dconst 0, 1))
    (hr : Steps tb e below (T.setTop { g with pc := g.pc + 1, stack := .double FP.dconst0 :: g.stack }) target) : Steps tb e below (T.setTop g) target := by
  subst hg
  jvm_step h [h.top, hx, hd]
  exact hr
theorem own_dconst1 {tb : Tables} [Ours tb] {e : Env} {below : List Frame} {T target : State} {m : MethodId} {c : Code} {g : JFrame} (h : At T m c below) (hx : tb.exec = Jvm.exec) (hg : g.method = m) (hd : decode c.code g.pc = .ok (.dconst 1, 1))
    (hr : Steps tb e below (T.setTop { g with pc := g.pc + 1, stack := .double FP.dconst1 :: g.stack }) target) : Steps tb e below (T.setTop g) target := by
  subst hg
  jvm_step h [h.top, hx, hd]
  exact hr
theorem own_i2d {tb : Tables} [Ours tb] {e : Env} {below : List Frame} {T target : State} {m : MethodId} {c : Code} {g : JFrame} (h : At T m c below) (hx : tb.exec = Jvm.exec) (hg : g.method = m) {x : Int32} {rest : List Value} (hd : decode c.code g.pc = .ok (.i2d, 1)) (hs : g.stack = .int x :: rest)
    (hr : Steps tb e below (T.setTop { g with pc := g.pc + 1, stack := .double (FP.i2d x) :: rest }) target) : Steps tb e below (T.setTop g) target := by
  subst hg
  jvm_step h [h.top, hx, hd, hs]
  exact hr
theorem own_l2d {tb : Tables} [Ours tb] {e : Env} {below : List Frame} {T target : State} {m : MethodId} {c : Code} {g : JFrame} (h : At T m c below) (hx : tb.exec = Jvm.exec) (hg : g.method = m) {x : Int64} {rest : List Value} (hd : decode c.code g.pc = .ok (.l2d, 1)) (hs : g.stack = .long x :: rest)
    (hr : Steps tb e below (T.setTop { g with pc := g.pc + 1, stack := .double (FP.l2d x) :: rest }) target) : Steps tb e below (T.setTop g) target := by
  subst hg
  jvm_step h [h.top, hx, hd, hs]
  exact hr
theorem own_d2l {tb : Tables} [Ours tb] {e : Env} {below : List Frame} {T target : State} {m : MethodId} {c : Code} {g : JFrame} (h : At T m c below) (hx : tb.exec = Jvm.exec) (hg : g.method = m) {x : UInt64} {rest : List Value} (hd : decode c.code g.pc = .ok (.d2l, 1)) (hs : g.stack = .double x :: rest)
    (hr : Steps tb e below (T.setTop { g with pc := g.pc + 1, stack := .long (FP.d2l x) :: rest }) target) : Steps tb e below (T.setTop g) target := by
  subst hg
  jvm_step h [h.top, hx, hd, hs]
  exact hr
theorem own_d2i {tb : Tables} [Ours tb] {e : Env} {below : List Frame} {T target : State} {m : MethodId} {c : Code} {g : JFrame} (h : At T m c below) (hx : tb.exec = Jvm.exec) (hg : g.method = m) {x : UInt64} {rest : List Value} (hd : decode c.code g.pc = .ok (.d2i, 1)) (hs : g.stack = .double x :: rest)
    (hr : Steps tb e below (T.setTop { g with pc := g.pc + 1, stack := .int (FP.d2i x) :: rest }) target) : Steps tb e below (T.setTop g) target := by
  subst hg
  jvm_step h [h.top, hx, hd, hs]
  exact hr
theorem own_dneg {tb : Tables} [Ours tb] {e : Env} {below : List Frame} {T target : State} {m : MethodId} {c : Code} {g : JFrame} (h : At T m c below) (hx : tb.exec = Jvm.exec) (hg : g.method = m) {x : UInt64} {rest : List Value} (hd : decode c.code g.pc = .ok (.dneg, 1)) (hs : g.stack = .double x :: rest)
    (hr : Steps tb e below (T.setTop { g with pc := g.pc + 1, stack := .double (FP.dneg x) :: rest }) target) : Steps tb e below (T.setTop g) target := by
  subst hg
  jvm_step h [h.top, hx, hd, hs]
  exact hr
theorem own_dcmp {tb : Tables} [Ours tb] {e : Env} {below : List Frame} {T target : State} {m : MethodId} {c : Code} {g : JFrame} (h : At T m c below) (hx : tb.exec = Jvm.exec) (hg : g.method = m) {op : CmpOp} {x y : UInt64} {rest : List Value} (hd : decode c.code g.pc = .ok (.dcmp op, 1)) (hs : g.stack = .double y :: .double x :: rest)
    (hr : Steps tb e below (T.setTop { g with pc := g.pc + 1, stack := .int (cmpValue (FP.dcmp x y) op) :: rest }) target) : Steps tb e below (T.setTop g) target := by
  subst hg
  jvm_step h [h.top, hx, hd, hs]
  exact hr
theorem own_dadd {tb : Tables} [Ours tb] {e : Env} {below : List Frame} {T target : State} {m : MethodId} {c : Code} {g : JFrame} (h : At T m c below) (hx : tb.exec = Jvm.exec) (hg : g.method = m) {x y : UInt64} {rest : List Value} (hd : decode c.code g.pc = .ok (.dadd, 1)) (hs : g.stack = .double y :: .double x :: rest) (hn : Jvm.Free.Fl.NoNaN64 (FP.dadd x y))
    (hr : Steps tb e below (T.setTop { g with pc := g.pc + 1, stack := .double (FP.dadd x y) :: rest }) target) : Steps tb e below (T.setTop g) target := by
  obtain ⟨gm, gpc, gl, gs, glk, gen, gmr⟩ := g
  subst hg
  dsimp only at hs
  subst hs
  jvm_step h [hx, hd, Op.dadd.at_number h.top hn]
  exact hr
theorem own_dsub {tb : Tables} [Ours tb] {e : Env} {below : List Frame} {T target : State} {m : MethodId} {c : Code} {g : JFrame} (h : At T m c below) (hx : tb.exec = Jvm.exec) (hg : g.method = m) {x y : UInt64} {rest : List Value} (hd : decode c.code g.pc = .ok (.dsub, 1)) (hs : g.stack = .double y :: .double x :: rest) (hn : Jvm.Free.Fl.NoNaN64 (FP.dsub x y))
    (hr : Steps tb e below (T.setTop { g with pc := g.pc + 1, stack := .double (FP.dsub x y) :: rest }) target) : Steps tb e below (T.setTop g) target := by
  obtain ⟨gm, gpc, gl, gs, glk, gen, gmr⟩ := g
  subst hg
  dsimp only at hs
  subst hs
  jvm_step h [hx, hd, Op.dsub.at_number h.top hn]
  exact hr
theorem own_dmul {tb : Tables} [Ours tb] {e : Env} {below : List Frame} {T target : State} {m : MethodId} {c : Code} {g : JFrame} (h : At T m c below) (hx : tb.exec = Jvm.exec) (hg : g.method = m) {x y : UInt64} {rest : List Value} (hd : decode c.code g.pc = .ok (.dmul, 1)) (hs : g.stack = .double y :: .double x :: rest) (hn : Jvm.Free.Fl.NoNaN64 (FP.dmul x y))
    (hr : Steps tb e below (T.setTop { g with pc := g.pc + 1, stack := .double (FP.dmul x y) :: rest }) target) : Steps tb e below (T.setTop g) target := by
  obtain ⟨gm, gpc, gl, gs, glk, gen, gmr⟩ := g
  subst hg
  dsimp only at hs
  subst hs
  jvm_step h [hx, hd, Op.dmul.at_number h.top hn]
  exact hr
theorem own_ddiv {tb : Tables} [Ours tb] {e : Env} {below : List Frame} {T target : State} {m : MethodId} {c : Code} {g : JFrame} (h : At T m c below) (hx : tb.exec = Jvm.exec) (hg : g.method = m) {x y : UInt64} {rest : List Value} (hd : decode c.code g.pc = .ok (.ddiv, 1)) (hs : g.stack = .double y :: .double x :: rest) (hn : Jvm.Free.Fl.NoNaN64 (FP.ddiv x y))
    (hr : Steps tb e below (T.setTop { g with pc := g.pc + 1, stack := .double (FP.ddiv x y) :: rest }) target) : Steps tb e below (T.setTop g) target := by
  obtain ⟨gm, gpc, gl, gs, glk, gen, gmr⟩ := g
  subst hg
  dsimp only at hs
  subst hs
  jvm_step h [hx, hd, Op.ddiv.at_number h.top hn]
  exact hr
theorem own_dup2D {tb : Tables} [Ours tb] {e : Env} {below : List Frame} {T target : State} {m : MethodId} {c : Code} {g : JFrame} (h : At T m c below) (hx : tb.exec = Jvm.exec) (hg : g.method = m) {x : UInt64} {rest : List Value} (hd : decode c.code g.pc = .ok (.dup2, 1)) (hs : g.stack = .double x :: rest)
    (hr : Steps tb e below (T.setTop { g with pc := g.pc + 1, stack := .double x :: .double x :: rest }) target) : Steps tb e below (T.setTop g) target := by
  subst hg
  jvm_step h [h.top, hx, hd, hs, Value.category]
  exact hr
theorem own_retD {p : Program} {l : Launch} {e : Env} {R : Room} {s : State} {m : MethodId} {args : Array Value} {below : List Frame} {meth : Method} {c : Code} {T : State} {locs : List Loc} {cells slots : Nat} (Y : Stand p l e R s m args below meth c T locs cells slots) (hexec : p.tables.exec = Jvm.exec) {pc : Nat} {Ls : Array Slot} {w : UInt64} {rest : List Value} (hret : meth.sig.returnType = some .double)
    (hdg : decode c.code pc = .ok (.dreturn, 1)) {fs : List Frame} (hleave : ∀ (f : JFrame) (acts : List Action), f.method = m → f.locked = none → f.entered = [] → (doReturn e (T.setTop f) acts (some (.double w))).1 = T.setFrames fs) :
    Steps p.tables e below (T.setTop (mkF m pc Ls (.double w :: rest))) (T.setFrames fs) :=
  retOut Y hexec hret rfl (Or.inr (Or.inr (Or.inl ⟨rfl, rfl, w, rfl⟩))) hdg hleave
theorem own_stD {p : Program} {l : Launch} {e : Env} {R : Room} {s : State} {m : MethodId} {args : Array Value} {below : List Frame} {meth : Method} {c : Code} {T : State} {locs : List Loc} {cells slots : Nat} {Z : State} {h : Heap}
    (X : Stand p l e R s m args below meth c T locs cells slots) (hx : p.tables.exec = Jvm.exec) (hZ : Z.Warmed39 s.vm) (eT : T.heap = h) {a : Addr} {cl : Cell} (A : Arr Z h a cl .double) {j : Int32} {x : UInt64} (hj : ¬ (j < 0 ∨ cl.slots.size ≤ j.toNatClampNeg)) {g : JFrame} (hg : g.method = m) {rest : List Value} (hs : g.stack = .double x :: .int j :: .ref a :: rest) (hd : decode c.code g.pc = .ok (.dastore, 1)) :
    ∃ T' h', Stand p l e R s m args below meth c T' (locs ++ [⟨a, j.toNatClampNeg⟩]) cells slots ∧ T'.heap = h' ∧ Wr h h' a j.toNatClampNeg (.double x) ∧ ∀ target, Steps p.tables e below (T'.setTop { g with pc := g.pc + 1, stack := rest }) target → Steps p.tables e below (T.setTop g) target := by
  obtain ⟨X', st⟩ := X.dastore hx (by rw [eT]; exact A.1) (State.isArrayOf_alike hZ.alike A.2.1) A.2.2 hj hg hs hd
  exact ⟨_, _, X', rfl, ⟨cl, A.1, A.plain, Nat.lt_of_not_le fun q => hj (Or.inr q), by rw [← eT]; rfl⟩, st⟩
section OwnDy
open Jvm.FP Jvm.FP.Core
/-- the datum's exponent moved by j -/
def own_sh (j : Int) : Datum → Datum
  | .fin s c q => .fin s c (q + j)
  | d => d
/-- the datum is n * 2^k -/
def own_Dy (n k : Int) (d : Datum) : Prop := Whole n (own_sh (-k) d)
theorem own_dy0 {n : Int} {d : Datum} : own_Dy n 0 d ↔ Whole n d := by
  cases d with
  | nan => exact Iff.rfl
  | inf => exact Iff.rfl
  | fin s c q =>
    show Whole n (.fin s c (q + -0)) ↔ _
    rw [show q + -0 = q by omega]
theorem own_sh_sum (j : Int) (x y : Datum) : exactSum (own_sh j x) (own_sh j y) = own_sh j (exactSum x y) := by
  cases x <;> cases y <;> try rfl
  · simp only [own_sh, exactSum]; split <;> rfl
  · rename_i s c q t d r
    have hm : min (q + j) (r + j) = min q r + j := by omega
    have hu : sumUnits s c (q + j) t d (r + j) (min q r + j) = sumUnits s c q t d r (min q r) := by
      unfold sumUnits inUnits
      rw [show q + j - (min q r + j) = q - min q r by omega, show r + j - (min q r + j) = r - min q r by omega]
    simp only [own_sh, exactSum, hm, hu]
theorem own_sh_prod (i j : Int) (x y : Datum) : exactProduct (own_sh i x) (own_sh j y) = own_sh (i + j) (exactProduct x y) := by
  cases x <;> cases y <;> try rfl
  · simp only [own_sh, exactProduct]; split <;> rfl
  · simp only [own_sh, exactProduct]; split <;> rfl
  · simp only [own_sh, exactProduct, Datum.fin.injEq, true_and]; omega
theorem own_sh_order (j : Int) (x y : Datum) : order (own_sh j x) (own_sh j y) = order x y := by
  cases x <;> cases y <;> try rfl
  rename_i s c q t d r
  simp only [own_sh, order]
  unfold inUnits
  rw [show q + j - min (q + j) (r + j) = q - min q r by omega, show r + j - min (q + j) (r + j) = r - min q r by omega]
theorem own_sh_neg (j : Int) (x : Datum) : negate (own_sh j x) = own_sh j (negate x) := by cases x <;> rfl
theorem own_dy_sum {n m k : Int} {x y : Datum} (hx : own_Dy n k x) (hy : own_Dy m k y) : own_Dy (n + m) k (exactSum x y) := by
  unfold own_Dy; rw [← own_sh_sum]; exact whole_sum hx hy
theorem own_dy_neg {n k : Int} {x : Datum} (hx : own_Dy n k x) : own_Dy (-n) k (negate x) := by
  unfold own_Dy; rw [← own_sh_neg]; exact whole_negate hx
theorem own_dy_prod {n m k l : Int} {x y : Datum} (hx : own_Dy n k x) (hy : own_Dy m l y) : own_Dy (n * m) (k + l) (exactProduct x y) := by
  unfold own_Dy; rw [show -(k + l) = -k + -l by omega, ← own_sh_prod]; exact whole_product hx hy
theorem own_dy_order {n m k : Int} {x y : Datum} (hx : own_Dy n k x) (hy : own_Dy m k y) : order x y = some (compare n m) := by
  rw [← own_sh_order (-k)]; exact order_whole hx hy
theorem own_dy_fin {n k : Int} {x : Datum} (h : own_Dy n k x) : ∃ s c q, x = .fin s c q := by
  cases x with
  | nan => exact h.elim
  | inf => exact h.elim
  | fin s c q => exact ⟨s, c, q, rfl⟩
theorem own_dy_abs {n k q : Int} {s : Bool} {c : Nat} (h : own_Dy n k (.fin s c q)) : c * 2 ^ (q - k).toNat = n.natAbs * 2 ^ (k - q).toNat := by
  have := whole_natAbs (q := q + -k) h
  rw [show q + -k = q - k by omega, show -(q - k) = k - q by omega] at this
  exact this
theorem own_dy_sign {n k q : Int} {s : Bool} {c : Nat} (h : own_Dy n k (.fin s c q)) (hn : n ≠ 0) : s = decide (n < 0) := whole_sign (q := q + -k) h hn
theorem own_dy_mk {n k q : Int} {s : Bool} {c : Nat} (h : c * 2 ^ (q - k).toNat = n.natAbs * 2 ^ (k - q).toNat) (hs : n ≠ 0 → s = decide (n < 0)) : own_Dy n k (.fin s c q) := by
  show signed s (c * 2 ^ (q + -k).toNat) = n * ((2 ^ (-(q + -k)).toNat : Nat) : Int)
  rw [show q + -k = q - k by omega, show -(q - k) = k - q by omega, h]
  by_cases h0 : n = 0
  · subst h0; simp [signed]
  · rw [hs h0, signed_mul]
    congr 1
    unfold signed
    by_cases h : n < 0 <;> simp [h] <;> omega
/-- the same number in smaller units -/
theorem own_dy_scale {n k : Int} {x : Datum} (h : own_Dy n k x) (j : Nat) : own_Dy (n * ((2 ^ j : Nat) : Int)) (k - j) x := by
  obtain ⟨s, c, q, rfl⟩ := own_dy_fin h
  have p : 0 < 2 ^ j := Nat.two_pow_pos j
  refine own_dy_mk ?_ fun hn => ?_
  · have ha := own_dy_abs h
    rw [Int.natAbs_mul, Int.natAbs_natCast]
    have e1 : (q - (k - (j : Int))).toNat + (k - q).toNat = (q - k).toNat + j + (k - (j : Int) - q).toNat := by omega
    refine Nat.eq_of_mul_eq_mul_right (Nat.two_pow_pos (k - q).toNat) ?_
    calc c * 2 ^ (q - (k - (j : Int))).toNat * 2 ^ (k - q).toNat = c * 2 ^ ((q - (k - (j : Int))).toNat + (k - q).toNat) := by rw [Nat.pow_add, Nat.mul_assoc]
      _ = (c * 2 ^ (q - k).toNat) * 2 ^ j * 2 ^ (k - (j : Int) - q).toNat := by rw [e1, Nat.pow_add, Nat.pow_add]; simp only [Nat.mul_assoc]
      _ = n.natAbs * 2 ^ j * 2 ^ (k - (j : Int) - q).toNat * 2 ^ (k - q).toNat := by rw [ha]; ac_rfl
  · have p' : (0 : Int) < ((2 ^ j : Nat) : Int) := by omega
    have h0 : n ≠ 0 := fun h => hn (by rw [h, Int.zero_mul])
    rw [own_dy_sign h h0, decide_eq_decide]
    constructor
    · intro hl; exact Int.mul_neg_of_neg_of_pos hl p'
    · intro hl; exact Int.lt_of_not_ge fun hg => by have := Int.mul_nonneg hg (Int.le_of_lt p'); omega
/-- whole multiples of 2^k of at most 53 digits are doubles -/
theorem own_fit {n : Nat} {k : Int} (s : Bool) (hn : n ≤ 2 ^ 53) (h1 : -1074 ≤ k) (h2 : k ≤ 971) (h3 : n = 2 ^ 53 → k ≤ 970) : ∃ c q, Core.fits b64 (.fin s c q) ∧ n * 2 ^ (k - q).toNat = c * 1 * 2 ^ (q - k).toNat := by
  have ht : b64.tails = 2 ^ 52 := by decide
  have hp : b64.p = 53 := rfl
  have hm : b64.qmin = -1074 := by decide
  have hM : b64.qmax = 971 := by decide
  by_cases h0 : n = 0
  · subst h0
    exact ⟨0, b64.qmin, zero_fits good_b64 s, by simp⟩
  by_cases hp2 : n = 2 ^ 53
  · have h3 := h3 hp2
    refine ⟨2 ^ 52, k + 1, ⟨by rw [hp]; decide, by omega, by omega, .inr (by omega)⟩, ?_⟩
    rw [hp2, show (k - (k + 1)).toNat = 0 by omega, show (k + 1 - k).toNat = 1 by omega]
  · have l1 : 2 ^ n.log2 ≤ n := Nat.log2_self_le h0
    have l2 : n < 2 ^ (n.log2 + 1) := Nat.lt_log2_self
    have l3 : n.log2 < 53 := (Nat.pow_lt_pow_iff_right (by decide : 1 < 2)).mp (Nat.lt_of_le_of_lt l1 (by omega))
    generalize n.log2 = L at l1 l2 l3
    have hq : ∃ q : Int, q = max (-1074) ((L : Int) + k - 52) := ⟨_, rfl⟩
    obtain ⟨q, hq⟩ := hq
    have q1 : q ≤ k := by omega
    refine ⟨n * 2 ^ (k - q).toNat, q, ⟨?_, by omega, by omega, ?_⟩, ?_⟩
    · rw [hp]
      calc n * 2 ^ (k - q).toNat < 2 ^ (L + 1) * 2 ^ (k - q).toNat := Nat.mul_lt_mul_of_pos_right l2 (Nat.two_pow_pos _)
        _ = 2 ^ (L + 1 + (k - q).toNat) := by rw [← Nat.pow_add]
        _ ≤ 2 ^ 53 := Nat.pow_le_pow_right (by decide) (by omega)
    · by_cases hm2 : q = -1074
      · left; rw [hm]; exact hm2
      · right
        rw [ht]
        calc 2 ^ 52 = 2 ^ L * 2 ^ (k - q).toNat := by rw [← Nat.pow_add]; congr 1; omega
          _ ≤ n * 2 ^ (k - q).toNat := Nat.mul_le_mul_right _ l1
    · rw [show (q - k).toNat = 0 by omega]; simp
theorem own_dy_roundRatio {n k e : Int} {A B : Nat} {s : Bool} (hB : 0 < B) (hn : n.natAbs ≤ 2 ^ 53) (h1 : -1074 ≤ k) (h2 : k ≤ 970) (hA : A * 2 ^ (e - k).toNat = n.natAbs * B * 2 ^ (k - e).toNat) (hs : n ≠ 0 → s = decide (n < 0)) : own_Dy n k (roundRatio b64 s A B e) := by
  obtain ⟨c, q, hf, hv⟩ := own_fit (n := n.natAbs) s hn h1 (by omega) (fun _ => h2)
  have : roundRatio b64 s A B e = .fin s c q := by
    rw [roundRatio_congr (A' := n.natAbs) (B' := 1) (e' := k) hB (by decide) (by rw [Nat.mul_one]; exact hA)]
    exact roundRatio_exact good_b64 (by decide) hf hv
  rw [this]
  refine own_dy_mk ?_ hs
  rw [Nat.mul_one] at hv
  exact hv.symm
theorem own_dy_round {n k : Int} {d : Datum} (hn : n.natAbs ≤ 2 ^ 53) (h1 : -1074 ≤ k) (h2 : k ≤ 970) (h : own_Dy n k d) : own_Dy n k (round b64 d) := by
  obtain ⟨s, c, q, rfl⟩ := own_dy_fin h
  refine own_dy_roundRatio (by decide) hn h1 h2 ?_ (own_dy_sign h)
  rw [Nat.mul_one]; exact own_dy_abs h
theorem own_pow_cancel {a b x y : Nat} {u : Int} (h : a * 2 ^ x = b * 2 ^ y) (hu : u = (x : Int) - y) : a * 2 ^ u.toNat = b * 2 ^ (-u).toNat := by
  have hx : x = u.toNat + min x y := by omega
  have hy : y = (-u).toNat + min x y := by omega
  generalize u.toNat = v at *
  generalize (-u).toNat = w at *
  generalize min x y = t at hx hy
  subst hx hy
  rw [Nat.pow_add, Nat.pow_add, ← Nat.mul_assoc, ← Nat.mul_assoc] at h
  exact Nat.eq_of_mul_eq_mul_right (Nat.two_pow_pos t) h
/-- an exact quotient -/
theorem own_dy_quot {r m k l : Int} {x y : Datum} (hm : m ≠ 0) (hn : r.natAbs ≤ 2 ^ 53) (h1 : -1074 ≤ k) (h2 : k ≤ 970) (hx : own_Dy (r * m) (k + l) x) (hy : own_Dy m l y) : own_Dy r k (quotient b64 x y) := by
  obtain ⟨s, c, q, rfl⟩ := own_dy_fin hx
  obtain ⟨t, d, q', rfl⟩ := own_dy_fin hy
  have ha := own_dy_abs hx
  have hb := own_dy_abs hy
  have hd : d ≠ 0 := by
    rintro rfl
    rw [Nat.zero_mul] at hb
    rcases Nat.mul_eq_zero.mp hb.symm with h | h
    · exact hm (Int.natAbs_eq_zero.mp h)
    · have := Nat.two_pow_pos (l - q').toNat; omega
  show own_Dy r k (if d = 0 then _ else _)
  rw [if_neg hd]
  refine own_dy_roundRatio (Nat.pos_of_ne_zero hd) hn h1 h2 ?_ fun h0 => ?_
  · rw [Int.natAbs_mul] at ha
    have e1 : (q - q' - k) = (((q - (k + l)).toNat + (l - q').toNat : Nat) : Int) - (((k + l - q).toNat + (q' - l).toNat : Nat) : Int) := by omega
    have e2 : k - (q - q') = -(q - q' - k) := by omega
    rw [e2]
    refine own_pow_cancel (x := (q - (k + l)).toNat + (l - q').toNat) (y := (k + l - q).toNat + (q' - l).toNat) ?_ e1
    calc c * 2 ^ ((q - (k + l)).toNat + (l - q').toNat) = (c * 2 ^ (q - (k + l)).toNat) * 2 ^ (l - q').toNat := by rw [Nat.pow_add, Nat.mul_assoc]
      _ = r.natAbs * (m.natAbs * 2 ^ (l - q').toNat) * 2 ^ (k + l - q).toNat := by rw [ha]; ac_rfl
      _ = r.natAbs * d * 2 ^ ((k + l - q).toNat + (q' - l).toNat) := by rw [← hb, Nat.pow_add]; ac_rfl
  · have h3 : r * m ≠ 0 := fun h => (Int.mul_eq_zero.mp h).elim h0 hm
    rw [own_dy_sign hx h3, own_dy_sign hy hm]
    rcases Int.lt_or_gt_of_ne h0 with a | a <;> rcases Int.lt_or_gt_of_ne hm with b | b
    · have := Int.mul_pos_of_neg_of_neg a b; simp [a, b]; omega
    · have := Int.mul_neg_of_neg_of_pos a b; simp [a, this]; omega
    · have := Int.mul_neg_of_pos_of_neg a b; simp [b, this]; omega
    · have := Int.mul_pos a b; simp [show ¬ r < 0 by omega, show ¬ m < 0 by omega]; omega
theorem own_dy_unscale {n k : Int} {x : Datum} (j : Nat) (h : own_Dy (n * ((2 ^ j : Nat) : Int)) k x) : own_Dy n (k + j) x := by
  obtain ⟨s, c, q, rfl⟩ := own_dy_fin h
  have p : 0 < 2 ^ j := Nat.two_pow_pos j
  have p' : (0 : Int) < ((2 ^ j : Nat) : Int) := by omega
  refine own_dy_mk ?_ fun h0 => ?_
  · have ha := own_dy_abs h
    rw [Int.natAbs_mul, Int.natAbs_natCast] at ha
    have e1 : (q - (k + (j : Int))) = (((q - k).toNat : Nat) : Int) - (((k - q).toNat + j : Nat) : Int) := by omega
    have e2 : k + (j : Int) - q = -(q - (k + (j : Int))) := by omega
    rw [e2]
    refine own_pow_cancel (x := (q - k).toNat) (y := (k - q).toNat + j) ?_ e1
    rw [ha, Nat.pow_add]; ac_rfl
  · have hn : n * ((2 ^ j : Nat) : Int) ≠ 0 := fun h => (Int.mul_eq_zero.mp h).elim h0 (by omega)
    rw [own_dy_sign h hn, decide_eq_decide]
    constructor
    · intro hl; exact Int.lt_of_not_ge fun hg => by have := Int.mul_nonneg hg (Int.le_of_lt p'); omega
    · intro hl; exact Int.mul_neg_of_neg_of_pos hl p'
/-- the number in units of 2^e -/
theorem own_dy_units {n k q e : Int} {s : Bool} {c : Nat} (h : own_Dy n k (.fin s c q)) (h1 : e ≤ k) (h2 : e ≤ q) : signed s (inUnits c q e) = n * ((2 ^ (k - e).toNat : Nat) : Int) := by
  have ha := own_dy_abs h
  have e1 : inUnits c q e = n.natAbs * 2 ^ (k - e).toNat := by
    unfold inUnits
    refine Nat.eq_of_mul_eq_mul_right (Nat.two_pow_pos (k - q).toNat) ?_
    calc c * 2 ^ (q - e).toNat * 2 ^ (k - q).toNat = (c * 2 ^ (q - k).toNat) * 2 ^ (k - e).toNat := by
          rw [Nat.mul_assoc, ← Nat.pow_add, Nat.mul_assoc, ← Nat.pow_add]; congr 2; omega
      _ = n.natAbs * 2 ^ (k - e).toNat * 2 ^ (k - q).toNat := by rw [ha]; ac_rfl
  rw [e1, signed_mul]
  congr 1
  by_cases h0 : n = 0
  · subst h0; simp [signed]
  · rw [own_dy_sign h h0]
    unfold signed
    by_cases hl : n < 0 <;> simp [hl] <;> omega
theorem own_pow_split (n : Int) {k e : Int} (h1 : -1074 ≤ k) (h2 : e ≤ -1074) : n * ((2 ^ (k - e).toNat : Nat) : Int) = n * ((2 ^ (k + 1074).toNat : Nat) : Int) * ((2 ^ (b64.qmin - e).toNat : Nat) : Int) := by
  have hm : b64.qmin = -1074 := by decide
  rw [hm, Int.mul_assoc, ← Int.natCast_mul, ← Nat.pow_add]
  congr 4
  omega
/-- rounding is monotone -/
theorem own_round_le {n k w : Int} {d V : Datum} (h : own_Dy n k d) (h1 : -1074 ≤ k) (hV : Core.fits b64 V) (hn : V ≠ .nan) (hz : zval b64 V = w) (hw : n * ((2 ^ (k + 1074).toNat : Nat) : Int) ≤ w) : zval b64 (round b64 d) ≤ w := by
  obtain ⟨s, c, q, rfl⟩ := own_dy_fin h
  have hm : b64.qmin = -1074 := by decide
  have p := Nat.two_pow_pos (b64.qmin - min (-1074) q).toNat
  rw [← hz]
  refine zval_round_le good_b64 hV hn (e0 := min (-1074) q) (by omega) (by omega) ?_
  rw [own_dy_units h (by omega) (by omega), own_pow_split n h1 (by omega), hz]
  exact Int.mul_le_mul_of_nonneg_right hw (by omega)
theorem own_round_ge {n k w : Int} {d V : Datum} (h : own_Dy n k d) (h1 : -1074 ≤ k) (hV : Core.fits b64 V) (hn : V ≠ .nan) (hz : zval b64 V = w) (hw : w ≤ n * ((2 ^ (k + 1074).toNat : Nat) : Int)) : w ≤ zval b64 (round b64 d) := by
  obtain ⟨s, c, q, rfl⟩ := own_dy_fin h
  have hm : b64.qmin = -1074 := by decide
  have p := Nat.two_pow_pos (b64.qmin - min (-1074) q).toNat
  rw [← hz]
  refine zval_round_ge good_b64 hV hn (e0 := min (-1074) q) (by omega) (by omega) ?_
  rw [own_dy_units h (by omega) (by omega), own_pow_split n h1 (by omega), hz]
  exact Int.mul_le_mul_of_nonneg_right hw (by omega)
/-! ### on doubles -/
def own_D (n k : Int) (a : UInt64) : Prop := own_Dy n k (val64 a)
theorem own_d_int {n : Int} {a : UInt64} : own_D n 0 a ↔ DInt n a := own_dy0
theorem own_d_ne {n k : Int} {a : UInt64} (h : own_D n k a) : val64 a ≠ .nan := by
  obtain ⟨s, c, q, e⟩ := own_dy_fin h; rw [e]; exact Datum.noConfusion
theorem own_d_no {n k : Int} {a : UInt64} (h : own_D n k a) : Jvm.Free.Fl.NoNaN64 a := Jvm.Free.Fl.val64_no.mpr (own_d_ne h)
theorem own_d_scale {n k : Int} {a : UInt64} (h : own_D n k a) (j : Nat) : own_D (n * ((2 ^ j : Nat) : Int)) (k - j) a := own_dy_scale h j
theorem own_d_add {n m k : Int} {a b : UInt64} (ha : own_D n k a) (hb : own_D m k b) (hn : (n + m).natAbs ≤ 2 ^ 53) (h1 : -1074 ≤ k) (h2 : k ≤ 970) : own_D (n + m) k (FP.dadd a b) := by
  unfold own_D; rw [show FP.dadd a b = Core.dadd a b from rfl, val64_dadd]; exact own_dy_round hn h1 h2 (own_dy_sum ha hb)
theorem own_d_sub {n m k : Int} {a b : UInt64} (ha : own_D n k a) (hb : own_D m k b) (hn : (n - m).natAbs ≤ 2 ^ 53) (h1 : -1074 ≤ k) (h2 : k ≤ 970) : own_D (n - m) k (FP.dsub a b) := by
  unfold own_D; rw [show FP.dsub a b = Core.dsub a b from rfl, val64_dsub]; exact own_dy_round hn h1 h2 (own_dy_sum ha (own_dy_neg hb))
theorem own_d_mul {n m k l : Int} {a b : UInt64} (ha : own_D n k a) (hb : own_D m l b) (hn : (n * m).natAbs ≤ 2 ^ 53) (h1 : -1074 ≤ k + l) (h2 : k + l ≤ 970) : own_D (n * m) (k + l) (FP.dmul a b) := by
  unfold own_D; rw [show FP.dmul a b = Core.dmul a b from rfl, val64_dmul]; exact own_dy_round hn h1 h2 (own_dy_prod ha hb)
theorem own_d_div {r m k l : Int} {a b : UInt64} (hm : m ≠ 0) (ha : own_D (r * m) (k + l) a) (hb : own_D m l b) (hn : r.natAbs ≤ 2 ^ 53) (h1 : -1074 ≤ k) (h2 : k ≤ 970) : own_D r k (FP.ddiv a b) := by
  unfold own_D; rw [show FP.ddiv a b = Core.ddiv a b from rfl, val64_ddiv]; exact own_dy_quot hm hn h1 h2 ha hb
theorem own_d_neg {n k : Int} {a : UInt64} (ha : own_D n k a) : own_D (-n) k (FP.dneg a) := by
  unfold own_D; rw [FP.val64_dneg]; exact own_dy_neg ha
theorem own_d_cmp {n m k : Int} {a b : UInt64} (ha : own_D n k a) (hb : own_D m k b) : FP.dcmp a b = some (compare n m) := own_dy_order ha hb
theorem own_d_i2d (x : Int32) : own_D x.toInt 0 (FP.i2d x) := own_d_int.mpr (i2d_int x)
theorem own_d_l2d {x : Int64} (h : x.toInt.natAbs ≤ 2 ^ 53) : own_D x.toInt 0 (FP.l2d x) := own_d_int.mpr (l2d_int h)
theorem own_d_unscale {n k : Int} {a : UInt64} (j : Nat) (h : own_D (n * ((2 ^ j : Nat) : Int)) k a) : own_D n (k + j) a := own_dy_unscale j h
theorem own_d_zv {n k : Int} {a : UInt64} (h : own_D n k a) (h1 : -1074 ≤ k) : zval b64 (val64 a) = n * ((2 ^ (k + 1074).toNat : Nat) : Int) := by
  obtain ⟨s, c, q, e⟩ := own_dy_fin h
  have hf := val64_fits a
  unfold own_D at h
  rw [e] at h hf ⊢
  have hm : b64.qmin = -1074 := by decide
  have := own_dy_units h (e := b64.qmin) (by omega) (by have := hf.2.1; omega)
  show signed s (inUnits c q b64.qmin) = _
  rw [this, hm]
  congr 4
theorem own_cmp_eq (n : Int) : compare n n = .eq := by simp [compare, compareOfLessAndEq]
theorem own_cmp0 {r : Option Ordering} {op : CmpOp} : cmpValue r op = 0 ↔ r = some .eq := by
  rcases r with _ | o
  · cases op <;> simp [cmpValue] <;> decide
  · cases o <;> simp [cmpValue]
theorem own_d_of {n k q : Int} {s : Bool} {c : Nat} {a : UInt64} (h : val64 a = .fin s c q) (h' : c * 2 ^ (q - k).toNat = n.natAbs * 2 ^ (k - q).toNat) (hs : n = 0 ∨ s = decide (n < 0)) : own_D n k a := by
  unfold own_D; rw [h]; exact own_dy_mk h' fun h0 => hs.resolve_left h0
theorem own_d_0 {k l : Int} {a : UInt64} (h : own_D 0 k a) : own_D 0 l a := by
  obtain ⟨s, c, q, e⟩ := own_dy_fin h
  unfold own_D at h ⊢
  rw [e] at h ⊢
  have := own_dy_abs h
  refine own_dy_mk ?_ fun h0 => absurd rfl h0
  have p := Nat.two_pow_pos (q - k).toNat
  rw [show (0 : Int).natAbs = 0 from rfl, Nat.zero_mul] at this
  rcases Nat.mul_eq_zero.mp this with h | h
  · rw [h]; simp
  · omega
theorem own_d_zero : own_D 0 0 FP.dconst0 := own_d_of (s := false) (c := 0) (q := -1074) (by decide +kernel) (by decide +kernel) (Or.inl rfl)
theorem own_d_one : own_D 1 0 FP.dconst1 := own_d_of (s := false) (c := 4503599627370496) (q := -52) (by decide +kernel) (by decide +kernel) (Or.inr rfl)
end OwnDy
def QC (Z : State) (a A B : Addr) (kA kB : ClassId) (hd tl : Int32) (ss vv : List Value) (h0 : Heap) (n0 : Nat) (v : Option Value) (h : Heap) (L : List Loc) : Prop := v = none ∧ Fr n0 L ∧ Keep h0 h [a, A, B] ∧ Fld Z h a "com/example/counterpath/counterpath/core/CappedMaximum" "samples" "[I" (.ref A) ∧ Fld Z h a "com/example/counterpath/counterpath/core/CappedMaximum" "values" "[D" (.ref B) ∧ Fld Z h a "com/example/counterpath/counterpath/core/CappedMaximum" "head" "I" (.int hd) ∧ Fld Z h a "com/example/counterpath/counterpath/core/CappedMaximum" "tail" "I" (.int tl) ∧ Arv Z h A kA .int (3 : Int32) ss (.int (0 : Int32)) ∧ Arv Z h B kB .double (3 : Int32) vv (.double (0 : UInt64))
def QN (Z : State) (a : Addr) (h0 : Heap) (n0 : Nat) (v : Option Value) (h : Heap) (L : List Loc) : Prop := v = none ∧ Fr n0 L ∧ Keep h0 h [a] ∧ ∃ (A B : Addr) (kA kB : ClassId), n0 ≤ A ∧ n0 ≤ B ∧ h0.size ≤ A ∧ h0.size ≤ B ∧ a ≠ A ∧ a ≠ B ∧ A ≠ B ∧ Fld Z h a "com/example/counterpath/counterpath/core/CappedMaximum" "samples" "[I" (.ref A) ∧ Fld Z h a "com/example/counterpath/counterpath/core/CappedMaximum" "values" "[D" (.ref B) ∧ Fld Z h a "com/example/counterpath/counterpath/core/CappedMaximum" "head" "I" (.int (3 : Int32)) ∧ Fld Z h a "com/example/counterpath/counterpath/core/CappedMaximum" "tail" "I" (.int (3 : Int32)) ∧ Arv Z h A kA .int (3 : Int32) [(.int (0 : Int32)), (.int (0 : Int32)), (.int (0 : Int32))] (.int (0 : Int32)) ∧ Arv Z h B kB .double (3 : Int32) [(.double (0 : UInt64)), (.double (0 : UInt64)), (.double (0 : UInt64))] (.double (0 : UInt64))
def QD (z : UInt64) (h0 : Heap) (n0 : Nat) (v : Option Value) (h : Heap) (L : List Loc) : Prop := v = some (.double z) ∧ Fr n0 L ∧ h = h0
def QI (z : Int32) (h0 : Heap) (n0 : Nat) (v : Option Value) (h : Heap) (L : List Loc) : Prop := v = some (.int z) ∧ Fr n0 L ∧ h = h0
theorem own_pd__I_V : parseMethodDescriptor "(I)V" = some ⟨[.int], none⟩ := by decide +kernel
theorem own_pd__ID_V : parseMethodDescriptor "(ID)V" = some ⟨[.int, .double], none⟩ := by decide +kernel
theorem own_pd___D : parseMethodDescriptor "()D" = some ⟨[], some .double⟩ := by decide +kernel
theorem own_pd__II_I : parseMethodDescriptor "(II)I" = some ⟨[.int, .int], some .int⟩ := by decide +kernel
theorem own_pd___V : parseMethodDescriptor "()V" = some ⟨[], none⟩ := by decide +kernel
def own_max (a b : Int32) : Int32 := if a < b then b else a
theorem own_max_int (a b : Int32) : (own_max a b).toInt = max a.toInt b.toInt := by
  unfold own_max
  by_cases h : a < b
  · rw [if_pos h]; rw [Int32.lt_iff_toInt_lt] at h; omega
  · rw [if_neg h]; rw [Int32.lt_iff_toInt_lt] at h; omega
theorem own_gt (a b : Int32) (op : CmpOp) : (0 : Int32) < cmpValue (FP.dcmp (FP.i2d a) (FP.i2d b)) op ↔ b.toInt < a.toInt := by
  rw [own_d_cmp (own_d_i2d a) (own_d_i2d b)]
  rcases Int.lt_trichotomy a.toInt b.toInt with h | h | h
  · rw [Int.compare_eq_lt.mpr h]; exact ⟨fun q => absurd q (by cases op <;> decide), fun q => by omega⟩
  · rw [Int.compare_eq_eq.mpr h]; exact ⟨fun q => absurd q (by cases op <;> decide), fun q => by omega⟩
  · rw [Int.compare_eq_gt.mpr h]; exact ⟨fun _ => h, fun _ => by cases op <;> decide⟩
theorem own_eq {a b : Int32} (h : a.toInt = b.toInt) (op : CmpOp) : cmpValue (FP.dcmp (FP.i2d a) (FP.i2d b)) op = 0 := own_cmp0.mpr (by rw [own_d_cmp (own_d_i2d a) (own_d_i2d b), h, own_cmp_eq])
theorem own_rise {a b : Int32} (h0 : -1000000000 ≤ a.toInt) (h1 : a.toInt ≤ 1000000000) (hb : 0 ≤ b.toInt ∧ b.toInt ≤ 255) : ((a + 1) + b).toInt = a.toInt + 1 + b.toInt := by
  have e1 := c_iadd a 1
  have e2 := c_iadd (a + 1) b
  have r1 := rng32 (a + 1)
  have r2 := rng32 ((a + 1) + b)
  rw [show (1 : Int32).toInt = 1 by decide] at e1
  omega
theorem d1_0 : decode prog_3_method_1_code 0 = .ok (.aload_n 0, 1) := by decide +kernel
theorem d1_1 : decode prog_3_method_1_code 1 = .ok (.invokespecial 1, 3) := by decide +kernel
theorem d1_4 : decode prog_3_method_1_code 4 = .ok (.aload_n 0, 1) := by decide +kernel
theorem d1_5 : decode prog_3_method_1_code 5 = .ok (.iload_n 1, 1) := by decide +kernel
theorem d1_6 : decode prog_3_method_1_code 6 = .ok (.newarray .int, 2) := by decide +kernel
theorem d1_8 : decode prog_3_method_1_code 8 = .ok (.putfield 7, 3) := by decide +kernel
theorem d1_11 : decode prog_3_method_1_code 11 = .ok (.aload_n 0, 1) := by decide +kernel
theorem d1_12 : decode prog_3_method_1_code 12 = .ok (.iload_n 1, 1) := by decide +kernel
theorem d1_13 : decode prog_3_method_1_code 13 = .ok (.newarray .double, 2) := by decide +kernel
theorem d1_15 : decode prog_3_method_1_code 15 = .ok (.putfield 13, 3) := by decide +kernel
theorem d1_18 : decode prog_3_method_1_code 18 = .ok (.aload_n 0, 1) := by decide +kernel
theorem d1_19 : decode prog_3_method_1_code 19 = .ok (.iload_n 1, 1) := by decide +kernel
theorem d1_20 : decode prog_3_method_1_code 20 = .ok (.putfield 17, 3) := by decide +kernel
theorem d1_23 : decode prog_3_method_1_code 23 = .ok (.aload_n 0, 1) := by decide +kernel
theorem d1_24 : decode prog_3_method_1_code 24 = .ok (.iload_n 1, 1) := by decide +kernel
theorem d1_25 : decode prog_3_method_1_code 25 = .ok (.putfield 21, 3) := by decide +kernel
theorem d1_28 : decode prog_3_method_1_code 28 = .ok (.return_, 1) := by decide +kernel
theorem own_pn_com_example_counterpath_counterpath_core_CappedMaximum : plainName "com/example/counterpath/counterpath/core/CappedMaximum" = true := by first | (simp [plainName, overriddenIn]; done) | decide +kernel
theorem own_ef1 (m : MethodId) (x0 : Addr) (x1 : Int32) : entryFrame m #[(.ref x0), (.int x1)] 2 = mkF m 0 #[.val (.ref x0), .val (.int x1)] [] := by first | (simp [entryFrame, mkF, argsToLocals, Value.category]; done) | rfl
set_option maxRecDepth 65536 in
set_option maxHeartbeats 40000000 in
theorem rmI (l : Launch) (Z : State) (a0 : Array Value) (hw : ∀ d ∈ tables_1, d.before a0 Z = true) (ws : List Jvm.Cond) (a : Addr) (cp : Int32)  (h0 : Heap) (n0 : Nat) (Z0 : n0 ≤ h0.size) (hcp : cp = (3 : Int32)) (E7 : Exa Z h0 a "com/example/counterpath/counterpath/core/CappedMaximum") (FS : Fld Z h0 a "com/example/counterpath/counterpath/core/CappedMaximum" "samples" "[I" .null) (FV : Fld Z h0 a "com/example/counterpath/counterpath/core/CappedMaximum" "values" "[D" .null) (FH : Fld Z h0 a "com/example/counterpath/counterpath/core/CappedMaximum" "head" "I" (.int (0 : Int32))) (FT : Fld Z h0 a "com/example/counterpath/counterpath/core/CappedMaximum" "tail" "I" (.int (0 : Int32))) (ga : n0 ≤ a) :
    MetFree l (⟨"com/example/counterpath/counterpath/core/CappedMaximum", "<init>", "(I)V"⟩ : MethodName) (head1 (Jvm.Cond.code (⟨"com/example/counterpath/counterpath/core/CappedMaximum", "<init>", "(I)V"⟩ : MethodName) prog_3_method_1_code 2 none :: ws) ({ frames := 1, cells := 2, slots := 6, locals := 12 } : Room)) (fun α U => α = #[(.ref a), (.int cp)] ∧ Z.Warmed39 U.vm ∧ U.heap = h0) (fun _ _ _ _ _ => True) (fun _ U ω U' => ∃ ν Λ, ω = .returned ν ∧ QN Z a h0 n0 ν U'.heap Λ ∧ FrameEnd U ω U' Λ ({ frames := 1, cells := 2, slots := 6, locals := 12 } : Room).cells ({ frames := 1, cells := 2, slots := 6, locals := 12 } : Room).slots) := by
  refine MetFree.of_bodySF (plainFor_of_name own_pn_com_example_counterpath_counterpath_core_CappedMaximum) hisR ?_
  intro p e s m args below meth c s₁ Bd hml0 hP hK
  obtain ⟨rfl, hZ, hh⟩ := hP
  have hx := Bd.exec
  have hby := Bd.bytes
  have hml : c.maxLocals = 2 := hml0
  have hown : s.vm.findClass "com/example/counterpath/counterpath/core/CappedMaximum" = some m.cls := findClass_of_methodNamed Bd.named
  have hnm := (name_of_methodNamed Bd.named Bd.method).1
  have X0 : Stand p l e ({ frames := 1, cells := 2, slots := 6, locals := 12 } : Room) s m #[(.ref a), (.int cp)] below meth c s₁ [] 0 0 := Stand.of_body Bd
  have e0 : s₁.heap = h0 := by rw [← hh, Bd.state]; rfl
  have N0 := Fr.nil n0
  have KK0 : Keep h0 h0 [a] := Keep.refl h0 [a]
  have pre0 : ∀ τ, Steps p.tables e below (s₁.setTop (mkF m 0 #[.val (.ref a), .val (.int cp)] [])) τ → Steps p.tables e below (s₁.setTop (entryFrame m #[(.ref a), (.int cp)] 2)) τ := fun τ κ => castTop (own_ef1 m a cp) κ
  subst hcp
  have pre1 : ∀ τ, Steps p.tables e below (s₁.setTop (mkF m 1 #[.val (.ref a), .val (.int (3 : Int32))] [(.ref a)])) τ → Steps p.tables e below (s₁.setTop (entryFrame m #[(.ref a), (.int (3 : Int32))] 2)) τ := fun τ kt => pre0 τ (by
    show Steps p.tables e below (s₁.setTop (mkF m 0 #[.val (.ref a), .val (.int (3 : Int32))] [])) τ
    refine XS.aloadN X0.here hx rfl (Jvm.hb hby d1_0) rfl rfl ?_
    exact kt)
  obtain ⟨T2, X2, e2, st2⟩ := initO X0 hx hZ hown (hw _ (List.mem_of_getElem? (i := 6) rfl)) (hw _ (List.mem_of_getElem? (i := 7) rfl)) (hw _ (List.mem_of_getElem? (i := 8) rfl)) e0 (g := (mkF m 1 #[.val (.ref a), .val (.int (3 : Int32))] [(.ref a)])) rfl (by rw [hml]; rfl) rfl (Jvm.hb hby d1_1) (by decide) (W := 0) (by show 2 * 0 + _ ≤ _; exact Nat.le_of_eq rfl) (by decide)
  have pre3 : ∀ τ, Steps p.tables e below (T2.setTop (mkF m 4 #[.val (.ref a), .val (.int (3 : Int32))] [])) τ → Steps p.tables e below (s₁.setTop (entryFrame m #[(.ref a), (.int (3 : Int32))] 2)) τ := fun τ kt => pre1 τ (st2 τ kt)
  have pre4 : ∀ τ, Steps p.tables e below (T2.setTop (mkF m 6 #[.val (.ref a), .val (.int (3 : Int32))] [(.int (3 : Int32)), (.ref a)])) τ → Steps p.tables e below (s₁.setTop (entryFrame m #[(.ref a), (.int (3 : Int32))] 2)) τ := fun τ kt => pre3 τ (by
    show Steps p.tables e below (T2.setTop (mkF m 4 #[.val (.ref a), .val (.int (3 : Int32))] [])) τ
    refine XS.aloadN X2.here hx rfl (Jvm.hb hby d1_4) rfl rfl ?_
    show Steps p.tables e below (T2.setTop (mkF m 5 #[.val (.ref a), .val (.int (3 : Int32))] [(.ref a)])) τ
    refine XS.iloadN X2.here hx rfl (Jvm.hb hby d1_5) rfl ?_
    exact kt)
  obtain ⟨T5, h5, k5, X5, e5, E5, A5, st5⟩ := newP X2 hx hZ (hw _ (List.mem_of_getElem? (i := 9) rfl)) e2 (g := (mkF m 6 #[.val (.ref a), .val (.int (3 : Int32))] [(.int (3 : Int32)), (.ref a)])) rfl (Jvm.hb hby d1_6) rfl (by decide) (cap := 3) (by decide) (by decide) (by decide) (by decide)
  obtain ⟨A, g5⟩ : ∃ z, z = h0.size := ⟨_, rfl⟩
  rw [← g5] at A5 st5
  have ne_a_A : a ≠ A := Nat.ne_of_lt (Nat.lt_of_lt_of_le E7.lt (Nat.le_of_eq g5.symm))
  have g_A : n0 ≤ A := Nat.le_trans (Nat.le_trans Z0 KK0.1) (Nat.le_of_eq g5.symm)
  have sz_A : h0.size ≤ A := Nat.le_trans KK0.1 (Nat.le_of_eq g5.symm)
  have K5 : Keep h0 h5 [a] := KK0.ext E5
  have V_A : Arv Z h5 A k5 .int (3 : Int32) [(.int (0 : Int32)), (.int (0 : Int32)), (.int (0 : Int32))] (.int (0 : Int32)) := (Arv.new A5 (by decide)).pad (pad_rep [] (.int (0 : Int32)) 3)
  have pre6 : ∀ τ, Steps p.tables e below (T5.setTop (mkF m 8 #[.val (.ref a), .val (.int (3 : Int32))] [(.ref A), (.ref a)])) τ → Steps p.tables e below (s₁.setTop (entryFrame m #[(.ref a), (.int (3 : Int32))] 2)) τ := fun τ kt => pre4 τ (st5 τ kt)
  have f8 := FS.ext E5
  have f9 := E7.ext E5
  obtain ⟨T7, h7, X7, e7, W7, st7⟩ := putF X5 hx hZ hown (host := "") (Or.inl (hw _ (List.mem_of_getElem? (i := 10) rfl))) Via.refl e5 f8 f9 (Or.inr ⟨(hw _ (List.mem_of_getElem? (i := 11) rfl)), rfl, hnm⟩) (hw _ (List.mem_of_getElem? (i := 1) rfl)) (ty := (.array .int)) (by decide) rfl rfl (g := (mkF m 8 #[.val (.ref a), .val (.int (3 : Int32))] [(.ref A), (.ref a)])) rfl rfl (Jvm.hb hby d1_8)
  have fw7 := Fld.same W7 f8
  have N7 := Fr.snoc X7 N0 ga
  have K7 : Keep h0 h7 [a] := K5.wr W7 (Or.inl (by simp))
  have pre10 : ∀ τ, Steps p.tables e below (T7.setTop (mkF m 11 #[.val (.ref a), .val (.int (3 : Int32))] [])) τ → Steps p.tables e below (s₁.setTop (entryFrame m #[(.ref a), (.int (3 : Int32))] 2)) τ := fun τ kt => pre6 τ (st7 τ kt)
  have pre11 : ∀ τ, Steps p.tables e below (T7.setTop (mkF m 13 #[.val (.ref a), .val (.int (3 : Int32))] [(.int (3 : Int32)), (.ref a)])) τ → Steps p.tables e below (s₁.setTop (entryFrame m #[(.ref a), (.int (3 : Int32))] 2)) τ := fun τ kt => pre10 τ (by
    show Steps p.tables e below (T7.setTop (mkF m 11 #[.val (.ref a), .val (.int (3 : Int32))] [])) τ
    refine XS.aloadN X7.here hx rfl (Jvm.hb hby d1_11) rfl rfl ?_
    show Steps p.tables e below (T7.setTop (mkF m 12 #[.val (.ref a), .val (.int (3 : Int32))] [(.ref a)])) τ
    refine XS.iloadN X7.here hx rfl (Jvm.hb hby d1_12) rfl ?_
    exact kt)
  obtain ⟨T12, h12, k12, X12, e12, E12, A12, st12⟩ := newP X7 hx hZ (hw _ (List.mem_of_getElem? (i := 12) rfl)) e7 (g := (mkF m 13 #[.val (.ref a), .val (.int (3 : Int32))] [(.int (3 : Int32)), (.ref a)])) rfl (Jvm.hb hby d1_13) rfl (by decide) (cap := 3) (by decide) (by decide) (by decide) (by decide)
  obtain ⟨B, g12⟩ : ∃ z, z = h7.size := ⟨_, rfl⟩
  rw [← g12] at A12 st12
  have f13 := f9.wr W7
  have ne_a_B : a ≠ B := Nat.ne_of_lt (Nat.lt_of_lt_of_le f13.lt (Nat.le_of_eq g12.symm))
  have f14 := V_A.other W7 (Ne.symm ne_a_A)
  have ne_A_B : A ≠ B := Nat.ne_of_lt (Nat.lt_of_lt_of_le f14.lt (Nat.le_of_eq g12.symm))
  have g_B : n0 ≤ B := Nat.le_trans (Nat.le_trans Z0 K7.1) (Nat.le_of_eq g12.symm)
  have sz_B : h0.size ≤ B := Nat.le_trans K7.1 (Nat.le_of_eq g12.symm)
  have K12 : Keep h0 h12 [a] := K7.ext E12
  have V_B : Arv Z h12 B k12 .double (3 : Int32) [(.double (0 : UInt64)), (.double (0 : UInt64)), (.double (0 : UInt64))] (.double (0 : UInt64)) := (Arv.new A12 (by decide)).pad (pad_rep [] (.double (0 : UInt64)) 3)
  have pre15 : ∀ τ, Steps p.tables e below (T12.setTop (mkF m 15 #[.val (.ref a), .val (.int (3 : Int32))] [(.ref B), (.ref a)])) τ → Steps p.tables e below (s₁.setTop (entryFrame m #[(.ref a), (.int (3 : Int32))] 2)) τ := fun τ kt => pre11 τ (st12 τ kt)
  have f17 := FV.ext E5
  have f18 := (f17.other W7 (Or.inr (slot_ne (Or.inr (hw _ (List.mem_of_getElem? (i := 14) rfl))) (Or.inr (hw _ (List.mem_of_getElem? (i := 11) rfl))) (by decide) (t := (.array .double)) (t' := (.array .int)) (by decide) (by decide))))
  have f19 := f18.ext E12
  have f20 := f13.ext E12
  obtain ⟨T16, h16, X16, e16, W16, st16⟩ := putF X12 hx hZ hown (host := "") (Or.inl (hw _ (List.mem_of_getElem? (i := 13) rfl))) Via.refl e12 f19 f20 (Or.inr ⟨(hw _ (List.mem_of_getElem? (i := 14) rfl)), rfl, hnm⟩) (hw _ (List.mem_of_getElem? (i := 1) rfl)) (ty := (.array .double)) (by decide) rfl rfl (g := (mkF m 15 #[.val (.ref a), .val (.int (3 : Int32))] [(.ref B), (.ref a)])) rfl rfl (Jvm.hb hby d1_15)
  have fw16 := Fld.same W16 f19
  have N16 := Fr.snoc X16 N7 ga
  have K16 : Keep h0 h16 [a] := K12.wr W16 (Or.inl (by simp))
  have pre21 : ∀ τ, Steps p.tables e below (T16.setTop (mkF m 18 #[.val (.ref a), .val (.int (3 : Int32))] [])) τ → Steps p.tables e below (s₁.setTop (entryFrame m #[(.ref a), (.int (3 : Int32))] 2)) τ := fun τ kt => pre15 τ (st16 τ kt)
  have pre22 : ∀ τ, Steps p.tables e below (T16.setTop (mkF m 20 #[.val (.ref a), .val (.int (3 : Int32))] [(.int (3 : Int32)), (.ref a)])) τ → Steps p.tables e below (s₁.setTop (entryFrame m #[(.ref a), (.int (3 : Int32))] 2)) τ := fun τ kt => pre21 τ (by
    show Steps p.tables e below (T16.setTop (mkF m 18 #[.val (.ref a), .val (.int (3 : Int32))] [])) τ
    refine XS.aloadN X16.here hx rfl (Jvm.hb hby d1_18) rfl rfl ?_
    show Steps p.tables e below (T16.setTop (mkF m 19 #[.val (.ref a), .val (.int (3 : Int32))] [(.ref a)])) τ
    refine XS.iloadN X16.here hx rfl (Jvm.hb hby d1_19) rfl ?_
    exact kt)
  have f24 := FH.ext E5
  have f25 := (f24.other W7 (Or.inr (slot_ne (Or.inl (hw _ (List.mem_of_getElem? (i := 16) rfl))) (Or.inr (hw _ (List.mem_of_getElem? (i := 11) rfl))) (by decide) (t := .int) (t' := (.array .int)) (by decide) (by decide))))
  have f26 := f25.ext E12
  have f27 := (f26.other W16 (Or.inr (slot_ne (Or.inl (hw _ (List.mem_of_getElem? (i := 16) rfl))) (Or.inr (hw _ (List.mem_of_getElem? (i := 14) rfl))) (by decide) (t := .int) (t' := (.array .double)) (by decide) (by decide))))
  have f28 := f20.wr W16
  obtain ⟨T23, h23, X23, e23, W23, st23⟩ := putF X16 hx hZ hown (host := "") (Or.inl (hw _ (List.mem_of_getElem? (i := 15) rfl))) Via.refl e16 f27 f28 (Or.inl (hw _ (List.mem_of_getElem? (i := 16) rfl))) (hw _ (List.mem_of_getElem? (i := 1) rfl)) (ty := .int) (by decide) rfl rfl (g := (mkF m 20 #[.val (.ref a), .val (.int (3 : Int32))] [(.int (3 : Int32)), (.ref a)])) rfl rfl (Jvm.hb hby d1_20)
  have fw23 := Fld.same W23 f27
  have N23 := Fr.snoc X23 N16 ga
  have K23 : Keep h0 h23 [a] := K16.wr W23 (Or.inl (by simp))
  have pre29 : ∀ τ, Steps p.tables e below (T23.setTop (mkF m 23 #[.val (.ref a), .val (.int (3 : Int32))] [])) τ → Steps p.tables e below (s₁.setTop (entryFrame m #[(.ref a), (.int (3 : Int32))] 2)) τ := fun τ kt => pre22 τ (st23 τ kt)
  have pre30 : ∀ τ, Steps p.tables e below (T23.setTop (mkF m 25 #[.val (.ref a), .val (.int (3 : Int32))] [(.int (3 : Int32)), (.ref a)])) τ → Steps p.tables e below (s₁.setTop (entryFrame m #[(.ref a), (.int (3 : Int32))] 2)) τ := fun τ kt => pre29 τ (by
    show Steps p.tables e below (T23.setTop (mkF m 23 #[.val (.ref a), .val (.int (3 : Int32))] [])) τ
    refine XS.aloadN X23.here hx rfl (Jvm.hb hby d1_23) rfl rfl ?_
    show Steps p.tables e below (T23.setTop (mkF m 24 #[.val (.ref a), .val (.int (3 : Int32))] [(.ref a)])) τ
    refine XS.iloadN X23.here hx rfl (Jvm.hb hby d1_24) rfl ?_
    exact kt)
  have f32 := FT.ext E5
  have f33 := (f32.other W7 (Or.inr (slot_ne (Or.inl (hw _ (List.mem_of_getElem? (i := 18) rfl))) (Or.inr (hw _ (List.mem_of_getElem? (i := 11) rfl))) (by decide) (t := .int) (t' := (.array .int)) (by decide) (by decide))))
  have f34 := f33.ext E12
  have f35 := (f34.other W16 (Or.inr (slot_ne (Or.inl (hw _ (List.mem_of_getElem? (i := 18) rfl))) (Or.inr (hw _ (List.mem_of_getElem? (i := 14) rfl))) (by decide) (t := .int) (t' := (.array .double)) (by decide) (by decide))))
  have f36 := (f35.other W23 (Or.inr (slot_ne (Or.inl (hw _ (List.mem_of_getElem? (i := 18) rfl))) (Or.inl (hw _ (List.mem_of_getElem? (i := 16) rfl))) (by decide) (t := .int) (t' := .int) (by decide) (by decide))))
  have f37 := f28.wr W23
  obtain ⟨T31, h31, X31, e31, W31, st31⟩ := putF X23 hx hZ hown (host := "") (Or.inl (hw _ (List.mem_of_getElem? (i := 17) rfl))) Via.refl e23 f36 f37 (Or.inl (hw _ (List.mem_of_getElem? (i := 18) rfl))) (hw _ (List.mem_of_getElem? (i := 1) rfl)) (ty := .int) (by decide) rfl rfl (g := (mkF m 25 #[.val (.ref a), .val (.int (3 : Int32))] [(.int (3 : Int32)), (.ref a)])) rfl rfl (Jvm.hb hby d1_25)
  have fw31 := Fld.same W31 f36
  have N31 := Fr.snoc X31 N23 ga
  have K31 : Keep h0 h31 [a] := K23.wr W31 (Or.inl (by simp))
  have pre38 : ∀ τ, Steps p.tables e below (T31.setTop (mkF m 28 #[.val (.ref a), .val (.int (3 : Int32))] [])) τ → Steps p.tables e below (s₁.setTop (entryFrame m #[(.ref a), (.int (3 : Int32))] 2)) τ := fun τ kt => pre30 τ (st31 τ kt)
  have f39 := fw7.ext E12
  have f40 := (f39.other W16 (Or.inr (slot_ne (Or.inr (hw _ (List.mem_of_getElem? (i := 11) rfl))) (Or.inr (hw _ (List.mem_of_getElem? (i := 14) rfl))) (by decide) (t := (.array .int)) (t' := (.array .double)) (by decide) (by decide))))
  have f41 := (f40.other W23 (Or.inr (slot_ne (Or.inr (hw _ (List.mem_of_getElem? (i := 11) rfl))) (Or.inl (hw _ (List.mem_of_getElem? (i := 16) rfl))) (by decide) (t := (.array .int)) (t' := .int) (by decide) (by decide))))
  have f42 := (f41.other W31 (Or.inr (slot_ne (Or.inr (hw _ (List.mem_of_getElem? (i := 11) rfl))) (Or.inl (hw _ (List.mem_of_getElem? (i := 18) rfl))) (by decide) (t := (.array .int)) (t' := .int) (by decide) (by decide))))
  have f43 := (fw16.other W23 (Or.inr (slot_ne (Or.inr (hw _ (List.mem_of_getElem? (i := 14) rfl))) (Or.inl (hw _ (List.mem_of_getElem? (i := 16) rfl))) (by decide) (t := (.array .double)) (t' := .int) (by decide) (by decide))))
  have f44 := (f43.other W31 (Or.inr (slot_ne (Or.inr (hw _ (List.mem_of_getElem? (i := 14) rfl))) (Or.inl (hw _ (List.mem_of_getElem? (i := 18) rfl))) (by decide) (t := (.array .double)) (t' := .int) (by decide) (by decide))))
  have f45 := (fw23.other W31 (Or.inr (slot_ne (Or.inl (hw _ (List.mem_of_getElem? (i := 16) rfl))) (Or.inl (hw _ (List.mem_of_getElem? (i := 18) rfl))) (by decide) (t := .int) (t' := .int) (by decide) (by decide))))
  have f46 := f14.ext E12
  have f47 := f46.other W16 (Ne.symm ne_a_A)
  have f48 := f47.other W23 (Ne.symm ne_a_A)
  have f49 := f48.other W31 (Ne.symm ne_a_A)
  have f50 := V_B.other W16 (Ne.symm ne_a_B)
  have f51 := f50.other W23 (Ne.symm ne_a_B)
  have f52 := f51.other W31 (Ne.symm ne_a_B)
  obtain ⟨fs, hrL, hrun, hended, hW, hsame⟩ := X31.leave (v := none) (fun _ => rfl)
  refine ⟨_, _, pre38 _ ?_, hrun, hended, _, _, rfl, ?_, ⟨_, rfl⟩, hW, hsame.mono (by decide) (by decide)⟩
  · show Steps p.tables e below (T31.setTop (mkF m 28 #[.val (.ref a), .val (.int (3 : Int32))] [])) _
    exact X31.returnOut hx Bd.returns (Jvm.hb hby d1_28) hrL
  · show QN Z a h0 n0 _ T31.heap _
    rw [e31]
    exact ⟨rfl, N31, K31, A, B, _, _, g_A, g_B, sz_A, sz_B, ne_a_A, ne_a_B, ne_A_B, f42, f44, f45, fw31, f49, f52⟩
theorem d5_0 : decode jdk_29_method_65_code 0 = .ok (.iload_n 0, 1) := by decide +kernel
theorem d5_1 : decode jdk_29_method_65_code 1 = .ok (.iload_n 1, 1) := by decide +kernel
theorem d5_2 : decode jdk_29_method_65_code 2 = .ok (.if_icmp .lt 7, 3) := by decide +kernel
theorem d5_5 : decode jdk_29_method_65_code 5 = .ok (.iload_n 0, 1) := by decide +kernel
theorem d5_6 : decode jdk_29_method_65_code 6 = .ok (.goto 4, 3) := by decide +kernel
theorem d5_9 : decode jdk_29_method_65_code 9 = .ok (.iload_n 1, 1) := by decide +kernel
theorem d5_10 : decode jdk_29_method_65_code 10 = .ok (.ireturn, 1) := by decide +kernel
theorem own_ef5 (m : MethodId) (x0 : Int32) (x1 : Int32) : entryFrame m #[(.int x0), (.int x1)] 2 = mkF m 0 #[.val (.int x0), .val (.int x1)] [] := by first | (simp [entryFrame, mkF, argsToLocals, Value.category]; done) | rfl
set_option maxRecDepth 65536 in
set_option maxHeartbeats 40000000 in
theorem rmM (l : Launch) (Z : State) (a0 : Array Value) (hw : ∀ d ∈ tables_1, d.before a0 Z = true) (ws : List Jvm.Cond) (ma : Int32) (mb : Int32)  (h0 : Heap) (n0 : Nat) (Z0 : n0 ≤ h0.size)  :
    MetFree l (⟨"java/lang/Math", "max", "(II)I"⟩ : MethodName) (head1 (Jvm.Cond.code (⟨"java/lang/Math", "max", "(II)I"⟩ : MethodName) jdk_29_method_65_code 2 (some .int) :: ws) ({ frames := 0, cells := 0, slots := 0, locals := 0 } : Room)) (fun α U => α = #[(.int ma), (.int mb)] ∧ Z.Warmed39 U.vm ∧ U.heap = h0) (fun _ _ _ _ _ => True) (fun _ U ω U' => ∃ ν Λ, ω = .returned ν ∧ QI (own_max ma mb) h0 n0 ν U'.heap Λ ∧ FrameEnd U ω U' Λ ({ frames := 0, cells := 0, slots := 0, locals := 0 } : Room).cells ({ frames := 0, cells := 0, slots := 0, locals := 0 } : Room).slots) := by
  refine MetFree.of_bodySF (Jvm.Free.JP.mathPlain rfl (by decide +kernel)) hisR ?_
  intro p e s m args below meth c s₁ Bd hml0 hP hK
  obtain ⟨rfl, hZ, hh⟩ := hP
  have hx := Bd.exec
  have hby := Bd.bytes
  have hml : c.maxLocals = 2 := hml0
  have hown : s.vm.findClass "java/lang/Math" = some m.cls := findClass_of_methodNamed Bd.named
  have hnm := (name_of_methodNamed Bd.named Bd.method).1
  have X0 : Stand p l e ({ frames := 0, cells := 0, slots := 0, locals := 0 } : Room) s m #[(.int ma), (.int mb)] below meth c s₁ [] 0 0 := Stand.of_body Bd
  have e0 : s₁.heap = h0 := by rw [← hh, Bd.state]; rfl
  have N0 := Fr.nil n0
  have KK0 : Keep h0 h0 [] := Keep.refl h0 []
  have pre0 : ∀ τ, Steps p.tables e below (s₁.setTop (mkF m 0 #[.val (.int ma), .val (.int mb)] [])) τ → Steps p.tables e below (s₁.setTop (entryFrame m #[(.int ma), (.int mb)] 2)) τ := fun τ κ => castTop (own_ef5 m ma mb) κ
  have pre53 : ∀ τ, Steps p.tables e below (s₁.setTop (mkF m 2 #[.val (.int ma), .val (.int mb)] [(.int mb), (.int ma)])) τ → Steps p.tables e below (s₁.setTop (entryFrame m #[(.int ma), (.int mb)] 2)) τ := fun τ kt => pre0 τ (by
    show Steps p.tables e below (s₁.setTop (mkF m 0 #[.val (.int ma), .val (.int mb)] [])) τ
    refine XS.iloadN X0.here hx rfl (Jvm.hb hby d5_0) rfl ?_
    show Steps p.tables e below (s₁.setTop (mkF m 1 #[.val (.int ma), .val (.int mb)] [(.int ma)])) τ
    refine XS.iloadN X0.here hx rfl (Jvm.hb hby d5_1) rfl ?_
    exact kt)
  by_cases q1 : ma < mb
  · skip
    have hr : own_max ma mb = mb := if_pos q1
    have pre54 : ∀ τ, Steps p.tables e below (s₁.setTop (mkF m 10 #[.val (.int ma), .val (.int mb)] [(.int mb)])) τ → Steps p.tables e below (s₁.setTop (entryFrame m #[(.int ma), (.int mb)] 2)) τ := fun τ kt => pre53 τ (by
      show Steps p.tables e below (s₁.setTop (mkF m 2 #[.val (.int ma), .val (.int mb)] [(.int mb), (.int ma)])) τ
      refine XS.icmpYes X0.here hx rfl (pc0 := 2) (pc' := 9) rfl (Jvm.hb hby d5_2) rfl (tlt q1).1 (by decide) (by decide) ?_
      show Steps p.tables e below (s₁.setTop (mkF m 9 #[.val (.int ma), .val (.int mb)] [])) τ
      refine XS.iloadN X0.here hx rfl (Jvm.hb hby d5_9) rfl ?_
      exact kt)
    obtain ⟨fs, hrL, hrun, hended, hW, hsame⟩ := X0.leave (v := some (.int mb)) (fun h => by rw [Bd.returns] at h; cases h)
    refine ⟨_, _, pre54 _ ?_, hrun, hended, _, _, rfl, ?_, ⟨_, rfl⟩, hW, hsame.mono (by decide) (by decide)⟩
    · show Steps p.tables e below (s₁.setTop (mkF m 10 #[.val (.int ma), .val (.int mb)] [(.int mb)])) _
      exact retI X0 hx Bd.returns (Jvm.hb hby d5_10) hrL
    · show QI (own_max ma mb) h0 n0 _ s₁.heap _
      rw [e0]
      exact ⟨congrArg (fun z => some (Value.int z)) hr.symm, N0, rfl⟩
  · skip
    have hr : own_max ma mb = ma := if_neg q1
    have pre55 : ∀ τ, Steps p.tables e below (s₁.setTop (mkF m 10 #[.val (.int ma), .val (.int mb)] [(.int ma)])) τ → Steps p.tables e below (s₁.setTop (entryFrame m #[(.int ma), (.int mb)] 2)) τ := fun τ kt => pre53 τ (by
      show Steps p.tables e below (s₁.setTop (mkF m 2 #[.val (.int ma), .val (.int mb)] [(.int mb), (.int ma)])) τ
      refine XS.icmpNo X0.here hx rfl (Jvm.hb hby d5_2) rfl (flt q1).1 ?_
      show Steps p.tables e below (s₁.setTop (mkF m 5 #[.val (.int ma), .val (.int mb)] [])) τ
      refine XS.iloadN X0.here hx rfl (Jvm.hb hby d5_5) rfl ?_
      show Steps p.tables e below (s₁.setTop (mkF m 6 #[.val (.int ma), .val (.int mb)] [(.int ma)])) τ
      refine XS.goto X0.here hx rfl (pc0 := 6) (pc' := 10) rfl (Jvm.hb hby d5_6) (by decide) (by decide) ?_
      exact kt)
    obtain ⟨fs, hrL, hrun, hended, hW, hsame⟩ := X0.leave (v := some (.int ma)) (fun h => by rw [Bd.returns] at h; cases h)
    refine ⟨_, _, pre55 _ ?_, hrun, hended, _, _, rfl, ?_, ⟨_, rfl⟩, hW, hsame.mono (by decide) (by decide)⟩
    · show Steps p.tables e below (s₁.setTop (mkF m 10 #[.val (.int ma), .val (.int mb)] [(.int ma)])) _
      exact retI X0 hx Bd.returns (Jvm.hb hby d5_10) hrL
    · show QI (own_max ma mb) h0 n0 _ s₁.heap _
      rw [e0]
      exact ⟨congrArg (fun z => some (Value.int z)) hr.symm, N0, rfl⟩
theorem d3_0 : decode prog_3_method_2_code 0 = .ok (.aload_n 0, 1) := by decide +kernel
theorem d3_1 : decode prog_3_method_2_code 1 = .ok (.getfield 17, 3) := by decide +kernel
theorem d3_4 : decode prog_3_method_2_code 4 = .ok (.aload_n 0, 1) := by decide +kernel
theorem d3_5 : decode prog_3_method_2_code 5 = .ok (.getfield 21, 3) := by decide +kernel
theorem d3_8 : decode prog_3_method_2_code 8 = .ok (.if_icmp .ge 30, 3) := by decide +kernel
theorem d3_11 : decode prog_3_method_2_code 11 = .ok (.aload_n 0, 1) := by decide +kernel
theorem d3_12 : decode prog_3_method_2_code 12 = .ok (.getfield 13, 3) := by decide +kernel
theorem d3_15 : decode prog_3_method_2_code 15 = .ok (.aload_n 0, 1) := by decide +kernel
theorem d3_16 : decode prog_3_method_2_code 16 = .ok (.getfield 17, 3) := by decide +kernel
theorem d3_19 : decode prog_3_method_2_code 19 = .ok (.daload, 1) := by decide +kernel
theorem d3_20 : decode prog_3_method_2_code 20 = .ok (.dload_n 2, 1) := by decide +kernel
theorem d3_21 : decode prog_3_method_2_code 21 = .ok (.dcmp .g, 1) := by decide +kernel
theorem d3_22 : decode prog_3_method_2_code 22 = .ok (.ifCond .gt 16, 3) := by decide +kernel
theorem d3_25 : decode prog_3_method_2_code 25 = .ok (.aload_n 0, 1) := by decide +kernel
theorem d3_26 : decode prog_3_method_2_code 26 = .ok (.dup, 1) := by decide +kernel
theorem d3_27 : decode prog_3_method_2_code 27 = .ok (.getfield 17, 3) := by decide +kernel
theorem d3_30 : decode prog_3_method_2_code 30 = .ok (.iconst 1, 1) := by decide +kernel
theorem d3_31 : decode prog_3_method_2_code 31 = .ok (.iadd, 1) := by decide +kernel
theorem d3_32 : decode prog_3_method_2_code 32 = .ok (.putfield 17, 3) := by decide +kernel
theorem d3_35 : decode prog_3_method_2_code 35 = .ok (.goto (-35), 3) := by decide +kernel
theorem d3_38 : decode prog_3_method_2_code 38 = .ok (.aload_n 0, 1) := by decide +kernel
theorem d3_39 : decode prog_3_method_2_code 39 = .ok (.dup, 1) := by decide +kernel
theorem d3_40 : decode prog_3_method_2_code 40 = .ok (.getfield 17, 3) := by decide +kernel
theorem d3_43 : decode prog_3_method_2_code 43 = .ok (.iconst 1, 1) := by decide +kernel
theorem d3_44 : decode prog_3_method_2_code 44 = .ok (.isub, 1) := by decide +kernel
theorem d3_45 : decode prog_3_method_2_code 45 = .ok (.putfield 17, 3) := by decide +kernel
theorem d3_48 : decode prog_3_method_2_code 48 = .ok (.aload_n 0, 1) := by decide +kernel
theorem d3_49 : decode prog_3_method_2_code 49 = .ok (.getfield 7, 3) := by decide +kernel
theorem d3_52 : decode prog_3_method_2_code 52 = .ok (.aload_n 0, 1) := by decide +kernel
theorem d3_53 : decode prog_3_method_2_code 53 = .ok (.getfield 17, 3) := by decide +kernel
theorem d3_56 : decode prog_3_method_2_code 56 = .ok (.iload_n 1, 1) := by decide +kernel
theorem d3_57 : decode prog_3_method_2_code 57 = .ok (.iastore, 1) := by decide +kernel
theorem d3_58 : decode prog_3_method_2_code 58 = .ok (.aload_n 0, 1) := by decide +kernel
theorem d3_59 : decode prog_3_method_2_code 59 = .ok (.getfield 13, 3) := by decide +kernel
theorem d3_62 : decode prog_3_method_2_code 62 = .ok (.aload_n 0, 1) := by decide +kernel
theorem d3_63 : decode prog_3_method_2_code 63 = .ok (.getfield 17, 3) := by decide +kernel
theorem d3_66 : decode prog_3_method_2_code 66 = .ok (.dload_n 2, 1) := by decide +kernel
theorem d3_67 : decode prog_3_method_2_code 67 = .ok (.dastore, 1) := by decide +kernel
theorem d3_68 : decode prog_3_method_2_code 68 = .ok (.return_, 1) := by decide +kernel
theorem own_ef3 (m : MethodId) (x0 : Addr) (x1 : Int32) (x2 : UInt64) : entryFrame m #[(.ref x0), (.int x1), (.double x2)] 4 = mkF m 0 #[.val (.ref x0), .val (.int x1), .val (.double x2), .second] [] := by first | (simp [entryFrame, mkF, argsToLocals, Value.category]; done) | rfl
set_option maxRecDepth 65536 in
set_option maxHeartbeats 40000000 in
theorem rmAdd_33_e (l : Launch) (Z : State) (a0 : Array Value) (hw : ∀ d ∈ tables_1, d.before a0 Z = true) (ws : List Jvm.Cond) (a : Addr) (xs : Int32) (xv : UInt64) (A B : Addr) (kA kB : ClassId) (s0 s1 s2 : Int32) (v0 v1 v2 : UInt64) (h0 : Heap) (n0 : Nat) (Z0 : n0 ≤ h0.size) (E7 : Exa Z h0 a "com/example/counterpath/counterpath/core/CappedMaximum") (FS : Fld Z h0 a "com/example/counterpath/counterpath/core/CappedMaximum" "samples" "[I" (.ref A)) (FV : Fld Z h0 a "com/example/counterpath/counterpath/core/CappedMaximum" "values" "[D" (.ref B)) (FH : Fld Z h0 a "com/example/counterpath/counterpath/core/CappedMaximum" "head" "I" (.int (3 : Int32))) (FT : Fld Z h0 a "com/example/counterpath/counterpath/core/CappedMaximum" "tail" "I" (.int (3 : Int32))) (VS : Arv Z h0 A kA .int (3 : Int32) [(.int s0), (.int s1), (.int s2)] (.int (0 : Int32))) (VV : Arv Z h0 B kB .double (3 : Int32) [(.double v0), (.double v1), (.double v2)] (.double (0 : UInt64))) (naA : a ≠ A) (naB : a ≠ B) (nAB : A ≠ B) (ga : n0 ≤ a) (gA : n0 ≤ A) (gB : n0 ≤ B)  :
    MetFree l (⟨"com/example/counterpath/counterpath/core/CappedMaximum", "addFirst", "(ID)V"⟩ : MethodName) (head1 (Jvm.Cond.code (⟨"com/example/counterpath/counterpath/core/CappedMaximum", "addFirst", "(ID)V"⟩ : MethodName) prog_3_method_2_code 4 none :: ws) ({ frames := 0, cells := 0, slots := 0, locals := 0 } : Room)) (fun α U => α = #[(.ref a), (.int xs), (.double xv)] ∧ Z.Warmed39 U.vm ∧ U.heap = h0) (fun _ _ _ _ _ => True) (fun _ U ω U' => ∃ ν Λ, ω = .returned ν ∧ QC Z a A B kA kB (2 : Int32) (3 : Int32) [(.int s0), (.int s1), (.int xs)] [(.double v0), (.double v1), (.double xv)] h0 n0 ν U'.heap Λ ∧ FrameEnd U ω U' Λ ({ frames := 0, cells := 0, slots := 0, locals := 0 } : Room).cells ({ frames := 0, cells := 0, slots := 0, locals := 0 } : Room).slots) := by
  refine MetFree.of_bodySF (plainFor_of_name own_pn_com_example_counterpath_counterpath_core_CappedMaximum) hisR ?_
  intro p e s m args below meth c s₁ Bd hml0 hP hK
  obtain ⟨rfl, hZ, hh⟩ := hP
  have hx := Bd.exec
  have hby := Bd.bytes
  have hml : c.maxLocals = 4 := hml0
  have hown : s.vm.findClass "com/example/counterpath/counterpath/core/CappedMaximum" = some m.cls := findClass_of_methodNamed Bd.named
  have hnm := (name_of_methodNamed Bd.named Bd.method).1
  have X0 : Stand p l e ({ frames := 0, cells := 0, slots := 0, locals := 0 } : Room) s m #[(.ref a), (.int xs), (.double xv)] below meth c s₁ [] 0 0 := Stand.of_body Bd
  have e0 : s₁.heap = h0 := by rw [← hh, Bd.state]; rfl
  have N0 := Fr.nil n0
  have KK0 : Keep h0 h0 [a, A, B] := Keep.refl h0 [a, A, B]
  have pre0 : ∀ τ, Steps p.tables e below (s₁.setTop (mkF m 0 #[.val (.ref a), .val (.int xs), .val (.double xv), .second] [])) τ → Steps p.tables e below (s₁.setTop (entryFrame m #[(.ref a), (.int xs), (.double xv)] 4)) τ := fun τ κ => castTop (own_ef3 m a xs xv) κ
  have pre69 : ∀ τ, Steps p.tables e below (s₁.setTop (mkF m 1 #[.val (.ref a), .val (.int xs), .val (.double xv), .second] [(.ref a)])) τ → Steps p.tables e below (s₁.setTop (entryFrame m #[(.ref a), (.int xs), (.double xv)] 4)) τ := fun τ kt => pre0 τ (by
    show Steps p.tables e below (s₁.setTop (mkF m 0 #[.val (.ref a), .val (.int xs), .val (.double xv), .second] [])) τ
    refine XS.aloadN X0.here hx rfl (Jvm.hb hby d3_0) rfl rfl ?_
    exact kt)
  obtain ⟨T70, X70, e70, st70⟩ := getF X0 hx hZ hown (host := "") (Or.inl (hw _ (List.mem_of_getElem? (i := 15) rfl))) Via.refl e0 FH (g := (mkF m 1 #[.val (.ref a), .val (.int xs), .val (.double xv), .second] [(.ref a)])) rfl rfl (Jvm.hb hby d3_1)
  have pre71 : ∀ τ, Steps p.tables e below (T70.setTop (mkF m 4 #[.val (.ref a), .val (.int xs), .val (.double xv), .second] [(.int (3 : Int32))])) τ → Steps p.tables e below (s₁.setTop (entryFrame m #[(.ref a), (.int xs), (.double xv)] 4)) τ := fun τ kt => pre69 τ (st70 τ kt)
  have pre72 : ∀ τ, Steps p.tables e below (T70.setTop (mkF m 5 #[.val (.ref a), .val (.int xs), .val (.double xv), .second] [(.ref a), (.int (3 : Int32))])) τ → Steps p.tables e below (s₁.setTop (entryFrame m #[(.ref a), (.int xs), (.double xv)] 4)) τ := fun τ kt => pre71 τ (by
    show Steps p.tables e below (T70.setTop (mkF m 4 #[.val (.ref a), .val (.int xs), .val (.double xv), .second] [(.int (3 : Int32))])) τ
    refine XS.aloadN X70.here hx rfl (Jvm.hb hby d3_4) rfl rfl ?_
    exact kt)
  obtain ⟨T73, X73, e73, st73⟩ := getF X70 hx hZ hown (host := "") (Or.inl (hw _ (List.mem_of_getElem? (i := 17) rfl))) Via.refl e70 FT (g := (mkF m 5 #[.val (.ref a), .val (.int xs), .val (.double xv), .second] [(.ref a), (.int (3 : Int32))])) rfl rfl (Jvm.hb hby d3_5)
  have pre74 : ∀ τ, Steps p.tables e below (T73.setTop (mkF m 8 #[.val (.ref a), .val (.int xs), .val (.double xv), .second] [(.int (3 : Int32)), (.int (3 : Int32))])) τ → Steps p.tables e below (s₁.setTop (entryFrame m #[(.ref a), (.int xs), (.double xv)] 4)) τ := fun τ kt => pre72 τ (st73 τ kt)
  have pre75 : ∀ τ, Steps p.tables e below (T73.setTop (mkF m 40 #[.val (.ref a), .val (.int xs), .val (.double xv), .second] [(.ref a), (.ref a)])) τ → Steps p.tables e below (s₁.setTop (entryFrame m #[(.ref a), (.int xs), (.double xv)] 4)) τ := fun τ kt => pre74 τ (by
    show Steps p.tables e below (T73.setTop (mkF m 8 #[.val (.ref a), .val (.int xs), .val (.double xv), .second] [(.int (3 : Int32)), (.int (3 : Int32))])) τ
    refine XS.icmpYes X73.here hx rfl (pc0 := 8) (pc' := 38) rfl (Jvm.hb hby d3_8) rfl (flt (by decide)).2.1 (by decide) (by decide) ?_
    show Steps p.tables e below (T73.setTop (mkF m 38 #[.val (.ref a), .val (.int xs), .val (.double xv), .second] [])) τ
    refine XS.aloadN X73.here hx rfl (Jvm.hb hby d3_38) rfl rfl ?_
    show Steps p.tables e below (T73.setTop (mkF m 39 #[.val (.ref a), .val (.int xs), .val (.double xv), .second] [(.ref a)])) τ
    refine XS.dup X73.here hx rfl (Jvm.hb hby d3_39) rfl rfl ?_
    exact kt)
  obtain ⟨T76, X76, e76, st76⟩ := getF X73 hx hZ hown (host := "") (Or.inl (hw _ (List.mem_of_getElem? (i := 15) rfl))) Via.refl e73 FH (g := (mkF m 40 #[.val (.ref a), .val (.int xs), .val (.double xv), .second] [(.ref a), (.ref a)])) rfl rfl (Jvm.hb hby d3_40)
  have pre77 : ∀ τ, Steps p.tables e below (T76.setTop (mkF m 43 #[.val (.ref a), .val (.int xs), .val (.double xv), .second] [(.int (3 : Int32)), (.ref a)])) τ → Steps p.tables e below (s₁.setTop (entryFrame m #[(.ref a), (.int xs), (.double xv)] 4)) τ := fun τ kt => pre75 τ (st76 τ kt)
  have pre78 : ∀ τ, Steps p.tables e below (T76.setTop (mkF m 45 #[.val (.ref a), .val (.int xs), .val (.double xv), .second] [(.int (2 : Int32)), (.ref a)])) τ → Steps p.tables e below (s₁.setTop (entryFrame m #[(.ref a), (.int xs), (.double xv)] 4)) τ := fun τ kt => pre77 τ (by
    show Steps p.tables e below (T76.setTop (mkF m 43 #[.val (.ref a), .val (.int xs), .val (.double xv), .second] [(.int (3 : Int32)), (.ref a)])) τ
    refine XS.iconst X76.here hx rfl (Jvm.hb hby d3_43) ?_
    show Steps p.tables e below (T76.setTop (mkF m 44 #[.val (.ref a), .val (.int xs), .val (.double xv), .second] [(.int (1 : Int32)), (.int (3 : Int32)), (.ref a)])) τ
    refine XS.isub X76.here hx rfl (Jvm.hb hby d3_44) rfl ?_
    exact kt)
  obtain ⟨T79, h79, X79, e79, W79, st79⟩ := putF X76 hx hZ hown (host := "") (Or.inl (hw _ (List.mem_of_getElem? (i := 15) rfl))) Via.refl e76 FH E7 (Or.inl (hw _ (List.mem_of_getElem? (i := 16) rfl))) (hw _ (List.mem_of_getElem? (i := 1) rfl)) (ty := .int) (by decide) rfl rfl (g := (mkF m 45 #[.val (.ref a), .val (.int xs), .val (.double xv), .second] [(.int (2 : Int32)), (.ref a)])) rfl rfl (Jvm.hb hby d3_45)
  have fw79 := Fld.same W79 FH
  have N79 := Fr.snoc X79 N0 ga
  have K79 : Keep h0 h79 [a, A, B] := KK0.wr W79 (Or.inl (by simp))
  have pre80 : ∀ τ, Steps p.tables e below (T79.setTop (mkF m 48 #[.val (.ref a), .val (.int xs), .val (.double xv), .second] [])) τ → Steps p.tables e below (s₁.setTop (entryFrame m #[(.ref a), (.int xs), (.double xv)] 4)) τ := fun τ kt => pre78 τ (st79 τ kt)
  have pre81 : ∀ τ, Steps p.tables e below (T79.setTop (mkF m 49 #[.val (.ref a), .val (.int xs), .val (.double xv), .second] [(.ref a)])) τ → Steps p.tables e below (s₁.setTop (entryFrame m #[(.ref a), (.int xs), (.double xv)] 4)) τ := fun τ kt => pre80 τ (by
    show Steps p.tables e below (T79.setTop (mkF m 48 #[.val (.ref a), .val (.int xs), .val (.double xv), .second] [])) τ
    refine XS.aloadN X79.here hx rfl (Jvm.hb hby d3_48) rfl rfl ?_
    exact kt)
  have f83 := (FS.other W79 (Or.inr (slot_ne (Or.inr (hw _ (List.mem_of_getElem? (i := 11) rfl))) (Or.inl (hw _ (List.mem_of_getElem? (i := 16) rfl))) (by decide) (t := (.array .int)) (t' := .int) (by decide) (by decide))))
  obtain ⟨T82, X82, e82, st82⟩ := getF X79 hx hZ hown (host := "") (Or.inl (hw _ (List.mem_of_getElem? (i := 10) rfl))) Via.refl e79 f83 (g := (mkF m 49 #[.val (.ref a), .val (.int xs), .val (.double xv), .second] [(.ref a)])) rfl rfl (Jvm.hb hby d3_49)
  have pre84 : ∀ τ, Steps p.tables e below (T82.setTop (mkF m 52 #[.val (.ref a), .val (.int xs), .val (.double xv), .second] [(.ref A)])) τ → Steps p.tables e below (s₁.setTop (entryFrame m #[(.ref a), (.int xs), (.double xv)] 4)) τ := fun τ kt => pre81 τ (st82 τ kt)
  have pre85 : ∀ τ, Steps p.tables e below (T82.setTop (mkF m 53 #[.val (.ref a), .val (.int xs), .val (.double xv), .second] [(.ref a), (.ref A)])) τ → Steps p.tables e below (s₁.setTop (entryFrame m #[(.ref a), (.int xs), (.double xv)] 4)) τ := fun τ kt => pre84 τ (by
    show Steps p.tables e below (T82.setTop (mkF m 52 #[.val (.ref a), .val (.int xs), .val (.double xv), .second] [(.ref A)])) τ
    refine XS.aloadN X82.here hx rfl (Jvm.hb hby d3_52) rfl rfl ?_
    exact kt)
  obtain ⟨T86, X86, e86, st86⟩ := getF X82 hx hZ hown (host := "") (Or.inl (hw _ (List.mem_of_getElem? (i := 15) rfl))) Via.refl e82 fw79 (g := (mkF m 53 #[.val (.ref a), .val (.int xs), .val (.double xv), .second] [(.ref a), (.ref A)])) rfl rfl (Jvm.hb hby d3_53)
  have pre87 : ∀ τ, Steps p.tables e below (T86.setTop (mkF m 56 #[.val (.ref a), .val (.int xs), .val (.double xv), .second] [(.int (2 : Int32)), (.ref A)])) τ → Steps p.tables e below (s₁.setTop (entryFrame m #[(.ref a), (.int xs), (.double xv)] 4)) τ := fun τ kt => pre85 τ (st86 τ kt)
  have pre88 : ∀ τ, Steps p.tables e below (T86.setTop (mkF m 57 #[.val (.ref a), .val (.int xs), .val (.double xv), .second] [(.int xs), (.int (2 : Int32)), (.ref A)])) τ → Steps p.tables e below (s₁.setTop (entryFrame m #[(.ref a), (.int xs), (.double xv)] 4)) τ := fun τ kt => pre87 τ (by
    show Steps p.tables e below (T86.setTop (mkF m 56 #[.val (.ref a), .val (.int xs), .val (.double xv), .second] [(.int (2 : Int32)), (.ref A)])) τ
    refine XS.iloadN X86.here hx rfl (Jvm.hb hby d3_56) rfl ?_
    exact kt)
  have f89 := VS.other W79 (Ne.symm naA)
  obtain ⟨cl90, Ar90, q90, S90, M90, H90, U90⟩ := id f89
  obtain ⟨T91, h91, X91, e91, W91, st91⟩ := stI X86 hx hZ e86 Ar90 (j := (2 : Int32)) (inb_of S90 ⟨by decide, by decide⟩) (g := (mkF m 57 #[.val (.ref a), .val (.int xs), .val (.double xv), .second] [(.int xs), (.int (2 : Int32)), (.ref A)])) rfl rfl (Jvm.hb hby d3_57)
  have V91 : Arv Z h91 A kA .int (3 : Int32) [(.int s0), (.int s1), (.int xs)] (.int (0 : Int32)) := Arv.set Ar90 q90 S90 M90 H90 U90 rfl W91 2 rfl (Nat.le_of_ble_eq_true rfl)
  have N91 := Fr.snoc X91 N79 gA
  have K91 : Keep h0 h91 [a, A, B] := K79.wr W91 (Or.inl (by simp))
  have pre92 : ∀ τ, Steps p.tables e below (T91.setTop (mkF m 58 #[.val (.ref a), .val (.int xs), .val (.double xv), .second] [])) τ → Steps p.tables e below (s₁.setTop (entryFrame m #[(.ref a), (.int xs), (.double xv)] 4)) τ := fun τ kt => pre88 τ (st91 τ kt)
  have pre93 : ∀ τ, Steps p.tables e below (T91.setTop (mkF m 59 #[.val (.ref a), .val (.int xs), .val (.double xv), .second] [(.ref a)])) τ → Steps p.tables e below (s₁.setTop (entryFrame m #[(.ref a), (.int xs), (.double xv)] 4)) τ := fun τ kt => pre92 τ (by
    show Steps p.tables e below (T91.setTop (mkF m 58 #[.val (.ref a), .val (.int xs), .val (.double xv), .second] [])) τ
    refine XS.aloadN X91.here hx rfl (Jvm.hb hby d3_58) rfl rfl ?_
    exact kt)
  have f95 := (FV.other W79 (Or.inr (slot_ne (Or.inr (hw _ (List.mem_of_getElem? (i := 14) rfl))) (Or.inl (hw _ (List.mem_of_getElem? (i := 16) rfl))) (by decide) (t := (.array .double)) (t' := .int) (by decide) (by decide))))
  have f96 := (f95.other W91 (Or.inl naA))
  obtain ⟨T94, X94, e94, st94⟩ := getF X91 hx hZ hown (host := "") (Or.inl (hw _ (List.mem_of_getElem? (i := 13) rfl))) Via.refl e91 f96 (g := (mkF m 59 #[.val (.ref a), .val (.int xs), .val (.double xv), .second] [(.ref a)])) rfl rfl (Jvm.hb hby d3_59)
  have pre97 : ∀ τ, Steps p.tables e below (T94.setTop (mkF m 62 #[.val (.ref a), .val (.int xs), .val (.double xv), .second] [(.ref B)])) τ → Steps p.tables e below (s₁.setTop (entryFrame m #[(.ref a), (.int xs), (.double xv)] 4)) τ := fun τ kt => pre93 τ (st94 τ kt)
  have pre98 : ∀ τ, Steps p.tables e below (T94.setTop (mkF m 63 #[.val (.ref a), .val (.int xs), .val (.double xv), .second] [(.ref a), (.ref B)])) τ → Steps p.tables e below (s₁.setTop (entryFrame m #[(.ref a), (.int xs), (.double xv)] 4)) τ := fun τ kt => pre97 τ (by
    show Steps p.tables e below (T94.setTop (mkF m 62 #[.val (.ref a), .val (.int xs), .val (.double xv), .second] [(.ref B)])) τ
    refine XS.aloadN X94.here hx rfl (Jvm.hb hby d3_62) rfl rfl ?_
    exact kt)
  have f100 := (fw79.other W91 (Or.inl naA))
  obtain ⟨T99, X99, e99, st99⟩ := getF X94 hx hZ hown (host := "") (Or.inl (hw _ (List.mem_of_getElem? (i := 15) rfl))) Via.refl e94 f100 (g := (mkF m 63 #[.val (.ref a), .val (.int xs), .val (.double xv), .second] [(.ref a), (.ref B)])) rfl rfl (Jvm.hb hby d3_63)
  have pre101 : ∀ τ, Steps p.tables e below (T99.setTop (mkF m 66 #[.val (.ref a), .val (.int xs), .val (.double xv), .second] [(.int (2 : Int32)), (.ref B)])) τ → Steps p.tables e below (s₁.setTop (entryFrame m #[(.ref a), (.int xs), (.double xv)] 4)) τ := fun τ kt => pre98 τ (st99 τ kt)
  have pre102 : ∀ τ, Steps p.tables e below (T99.setTop (mkF m 67 #[.val (.ref a), .val (.int xs), .val (.double xv), .second] [(.double xv), (.int (2 : Int32)), (.ref B)])) τ → Steps p.tables e below (s₁.setTop (entryFrame m #[(.ref a), (.int xs), (.double xv)] 4)) τ := fun τ kt => pre101 τ (by
    show Steps p.tables e below (T99.setTop (mkF m 66 #[.val (.ref a), .val (.int xs), .val (.double xv), .second] [(.int (2 : Int32)), (.ref B)])) τ
    refine own_dloadN X99.here hx rfl (Jvm.hb hby d3_66) rfl ?_
    exact kt)
  have f103 := VV.other W79 (Ne.symm naB)
  have f104 := f103.other W91 (Ne.symm nAB)
  obtain ⟨cl105, Ar105, q105, S105, M105, H105, U105⟩ := id f104
  obtain ⟨T106, h106, X106, e106, W106, st106⟩ := own_stD X99 hx hZ e99 Ar105 (j := (2 : Int32)) (inb_of S105 ⟨by decide, by decide⟩) (g := (mkF m 67 #[.val (.ref a), .val (.int xs), .val (.double xv), .second] [(.double xv), (.int (2 : Int32)), (.ref B)])) rfl rfl (Jvm.hb hby d3_67)
  have V106 : Arv Z h106 B kB .double (3 : Int32) [(.double v0), (.double v1), (.double xv)] (.double (0 : UInt64)) := Arv.set Ar105 q105 S105 M105 H105 U105 rfl W106 2 rfl (Nat.le_of_ble_eq_true rfl)
  have N106 := Fr.snoc X106 N91 gB
  have K106 : Keep h0 h106 [a, A, B] := K91.wr W106 (Or.inl (by simp))
  have pre107 : ∀ τ, Steps p.tables e below (T106.setTop (mkF m 68 #[.val (.ref a), .val (.int xs), .val (.double xv), .second] [])) τ → Steps p.tables e below (s₁.setTop (entryFrame m #[(.ref a), (.int xs), (.double xv)] 4)) τ := fun τ kt => pre102 τ (st106 τ kt)
  have f108 := (f83.other W91 (Or.inl naA))
  have f109 := (f108.other W106 (Or.inl naB))
  have f110 := (f96.other W106 (Or.inl naB))
  have f111 := (f100.other W106 (Or.inl naB))
  have f112 := (FT.other W79 (Or.inr (slot_ne (Or.inl (hw _ (List.mem_of_getElem? (i := 18) rfl))) (Or.inl (hw _ (List.mem_of_getElem? (i := 16) rfl))) (by decide) (t := .int) (t' := .int) (by decide) (by decide))))
  have f113 := (f112.other W91 (Or.inl naA))
  have f114 := (f113.other W106 (Or.inl naB))
  have f115 := V91.other W106 nAB
  obtain ⟨fs, hrL, hrun, hended, hW, hsame⟩ := X106.leave (v := none) (fun _ => rfl)
  refine ⟨_, _, pre107 _ ?_, hrun, hended, _, _, rfl, ?_, ⟨_, rfl⟩, hW, hsame.mono (by decide) (by decide)⟩
  · show Steps p.tables e below (T106.setTop (mkF m 68 #[.val (.ref a), .val (.int xs), .val (.double xv), .second] [])) _
    exact X106.returnOut hx Bd.returns (Jvm.hb hby d3_68) hrL
  · show QC Z a A B kA kB (2 : Int32) (3 : Int32) [(.int s0), (.int s1), (.int xs)] [(.double v0), (.double v1), (.double xv)] h0 n0 _ T106.heap _
    rw [e106]
    exact ⟨rfl, N106, K106, f109, f110, f111, f114, f115, V106⟩
theorem d4_0 : decode prog_3_method_5_code 0 = .ok (.aload_n 0, 1) := by decide +kernel
theorem d4_1 : decode prog_3_method_5_code 1 = .ok (.getfield 21, 3) := by decide +kernel
theorem d4_4 : decode prog_3_method_5_code 4 = .ok (.aload_n 0, 1) := by decide +kernel
theorem d4_5 : decode prog_3_method_5_code 5 = .ok (.getfield 17, 3) := by decide +kernel
theorem d4_8 : decode prog_3_method_5_code 8 = .ok (.if_icmp .le 17, 3) := by decide +kernel
theorem d4_11 : decode prog_3_method_5_code 11 = .ok (.aload_n 0, 1) := by decide +kernel
theorem d4_12 : decode prog_3_method_5_code 12 = .ok (.getfield 13, 3) := by decide +kernel
theorem d4_15 : decode prog_3_method_5_code 15 = .ok (.aload_n 0, 1) := by decide +kernel
theorem d4_16 : decode prog_3_method_5_code 16 = .ok (.getfield 21, 3) := by decide +kernel
theorem d4_19 : decode prog_3_method_5_code 19 = .ok (.iconst 1, 1) := by decide +kernel
theorem d4_20 : decode prog_3_method_5_code 20 = .ok (.isub, 1) := by decide +kernel
theorem d4_21 : decode prog_3_method_5_code 21 = .ok (.daload, 1) := by decide +kernel
theorem d4_22 : decode prog_3_method_5_code 22 = .ok (.goto 6, 3) := by decide +kernel
theorem d4_25 : decode prog_3_method_5_code 25 = .ok (.ldc2_w 26, 3) := by decide +kernel
theorem d4_28 : decode prog_3_method_5_code 28 = .ok (.dreturn, 1) := by decide +kernel
theorem own_ef4 (m : MethodId) (x0 : Addr) : entryFrame m #[(.ref x0)] 1 = mkF m 0 #[.val (.ref x0)] [] := by first | (simp [entryFrame, mkF, argsToLocals, Value.category]; done) | rfl
set_option maxRecDepth 65536 in
set_option maxHeartbeats 40000000 in
theorem rmMax_23 (l : Launch) (Z : State) (a0 : Array Value) (hw : ∀ d ∈ tables_1, d.before a0 Z = true) (ws : List Jvm.Cond) (a : Addr) (A B : Addr) (kA kB : ClassId) (s0 s1 s2 : Int32) (v0 v1 v2 : UInt64) (h0 : Heap) (n0 : Nat) (Z0 : n0 ≤ h0.size) (E7 : Exa Z h0 a "com/example/counterpath/counterpath/core/CappedMaximum") (FS : Fld Z h0 a "com/example/counterpath/counterpath/core/CappedMaximum" "samples" "[I" (.ref A)) (FV : Fld Z h0 a "com/example/counterpath/counterpath/core/CappedMaximum" "values" "[D" (.ref B)) (FH : Fld Z h0 a "com/example/counterpath/counterpath/core/CappedMaximum" "head" "I" (.int (2 : Int32))) (FT : Fld Z h0 a "com/example/counterpath/counterpath/core/CappedMaximum" "tail" "I" (.int (3 : Int32))) (VS : Arv Z h0 A kA .int (3 : Int32) [(.int s0), (.int s1), (.int s2)] (.int (0 : Int32))) (VV : Arv Z h0 B kB .double (3 : Int32) [(.double v0), (.double v1), (.double v2)] (.double (0 : UInt64))) (naA : a ≠ A) (naB : a ≠ B) (nAB : A ≠ B) (ga : n0 ≤ a) (gA : n0 ≤ A) (gB : n0 ≤ B)  :
    MetFree l (⟨"com/example/counterpath/counterpath/core/CappedMaximum", "maximum", "()D"⟩ : MethodName) (head1 (Jvm.Cond.code (⟨"com/example/counterpath/counterpath/core/CappedMaximum", "maximum", "()D"⟩ : MethodName) prog_3_method_5_code 1 (some .double) :: ws) ({ frames := 0, cells := 0, slots := 0, locals := 0 } : Room)) (fun α U => α = #[(.ref a)] ∧ Z.Warmed39 U.vm ∧ U.heap = h0) (fun _ _ _ _ _ => True) (fun _ U ω U' => ∃ ν Λ, ω = .returned ν ∧ QD v2 h0 n0 ν U'.heap Λ ∧ FrameEnd U ω U' Λ ({ frames := 0, cells := 0, slots := 0, locals := 0 } : Room).cells ({ frames := 0, cells := 0, slots := 0, locals := 0 } : Room).slots) := by
  refine MetFree.of_bodySF (plainFor_of_name own_pn_com_example_counterpath_counterpath_core_CappedMaximum) hisR ?_
  intro p e s m args below meth c s₁ Bd hml0 hP hK
  obtain ⟨rfl, hZ, hh⟩ := hP
  have hx := Bd.exec
  have hby := Bd.bytes
  have hml : c.maxLocals = 1 := hml0
  have hown : s.vm.findClass "com/example/counterpath/counterpath/core/CappedMaximum" = some m.cls := findClass_of_methodNamed Bd.named
  have hnm := (name_of_methodNamed Bd.named Bd.method).1
  have X0 : Stand p l e ({ frames := 0, cells := 0, slots := 0, locals := 0 } : Room) s m #[(.ref a)] below meth c s₁ [] 0 0 := Stand.of_body Bd
  have e0 : s₁.heap = h0 := by rw [← hh, Bd.state]; rfl
  have N0 := Fr.nil n0
  have KK0 : Keep h0 h0 [] := Keep.refl h0 []
  have pre0 : ∀ τ, Steps p.tables e below (s₁.setTop (mkF m 0 #[.val (.ref a)] [])) τ → Steps p.tables e below (s₁.setTop (entryFrame m #[(.ref a)] 1)) τ := fun τ κ => castTop (own_ef4 m a) κ
  have pre119 : ∀ τ, Steps p.tables e below (s₁.setTop (mkF m 1 #[.val (.ref a)] [(.ref a)])) τ → Steps p.tables e below (s₁.setTop (entryFrame m #[(.ref a)] 1)) τ := fun τ kt => pre0 τ (by
    show Steps p.tables e below (s₁.setTop (mkF m 0 #[.val (.ref a)] [])) τ
    refine XS.aloadN X0.here hx rfl (Jvm.hb hby d4_0) rfl rfl ?_
    exact kt)
  obtain ⟨T120, X120, e120, st120⟩ := getF X0 hx hZ hown (host := "") (Or.inl (hw _ (List.mem_of_getElem? (i := 17) rfl))) Via.refl e0 FT (g := (mkF m 1 #[.val (.ref a)] [(.ref a)])) rfl rfl (Jvm.hb hby d4_1)
  have pre121 : ∀ τ, Steps p.tables e below (T120.setTop (mkF m 4 #[.val (.ref a)] [(.int (3 : Int32))])) τ → Steps p.tables e below (s₁.setTop (entryFrame m #[(.ref a)] 1)) τ := fun τ kt => pre119 τ (st120 τ kt)
  have pre122 : ∀ τ, Steps p.tables e below (T120.setTop (mkF m 5 #[.val (.ref a)] [(.ref a), (.int (3 : Int32))])) τ → Steps p.tables e below (s₁.setTop (entryFrame m #[(.ref a)] 1)) τ := fun τ kt => pre121 τ (by
    show Steps p.tables e below (T120.setTop (mkF m 4 #[.val (.ref a)] [(.int (3 : Int32))])) τ
    refine XS.aloadN X120.here hx rfl (Jvm.hb hby d4_4) rfl rfl ?_
    exact kt)
  obtain ⟨T123, X123, e123, st123⟩ := getF X120 hx hZ hown (host := "") (Or.inl (hw _ (List.mem_of_getElem? (i := 15) rfl))) Via.refl e120 FH (g := (mkF m 5 #[.val (.ref a)] [(.ref a), (.int (3 : Int32))])) rfl rfl (Jvm.hb hby d4_5)
  have pre124 : ∀ τ, Steps p.tables e below (T123.setTop (mkF m 8 #[.val (.ref a)] [(.int (2 : Int32)), (.int (3 : Int32))])) τ → Steps p.tables e below (s₁.setTop (entryFrame m #[(.ref a)] 1)) τ := fun τ kt => pre122 τ (st123 τ kt)
  have pre125 : ∀ τ, Steps p.tables e below (T123.setTop (mkF m 12 #[.val (.ref a)] [(.ref a)])) τ → Steps p.tables e below (s₁.setTop (entryFrame m #[(.ref a)] 1)) τ := fun τ kt => pre124 τ (by
    show Steps p.tables e below (T123.setTop (mkF m 8 #[.val (.ref a)] [(.int (2 : Int32)), (.int (3 : Int32))])) τ
    refine XS.icmpNo X123.here hx rfl (Jvm.hb hby d4_8) rfl (tlt (by decide)).2.2.2 ?_
    show Steps p.tables e below (T123.setTop (mkF m 11 #[.val (.ref a)] [])) τ
    refine XS.aloadN X123.here hx rfl (Jvm.hb hby d4_11) rfl rfl ?_
    exact kt)
  obtain ⟨T126, X126, e126, st126⟩ := getF X123 hx hZ hown (host := "") (Or.inl (hw _ (List.mem_of_getElem? (i := 13) rfl))) Via.refl e123 FV (g := (mkF m 12 #[.val (.ref a)] [(.ref a)])) rfl rfl (Jvm.hb hby d4_12)
  have pre127 : ∀ τ, Steps p.tables e below (T126.setTop (mkF m 15 #[.val (.ref a)] [(.ref B)])) τ → Steps p.tables e below (s₁.setTop (entryFrame m #[(.ref a)] 1)) τ := fun τ kt => pre125 τ (st126 τ kt)
  have pre128 : ∀ τ, Steps p.tables e below (T126.setTop (mkF m 16 #[.val (.ref a)] [(.ref a), (.ref B)])) τ → Steps p.tables e below (s₁.setTop (entryFrame m #[(.ref a)] 1)) τ := fun τ kt => pre127 τ (by
    show Steps p.tables e below (T126.setTop (mkF m 15 #[.val (.ref a)] [(.ref B)])) τ
    refine XS.aloadN X126.here hx rfl (Jvm.hb hby d4_15) rfl rfl ?_
    exact kt)
  obtain ⟨T129, X129, e129, st129⟩ := getF X126 hx hZ hown (host := "") (Or.inl (hw _ (List.mem_of_getElem? (i := 17) rfl))) Via.refl e126 FT (g := (mkF m 16 #[.val (.ref a)] [(.ref a), (.ref B)])) rfl rfl (Jvm.hb hby d4_16)
  have pre130 : ∀ τ, Steps p.tables e below (T129.setTop (mkF m 19 #[.val (.ref a)] [(.int (3 : Int32)), (.ref B)])) τ → Steps p.tables e below (s₁.setTop (entryFrame m #[(.ref a)] 1)) τ := fun τ kt => pre128 τ (st129 τ kt)
  have pre131 : ∀ τ, Steps p.tables e below (T129.setTop (mkF m 21 #[.val (.ref a)] [(.int (2 : Int32)), (.ref B)])) τ → Steps p.tables e below (s₁.setTop (entryFrame m #[(.ref a)] 1)) τ := fun τ kt => pre130 τ (by
    show Steps p.tables e below (T129.setTop (mkF m 19 #[.val (.ref a)] [(.int (3 : Int32)), (.ref B)])) τ
    refine XS.iconst X129.here hx rfl (Jvm.hb hby d4_19) ?_
    show Steps p.tables e below (T129.setTop (mkF m 20 #[.val (.ref a)] [(.int (1 : Int32)), (.int (3 : Int32)), (.ref B)])) τ
    refine XS.isub X129.here hx rfl (Jvm.hb hby d4_20) rfl ?_
    exact kt)
  obtain ⟨cl132, Ar132, q132, S132, M132, H132, U132⟩ := id VV
  have in132 : ¬ ((2 : Int32) < 0 ∨ cl132.slots.size ≤ ((2 : Int32)).toNatClampNeg) := inb_of S132 ⟨by decide, by decide⟩
  have pre133 : ∀ τ, Steps p.tables e below (T129.setTop (mkF m 28 #[.val (.ref a)] [(.double v2)])) τ → Steps p.tables e below (s₁.setTop (entryFrame m #[(.ref a)] 1)) τ := fun τ kt => pre131 τ (by
    show Steps p.tables e below (T129.setTop (mkF m 21 #[.val (.ref a)] [(.int (2 : Int32)), (.ref B)])) τ
    refine X129.daload hx (by rw [e129]; exact Ar132.1) (State.isArrayOf_alike hZ.alike Ar132.2.1) Ar132.2.2 in132 (H132.at in132 rfl) (g := (mkF m 21 #[.val (.ref a)] [(.int (2 : Int32)), (.ref B)])) rfl rfl (Jvm.hb hby d4_21) _ ?_
    show Steps p.tables e below (T129.setTop (mkF m 22 #[.val (.ref a)] [(.double v2)])) τ
    refine XS.goto X129.here hx rfl (pc0 := 22) (pc' := 28) rfl (Jvm.hb hby d4_22) (by decide) (by decide) ?_
    exact kt)
  obtain ⟨fs, hrL, hrun, hended, hW, hsame⟩ := X129.leave (v := some (.double v2)) (fun h => by rw [Bd.returns] at h; cases h)
  refine ⟨_, _, pre133 _ ?_, hrun, hended, _, _, rfl, ?_, ⟨_, rfl⟩, hW, hsame.mono (by decide) (by decide)⟩
  · show Steps p.tables e below (T129.setTop (mkF m 28 #[.val (.ref a)] [(.double v2)])) _
    exact own_retD X129 hx Bd.returns (Jvm.hb hby d4_28) hrL
  · show QD v2 h0 n0 _ T129.heap _
    rw [e129]
    exact ⟨rfl, N0, rfl⟩
set_option maxRecDepth 65536 in
set_option maxHeartbeats 40000000 in
theorem rmAdd_23_x (l : Launch) (Z : State) (a0 : Array Value) (hw : ∀ d ∈ tables_1, d.before a0 Z = true) (ws : List Jvm.Cond) (a : Addr) (xs : Int32) (xv : UInt64) (A B : Addr) (kA kB : ClassId) (s0 s1 s2 : Int32) (v0 v1 v2 : UInt64) (h0 : Heap) (n0 : Nat) (Z0 : n0 ≤ h0.size) (E7 : Exa Z h0 a "com/example/counterpath/counterpath/core/CappedMaximum") (FS : Fld Z h0 a "com/example/counterpath/counterpath/core/CappedMaximum" "samples" "[I" (.ref A)) (FV : Fld Z h0 a "com/example/counterpath/counterpath/core/CappedMaximum" "values" "[D" (.ref B)) (FH : Fld Z h0 a "com/example/counterpath/counterpath/core/CappedMaximum" "head" "I" (.int (2 : Int32))) (FT : Fld Z h0 a "com/example/counterpath/counterpath/core/CappedMaximum" "tail" "I" (.int (3 : Int32))) (VS : Arv Z h0 A kA .int (3 : Int32) [(.int s0), (.int s1), (.int s2)] (.int (0 : Int32))) (VV : Arv Z h0 B kB .double (3 : Int32) [(.double v0), (.double v1), (.double v2)] (.double (0 : UInt64))) (naA : a ≠ A) (naB : a ≠ B) (nAB : A ≠ B) (ga : n0 ≤ a) (gA : n0 ≤ A) (gB : n0 ≤ B) (pc0 : (0 : Int32) < cmpValue (FP.dcmp v2 xv) .g) :
    MetFree l (⟨"com/example/counterpath/counterpath/core/CappedMaximum", "addFirst", "(ID)V"⟩ : MethodName) (head1 (Jvm.Cond.code (⟨"com/example/counterpath/counterpath/core/CappedMaximum", "addFirst", "(ID)V"⟩ : MethodName) prog_3_method_2_code 4 none :: ws) ({ frames := 0, cells := 0, slots := 0, locals := 0 } : Room)) (fun α U => α = #[(.ref a), (.int xs), (.double xv)] ∧ Z.Warmed39 U.vm ∧ U.heap = h0) (fun _ _ _ _ _ => True) (fun _ U ω U' => ∃ ν Λ, ω = .returned ν ∧ QC Z a A B kA kB (1 : Int32) (3 : Int32) [(.int s0), (.int xs), (.int s2)] [(.double v0), (.double xv), (.double v2)] h0 n0 ν U'.heap Λ ∧ FrameEnd U ω U' Λ ({ frames := 0, cells := 0, slots := 0, locals := 0 } : Room).cells ({ frames := 0, cells := 0, slots := 0, locals := 0 } : Room).slots) := by
  refine MetFree.of_bodySF (plainFor_of_name own_pn_com_example_counterpath_counterpath_core_CappedMaximum) hisR ?_
  intro p e s m args below meth c s₁ Bd hml0 hP hK
  obtain ⟨rfl, hZ, hh⟩ := hP
  have hx := Bd.exec
  have hby := Bd.bytes
  have hml : c.maxLocals = 4 := hml0
  have hown : s.vm.findClass "com/example/counterpath/counterpath/core/CappedMaximum" = some m.cls := findClass_of_methodNamed Bd.named
  have hnm := (name_of_methodNamed Bd.named Bd.method).1
  have X0 : Stand p l e ({ frames := 0, cells := 0, slots := 0, locals := 0 } : Room) s m #[(.ref a), (.int xs), (.double xv)] below meth c s₁ [] 0 0 := Stand.of_body Bd
  have e0 : s₁.heap = h0 := by rw [← hh, Bd.state]; rfl
  have N0 := Fr.nil n0
  have KK0 : Keep h0 h0 [a, A, B] := Keep.refl h0 [a, A, B]
  have pre0 : ∀ τ, Steps p.tables e below (s₁.setTop (mkF m 0 #[.val (.ref a), .val (.int xs), .val (.double xv), .second] [])) τ → Steps p.tables e below (s₁.setTop (entryFrame m #[(.ref a), (.int xs), (.double xv)] 4)) τ := fun τ κ => castTop (own_ef3 m a xs xv) κ
  have pre140 : ∀ τ, Steps p.tables e below (s₁.setTop (mkF m 1 #[.val (.ref a), .val (.int xs), .val (.double xv), .second] [(.ref a)])) τ → Steps p.tables e below (s₁.setTop (entryFrame m #[(.ref a), (.int xs), (.double xv)] 4)) τ := fun τ kt => pre0 τ (by
    show Steps p.tables e below (s₁.setTop (mkF m 0 #[.val (.ref a), .val (.int xs), .val (.double xv), .second] [])) τ
    refine XS.aloadN X0.here hx rfl (Jvm.hb hby d3_0) rfl rfl ?_
    exact kt)
  obtain ⟨T141, X141, e141, st141⟩ := getF X0 hx hZ hown (host := "") (Or.inl (hw _ (List.mem_of_getElem? (i := 15) rfl))) Via.refl e0 FH (g := (mkF m 1 #[.val (.ref a), .val (.int xs), .val (.double xv), .second] [(.ref a)])) rfl rfl (Jvm.hb hby d3_1)
  have pre142 : ∀ τ, Steps p.tables e below (T141.setTop (mkF m 4 #[.val (.ref a), .val (.int xs), .val (.double xv), .second] [(.int (2 : Int32))])) τ → Steps p.tables e below (s₁.setTop (entryFrame m #[(.ref a), (.int xs), (.double xv)] 4)) τ := fun τ kt => pre140 τ (st141 τ kt)
  have pre143 : ∀ τ, Steps p.tables e below (T141.setTop (mkF m 5 #[.val (.ref a), .val (.int xs), .val (.double xv), .second] [(.ref a), (.int (2 : Int32))])) τ → Steps p.tables e below (s₁.setTop (entryFrame m #[(.ref a), (.int xs), (.double xv)] 4)) τ := fun τ kt => pre142 τ (by
    show Steps p.tables e below (T141.setTop (mkF m 4 #[.val (.ref a), .val (.int xs), .val (.double xv), .second] [(.int (2 : Int32))])) τ
    refine XS.aloadN X141.here hx rfl (Jvm.hb hby d3_4) rfl rfl ?_
    exact kt)
  obtain ⟨T144, X144, e144, st144⟩ := getF X141 hx hZ hown (host := "") (Or.inl (hw _ (List.mem_of_getElem? (i := 17) rfl))) Via.refl e141 FT (g := (mkF m 5 #[.val (.ref a), .val (.int xs), .val (.double xv), .second] [(.ref a), (.int (2 : Int32))])) rfl rfl (Jvm.hb hby d3_5)
  have pre145 : ∀ τ, Steps p.tables e below (T144.setTop (mkF m 8 #[.val (.ref a), .val (.int xs), .val (.double xv), .second] [(.int (3 : Int32)), (.int (2 : Int32))])) τ → Steps p.tables e below (s₁.setTop (entryFrame m #[(.ref a), (.int xs), (.double xv)] 4)) τ := fun τ kt => pre143 τ (st144 τ kt)
  have pre146 : ∀ τ, Steps p.tables e below (T144.setTop (mkF m 12 #[.val (.ref a), .val (.int xs), .val (.double xv), .second] [(.ref a)])) τ → Steps p.tables e below (s₁.setTop (entryFrame m #[(.ref a), (.int xs), (.double xv)] 4)) τ := fun τ kt => pre145 τ (by
    show Steps p.tables e below (T144.setTop (mkF m 8 #[.val (.ref a), .val (.int xs), .val (.double xv), .second] [(.int (3 : Int32)), (.int (2 : Int32))])) τ
    refine XS.icmpNo X144.here hx rfl (Jvm.hb hby d3_8) rfl (tlt (by decide)).2.1 ?_
    show Steps p.tables e below (T144.setTop (mkF m 11 #[.val (.ref a), .val (.int xs), .val (.double xv), .second] [])) τ
    refine XS.aloadN X144.here hx rfl (Jvm.hb hby d3_11) rfl rfl ?_
    exact kt)
  obtain ⟨T147, X147, e147, st147⟩ := getF X144 hx hZ hown (host := "") (Or.inl (hw _ (List.mem_of_getElem? (i := 13) rfl))) Via.refl e144 FV (g := (mkF m 12 #[.val (.ref a), .val (.int xs), .val (.double xv), .second] [(.ref a)])) rfl rfl (Jvm.hb hby d3_12)
  have pre148 : ∀ τ, Steps p.tables e below (T147.setTop (mkF m 15 #[.val (.ref a), .val (.int xs), .val (.double xv), .second] [(.ref B)])) τ → Steps p.tables e below (s₁.setTop (entryFrame m #[(.ref a), (.int xs), (.double xv)] 4)) τ := fun τ kt => pre146 τ (st147 τ kt)
  have pre149 : ∀ τ, Steps p.tables e below (T147.setTop (mkF m 16 #[.val (.ref a), .val (.int xs), .val (.double xv), .second] [(.ref a), (.ref B)])) τ → Steps p.tables e below (s₁.setTop (entryFrame m #[(.ref a), (.int xs), (.double xv)] 4)) τ := fun τ kt => pre148 τ (by
    show Steps p.tables e below (T147.setTop (mkF m 15 #[.val (.ref a), .val (.int xs), .val (.double xv), .second] [(.ref B)])) τ
    refine XS.aloadN X147.here hx rfl (Jvm.hb hby d3_15) rfl rfl ?_
    exact kt)
  obtain ⟨T150, X150, e150, st150⟩ := getF X147 hx hZ hown (host := "") (Or.inl (hw _ (List.mem_of_getElem? (i := 15) rfl))) Via.refl e147 FH (g := (mkF m 16 #[.val (.ref a), .val (.int xs), .val (.double xv), .second] [(.ref a), (.ref B)])) rfl rfl (Jvm.hb hby d3_16)
  have pre151 : ∀ τ, Steps p.tables e below (T150.setTop (mkF m 19 #[.val (.ref a), .val (.int xs), .val (.double xv), .second] [(.int (2 : Int32)), (.ref B)])) τ → Steps p.tables e below (s₁.setTop (entryFrame m #[(.ref a), (.int xs), (.double xv)] 4)) τ := fun τ kt => pre149 τ (st150 τ kt)
  obtain ⟨cl152, Ar152, q152, S152, M152, H152, U152⟩ := id VV
  have in152 : ¬ ((2 : Int32) < 0 ∨ cl152.slots.size ≤ ((2 : Int32)).toNatClampNeg) := inb_of S152 ⟨by decide, by decide⟩
  have pre153 : ∀ τ, Steps p.tables e below (T150.setTop (mkF m 40 #[.val (.ref a), .val (.int xs), .val (.double xv), .second] [(.ref a), (.ref a)])) τ → Steps p.tables e below (s₁.setTop (entryFrame m #[(.ref a), (.int xs), (.double xv)] 4)) τ := fun τ kt => pre151 τ (by
    show Steps p.tables e below (T150.setTop (mkF m 19 #[.val (.ref a), .val (.int xs), .val (.double xv), .second] [(.int (2 : Int32)), (.ref B)])) τ
    refine X150.daload hx (by rw [e150]; exact Ar152.1) (State.isArrayOf_alike hZ.alike Ar152.2.1) Ar152.2.2 in152 (H152.at in152 rfl) (g := (mkF m 19 #[.val (.ref a), .val (.int xs), .val (.double xv), .second] [(.int (2 : Int32)), (.ref B)])) rfl rfl (Jvm.hb hby d3_19) _ ?_
    show Steps p.tables e below (T150.setTop (mkF m 20 #[.val (.ref a), .val (.int xs), .val (.double xv), .second] [(.double v2)])) τ
    refine own_dloadN X150.here hx rfl (Jvm.hb hby d3_20) rfl ?_
    show Steps p.tables e below (T150.setTop (mkF m 21 #[.val (.ref a), .val (.int xs), .val (.double xv), .second] [(.double xv), (.double v2)])) τ
    refine own_dcmp X150.here hx rfl (Jvm.hb hby d3_21) rfl ?_
    show Steps p.tables e below (T150.setTop (mkF m 22 #[.val (.ref a), .val (.int xs), .val (.double xv), .second] [(.int (cmpValue (FP.dcmp v2 xv) .g))])) τ
    refine XS.ifYes X150.here hx rfl (pc0 := 22) (pc' := 38) rfl (Jvm.hb hby d3_22) rfl ((if0 _ _).trans (tlt pc0).2.2.1) (by decide) (by decide) ?_
    show Steps p.tables e below (T150.setTop (mkF m 38 #[.val (.ref a), .val (.int xs), .val (.double xv), .second] [])) τ
    refine XS.aloadN X150.here hx rfl (Jvm.hb hby d3_38) rfl rfl ?_
    show Steps p.tables e below (T150.setTop (mkF m 39 #[.val (.ref a), .val (.int xs), .val (.double xv), .second] [(.ref a)])) τ
    refine XS.dup X150.here hx rfl (Jvm.hb hby d3_39) rfl rfl ?_
    exact kt)
  obtain ⟨T154, X154, e154, st154⟩ := getF X150 hx hZ hown (host := "") (Or.inl (hw _ (List.mem_of_getElem? (i := 15) rfl))) Via.refl e150 FH (g := (mkF m 40 #[.val (.ref a), .val (.int xs), .val (.double xv), .second] [(.ref a), (.ref a)])) rfl rfl (Jvm.hb hby d3_40)
  have pre155 : ∀ τ, Steps p.tables e below (T154.setTop (mkF m 43 #[.val (.ref a), .val (.int xs), .val (.double xv), .second] [(.int (2 : Int32)), (.ref a)])) τ → Steps p.tables e below (s₁.setTop (entryFrame m #[(.ref a), (.int xs), (.double xv)] 4)) τ := fun τ kt => pre153 τ (st154 τ kt)
  have pre156 : ∀ τ, Steps p.tables e below (T154.setTop (mkF m 45 #[.val (.ref a), .val (.int xs), .val (.double xv), .second] [(.int (1 : Int32)), (.ref a)])) τ → Steps p.tables e below (s₁.setTop (entryFrame m #[(.ref a), (.int xs), (.double xv)] 4)) τ := fun τ kt => pre155 τ (by
    show Steps p.tables e below (T154.setTop (mkF m 43 #[.val (.ref a), .val (.int xs), .val (.double xv), .second] [(.int (2 : Int32)), (.ref a)])) τ
    refine XS.iconst X154.here hx rfl (Jvm.hb hby d3_43) ?_
    show Steps p.tables e below (T154.setTop (mkF m 44 #[.val (.ref a), .val (.int xs), .val (.double xv), .second] [(.int (1 : Int32)), (.int (2 : Int32)), (.ref a)])) τ
    refine XS.isub X154.here hx rfl (Jvm.hb hby d3_44) rfl ?_
    exact kt)
  obtain ⟨T157, h157, X157, e157, W157, st157⟩ := putF X154 hx hZ hown (host := "") (Or.inl (hw _ (List.mem_of_getElem? (i := 15) rfl))) Via.refl e154 FH E7 (Or.inl (hw _ (List.mem_of_getElem? (i := 16) rfl))) (hw _ (List.mem_of_getElem? (i := 1) rfl)) (ty := .int) (by decide) rfl rfl (g := (mkF m 45 #[.val (.ref a), .val (.int xs), .val (.double xv), .second] [(.int (1 : Int32)), (.ref a)])) rfl rfl (Jvm.hb hby d3_45)
  have fw157 := Fld.same W157 FH
  have N157 := Fr.snoc X157 N0 ga
  have K157 : Keep h0 h157 [a, A, B] := KK0.wr W157 (Or.inl (by simp))
  have pre158 : ∀ τ, Steps p.tables e below (T157.setTop (mkF m 48 #[.val (.ref a), .val (.int xs), .val (.double xv), .second] [])) τ → Steps p.tables e below (s₁.setTop (entryFrame m #[(.ref a), (.int xs), (.double xv)] 4)) τ := fun τ kt => pre156 τ (st157 τ kt)
  have pre159 : ∀ τ, Steps p.tables e below (T157.setTop (mkF m 49 #[.val (.ref a), .val (.int xs), .val (.double xv), .second] [(.ref a)])) τ → Steps p.tables e below (s₁.setTop (entryFrame m #[(.ref a), (.int xs), (.double xv)] 4)) τ := fun τ kt => pre158 τ (by
    show Steps p.tables e below (T157.setTop (mkF m 48 #[.val (.ref a), .val (.int xs), .val (.double xv), .second] [])) τ
    refine XS.aloadN X157.here hx rfl (Jvm.hb hby d3_48) rfl rfl ?_
    exact kt)
  have f161 := (FS.other W157 (Or.inr (slot_ne (Or.inr (hw _ (List.mem_of_getElem? (i := 11) rfl))) (Or.inl (hw _ (List.mem_of_getElem? (i := 16) rfl))) (by decide) (t := (.array .int)) (t' := .int) (by decide) (by decide))))
  obtain ⟨T160, X160, e160, st160⟩ := getF X157 hx hZ hown (host := "") (Or.inl (hw _ (List.mem_of_getElem? (i := 10) rfl))) Via.refl e157 f161 (g := (mkF m 49 #[.val (.ref a), .val (.int xs), .val (.double xv), .second] [(.ref a)])) rfl rfl (Jvm.hb hby d3_49)
  have pre162 : ∀ τ, Steps p.tables e below (T160.setTop (mkF m 52 #[.val (.ref a), .val (.int xs), .val (.double xv), .second] [(.ref A)])) τ → Steps p.tables e below (s₁.setTop (entryFrame m #[(.ref a), (.int xs), (.double xv)] 4)) τ := fun τ kt => pre159 τ (st160 τ kt)
  have pre163 : ∀ τ, Steps p.tables e below (T160.setTop (mkF m 53 #[.val (.ref a), .val (.int xs), .val (.double xv), .second] [(.ref a), (.ref A)])) τ → Steps p.tables e below (s₁.setTop (entryFrame m #[(.ref a), (.int xs), (.double xv)] 4)) τ := fun τ kt => pre162 τ (by
    show Steps p.tables e below (T160.setTop (mkF m 52 #[.val (.ref a), .val (.int xs), .val (.double xv), .second] [(.ref A)])) τ
    refine XS.aloadN X160.here hx rfl (Jvm.hb hby d3_52) rfl rfl ?_
    exact kt)
  obtain ⟨T164, X164, e164, st164⟩ := getF X160 hx hZ hown (host := "") (Or.inl (hw _ (List.mem_of_getElem? (i := 15) rfl))) Via.refl e160 fw157 (g := (mkF m 53 #[.val (.ref a), .val (.int xs), .val (.double xv), .second] [(.ref a), (.ref A)])) rfl rfl (Jvm.hb hby d3_53)
  have pre165 : ∀ τ, Steps p.tables e below (T164.setTop (mkF m 56 #[.val (.ref a), .val (.int xs), .val (.double xv), .second] [(.int (1 : Int32)), (.ref A)])) τ → Steps p.tables e below (s₁.setTop (entryFrame m #[(.ref a), (.int xs), (.double xv)] 4)) τ := fun τ kt => pre163 τ (st164 τ kt)
  have pre166 : ∀ τ, Steps p.tables e below (T164.setTop (mkF m 57 #[.val (.ref a), .val (.int xs), .val (.double xv), .second] [(.int xs), (.int (1 : Int32)), (.ref A)])) τ → Steps p.tables e below (s₁.setTop (entryFrame m #[(.ref a), (.int xs), (.double xv)] 4)) τ := fun τ kt => pre165 τ (by
    show Steps p.tables e below (T164.setTop (mkF m 56 #[.val (.ref a), .val (.int xs), .val (.double xv), .second] [(.int (1 : Int32)), (.ref A)])) τ
    refine XS.iloadN X164.here hx rfl (Jvm.hb hby d3_56) rfl ?_
    exact kt)
  have f167 := VS.other W157 (Ne.symm naA)
  obtain ⟨cl168, Ar168, q168, S168, M168, H168, U168⟩ := id f167
  obtain ⟨T169, h169, X169, e169, W169, st169⟩ := stI X164 hx hZ e164 Ar168 (j := (1 : Int32)) (inb_of S168 ⟨by decide, by decide⟩) (g := (mkF m 57 #[.val (.ref a), .val (.int xs), .val (.double xv), .second] [(.int xs), (.int (1 : Int32)), (.ref A)])) rfl rfl (Jvm.hb hby d3_57)
  have V169 : Arv Z h169 A kA .int (3 : Int32) [(.int s0), (.int xs), (.int s2)] (.int (0 : Int32)) := Arv.set Ar168 q168 S168 M168 H168 U168 rfl W169 1 rfl (Nat.le_of_ble_eq_true rfl)
  have N169 := Fr.snoc X169 N157 gA
  have K169 : Keep h0 h169 [a, A, B] := K157.wr W169 (Or.inl (by simp))
  have pre170 : ∀ τ, Steps p.tables e below (T169.setTop (mkF m 58 #[.val (.ref a), .val (.int xs), .val (.double xv), .second] [])) τ → Steps p.tables e below (s₁.setTop (entryFrame m #[(.ref a), (.int xs), (.double xv)] 4)) τ := fun τ kt => pre166 τ (st169 τ kt)
  have pre171 : ∀ τ, Steps p.tables e below (T169.setTop (mkF m 59 #[.val (.ref a), .val (.int xs), .val (.double xv), .second] [(.ref a)])) τ → Steps p.tables e below (s₁.setTop (entryFrame m #[(.ref a), (.int xs), (.double xv)] 4)) τ := fun τ kt => pre170 τ (by
    show Steps p.tables e below (T169.setTop (mkF m 58 #[.val (.ref a), .val (.int xs), .val (.double xv), .second] [])) τ
    refine XS.aloadN X169.here hx rfl (Jvm.hb hby d3_58) rfl rfl ?_
    exact kt)
  have f173 := (FV.other W157 (Or.inr (slot_ne (Or.inr (hw _ (List.mem_of_getElem? (i := 14) rfl))) (Or.inl (hw _ (List.mem_of_getElem? (i := 16) rfl))) (by decide) (t := (.array .double)) (t' := .int) (by decide) (by decide))))
  have f174 := (f173.other W169 (Or.inl naA))
  obtain ⟨T172, X172, e172, st172⟩ := getF X169 hx hZ hown (host := "") (Or.inl (hw _ (List.mem_of_getElem? (i := 13) rfl))) Via.refl e169 f174 (g := (mkF m 59 #[.val (.ref a), .val (.int xs), .val (.double xv), .second] [(.ref a)])) rfl rfl (Jvm.hb hby d3_59)
  have pre175 : ∀ τ, Steps p.tables e below (T172.setTop (mkF m 62 #[.val (.ref a), .val (.int xs), .val (.double xv), .second] [(.ref B)])) τ → Steps p.tables e below (s₁.setTop (entryFrame m #[(.ref a), (.int xs), (.double xv)] 4)) τ := fun τ kt => pre171 τ (st172 τ kt)
  have pre176 : ∀ τ, Steps p.tables e below (T172.setTop (mkF m 63 #[.val (.ref a), .val (.int xs), .val (.double xv), .second] [(.ref a), (.ref B)])) τ → Steps p.tables e below (s₁.setTop (entryFrame m #[(.ref a), (.int xs), (.double xv)] 4)) τ := fun τ kt => pre175 τ (by
    show Steps p.tables e below (T172.setTop (mkF m 62 #[.val (.ref a), .val (.int xs), .val (.double xv), .second] [(.ref B)])) τ
    refine XS.aloadN X172.here hx rfl (Jvm.hb hby d3_62) rfl rfl ?_
    exact kt)
  have f178 := (fw157.other W169 (Or.inl naA))
  obtain ⟨T177, X177, e177, st177⟩ := getF X172 hx hZ hown (host := "") (Or.inl (hw _ (List.mem_of_getElem? (i := 15) rfl))) Via.refl e172 f178 (g := (mkF m 63 #[.val (.ref a), .val (.int xs), .val (.double xv), .second] [(.ref a), (.ref B)])) rfl rfl (Jvm.hb hby d3_63)
  have pre179 : ∀ τ, Steps p.tables e below (T177.setTop (mkF m 66 #[.val (.ref a), .val (.int xs), .val (.double xv), .second] [(.int (1 : Int32)), (.ref B)])) τ → Steps p.tables e below (s₁.setTop (entryFrame m #[(.ref a), (.int xs), (.double xv)] 4)) τ := fun τ kt => pre176 τ (st177 τ kt)
  have pre180 : ∀ τ, Steps p.tables e below (T177.setTop (mkF m 67 #[.val (.ref a), .val (.int xs), .val (.double xv), .second] [(.double xv), (.int (1 : Int32)), (.ref B)])) τ → Steps p.tables e below (s₁.setTop (entryFrame m #[(.ref a), (.int xs), (.double xv)] 4)) τ := fun τ kt => pre179 τ (by
    show Steps p.tables e below (T177.setTop (mkF m 66 #[.val (.ref a), .val (.int xs), .val (.double xv), .second] [(.int (1 : Int32)), (.ref B)])) τ
    refine own_dloadN X177.here hx rfl (Jvm.hb hby d3_66) rfl ?_
    exact kt)
  have f181 := VV.other W157 (Ne.symm naB)
  have f182 := f181.other W169 (Ne.symm nAB)
  obtain ⟨cl183, Ar183, q183, S183, M183, H183, U183⟩ := id f182
  obtain ⟨T184, h184, X184, e184, W184, st184⟩ := own_stD X177 hx hZ e177 Ar183 (j := (1 : Int32)) (inb_of S183 ⟨by decide, by decide⟩) (g := (mkF m 67 #[.val (.ref a), .val (.int xs), .val (.double xv), .second] [(.double xv), (.int (1 : Int32)), (.ref B)])) rfl rfl (Jvm.hb hby d3_67)
  have V184 : Arv Z h184 B kB .double (3 : Int32) [(.double v0), (.double xv), (.double v2)] (.double (0 : UInt64)) := Arv.set Ar183 q183 S183 M183 H183 U183 rfl W184 1 rfl (Nat.le_of_ble_eq_true rfl)
  have N184 := Fr.snoc X184 N169 gB
  have K184 : Keep h0 h184 [a, A, B] := K169.wr W184 (Or.inl (by simp))
  have pre185 : ∀ τ, Steps p.tables e below (T184.setTop (mkF m 68 #[.val (.ref a), .val (.int xs), .val (.double xv), .second] [])) τ → Steps p.tables e below (s₁.setTop (entryFrame m #[(.ref a), (.int xs), (.double xv)] 4)) τ := fun τ kt => pre180 τ (st184 τ kt)
  have f186 := (f161.other W169 (Or.inl naA))
  have f187 := (f186.other W184 (Or.inl naB))
  have f188 := (f174.other W184 (Or.inl naB))
  have f189 := (f178.other W184 (Or.inl naB))
  have f190 := (FT.other W157 (Or.inr (slot_ne (Or.inl (hw _ (List.mem_of_getElem? (i := 18) rfl))) (Or.inl (hw _ (List.mem_of_getElem? (i := 16) rfl))) (by decide) (t := .int) (t' := .int) (by decide) (by decide))))
  have f191 := (f190.other W169 (Or.inl naA))
  have f192 := (f191.other W184 (Or.inl naB))
  have f193 := V169.other W184 nAB
  obtain ⟨fs, hrL, hrun, hended, hW, hsame⟩ := X184.leave (v := none) (fun _ => rfl)
  refine ⟨_, _, pre185 _ ?_, hrun, hended, _, _, rfl, ?_, ⟨_, rfl⟩, hW, hsame.mono (by decide) (by decide)⟩
  · show Steps p.tables e below (T184.setTop (mkF m 68 #[.val (.ref a), .val (.int xs), .val (.double xv), .second] [])) _
    exact X184.returnOut hx Bd.returns (Jvm.hb hby d3_68) hrL
  · show QC Z a A B kA kB (1 : Int32) (3 : Int32) [(.int s0), (.int xs), (.int s2)] [(.double v0), (.double xv), (.double v2)] h0 n0 _ T184.heap _
    rw [e184]
    exact ⟨rfl, N184, K184, f187, f188, f189, f192, f193, V184⟩
set_option maxRecDepth 65536 in
set_option maxHeartbeats 40000000 in
theorem rmAdd_13_x (l : Launch) (Z : State) (a0 : Array Value) (hw : ∀ d ∈ tables_1, d.before a0 Z = true) (ws : List Jvm.Cond) (a : Addr) (xs : Int32) (xv : UInt64) (A B : Addr) (kA kB : ClassId) (s0 s1 s2 : Int32) (v0 v1 v2 : UInt64) (h0 : Heap) (n0 : Nat) (Z0 : n0 ≤ h0.size) (E7 : Exa Z h0 a "com/example/counterpath/counterpath/core/CappedMaximum") (FS : Fld Z h0 a "com/example/counterpath/counterpath/core/CappedMaximum" "samples" "[I" (.ref A)) (FV : Fld Z h0 a "com/example/counterpath/counterpath/core/CappedMaximum" "values" "[D" (.ref B)) (FH : Fld Z h0 a "com/example/counterpath/counterpath/core/CappedMaximum" "head" "I" (.int (1 : Int32))) (FT : Fld Z h0 a "com/example/counterpath/counterpath/core/CappedMaximum" "tail" "I" (.int (3 : Int32))) (VS : Arv Z h0 A kA .int (3 : Int32) [(.int s0), (.int s1), (.int s2)] (.int (0 : Int32))) (VV : Arv Z h0 B kB .double (3 : Int32) [(.double v0), (.double v1), (.double v2)] (.double (0 : UInt64))) (naA : a ≠ A) (naB : a ≠ B) (nAB : A ≠ B) (ga : n0 ≤ a) (gA : n0 ≤ A) (gB : n0 ≤ B) (pc0 : (0 : Int32) < cmpValue (FP.dcmp v1 xv) .g) :
    MetFree l (⟨"com/example/counterpath/counterpath/core/CappedMaximum", "addFirst", "(ID)V"⟩ : MethodName) (head1 (Jvm.Cond.code (⟨"com/example/counterpath/counterpath/core/CappedMaximum", "addFirst", "(ID)V"⟩ : MethodName) prog_3_method_2_code 4 none :: ws) ({ frames := 0, cells := 0, slots := 0, locals := 0 } : Room)) (fun α U => α = #[(.ref a), (.int xs), (.double xv)] ∧ Z.Warmed39 U.vm ∧ U.heap = h0) (fun _ _ _ _ _ => True) (fun _ U ω U' => ∃ ν Λ, ω = .returned ν ∧ QC Z a A B kA kB (0 : Int32) (3 : Int32) [(.int xs), (.int s1), (.int s2)] [(.double xv), (.double v1), (.double v2)] h0 n0 ν U'.heap Λ ∧ FrameEnd U ω U' Λ ({ frames := 0, cells := 0, slots := 0, locals := 0 } : Room).cells ({ frames := 0, cells := 0, slots := 0, locals := 0 } : Room).slots) := by
  refine MetFree.of_bodySF (plainFor_of_name own_pn_com_example_counterpath_counterpath_core_CappedMaximum) hisR ?_
  intro p e s m args below meth c s₁ Bd hml0 hP hK
  obtain ⟨rfl, hZ, hh⟩ := hP
  have hx := Bd.exec
  have hby := Bd.bytes
  have hml : c.maxLocals = 4 := hml0
  have hown : s.vm.findClass "com/example/counterpath/counterpath/core/CappedMaximum" = some m.cls := findClass_of_methodNamed Bd.named
  have hnm := (name_of_methodNamed Bd.named Bd.method).1
  have X0 : Stand p l e ({ frames := 0, cells := 0, slots := 0, locals := 0 } : Room) s m #[(.ref a), (.int xs), (.double xv)] below meth c s₁ [] 0 0 := Stand.of_body Bd
  have e0 : s₁.heap = h0 := by rw [← hh, Bd.state]; rfl
  have N0 := Fr.nil n0
  have KK0 : Keep h0 h0 [a, A, B] := Keep.refl h0 [a, A, B]
  have pre0 : ∀ τ, Steps p.tables e below (s₁.setTop (mkF m 0 #[.val (.ref a), .val (.int xs), .val (.double xv), .second] [])) τ → Steps p.tables e below (s₁.setTop (entryFrame m #[(.ref a), (.int xs), (.double xv)] 4)) τ := fun τ κ => castTop (own_ef3 m a xs xv) κ
  have pre198 : ∀ τ, Steps p.tables e below (s₁.setTop (mkF m 1 #[.val (.ref a), .val (.int xs), .val (.double xv), .second] [(.ref a)])) τ → Steps p.tables e below (s₁.setTop (entryFrame m #[(.ref a), (.int xs), (.double xv)] 4)) τ := fun τ kt => pre0 τ (by
    show Steps p.tables e below (s₁.setTop (mkF m 0 #[.val (.ref a), .val (.int xs), .val (.double xv), .second] [])) τ
    refine XS.aloadN X0.here hx rfl (Jvm.hb hby d3_0) rfl rfl ?_
    exact kt)
  obtain ⟨T199, X199, e199, st199⟩ := getF X0 hx hZ hown (host := "") (Or.inl (hw _ (List.mem_of_getElem? (i := 15) rfl))) Via.refl e0 FH (g := (mkF m 1 #[.val (.ref a), .val (.int xs), .val (.double xv), .second] [(.ref a)])) rfl rfl (Jvm.hb hby d3_1)
  have pre200 : ∀ τ, Steps p.tables e below (T199.setTop (mkF m 4 #[.val (.ref a), .val (.int xs), .val (.double xv), .second] [(.int (1 : Int32))])) τ → Steps p.tables e below (s₁.setTop (entryFrame m #[(.ref a), (.int xs), (.double xv)] 4)) τ := fun τ kt => pre198 τ (st199 τ kt)
  have pre201 : ∀ τ, Steps p.tables e below (T199.setTop (mkF m 5 #[.val (.ref a), .val (.int xs), .val (.double xv), .second] [(.ref a), (.int (1 : Int32))])) τ → Steps p.tables e below (s₁.setTop (entryFrame m #[(.ref a), (.int xs), (.double xv)] 4)) τ := fun τ kt => pre200 τ (by
    show Steps p.tables e below (T199.setTop (mkF m 4 #[.val (.ref a), .val (.int xs), .val (.double xv), .second] [(.int (1 : Int32))])) τ
    refine XS.aloadN X199.here hx rfl (Jvm.hb hby d3_4) rfl rfl ?_
    exact kt)
  obtain ⟨T202, X202, e202, st202⟩ := getF X199 hx hZ hown (host := "") (Or.inl (hw _ (List.mem_of_getElem? (i := 17) rfl))) Via.refl e199 FT (g := (mkF m 5 #[.val (.ref a), .val (.int xs), .val (.double xv), .second] [(.ref a), (.int (1 : Int32))])) rfl rfl (Jvm.hb hby d3_5)
  have pre203 : ∀ τ, Steps p.tables e below (T202.setTop (mkF m 8 #[.val (.ref a), .val (.int xs), .val (.double xv), .second] [(.int (3 : Int32)), (.int (1 : Int32))])) τ → Steps p.tables e below (s₁.setTop (entryFrame m #[(.ref a), (.int xs), (.double xv)] 4)) τ := fun τ kt => pre201 τ (st202 τ kt)
  have pre204 : ∀ τ, Steps p.tables e below (T202.setTop (mkF m 12 #[.val (.ref a), .val (.int xs), .val (.double xv), .second] [(.ref a)])) τ → Steps p.tables e below (s₁.setTop (entryFrame m #[(.ref a), (.int xs), (.double xv)] 4)) τ := fun τ kt => pre203 τ (by
    show Steps p.tables e below (T202.setTop (mkF m 8 #[.val (.ref a), .val (.int xs), .val (.double xv), .second] [(.int (3 : Int32)), (.int (1 : Int32))])) τ
    refine XS.icmpNo X202.here hx rfl (Jvm.hb hby d3_8) rfl (tlt (by decide)).2.1 ?_
    show Steps p.tables e below (T202.setTop (mkF m 11 #[.val (.ref a), .val (.int xs), .val (.double xv), .second] [])) τ
    refine XS.aloadN X202.here hx rfl (Jvm.hb hby d3_11) rfl rfl ?_
    exact kt)
  obtain ⟨T205, X205, e205, st205⟩ := getF X202 hx hZ hown (host := "") (Or.inl (hw _ (List.mem_of_getElem? (i := 13) rfl))) Via.refl e202 FV (g := (mkF m 12 #[.val (.ref a), .val (.int xs), .val (.double xv), .second] [(.ref a)])) rfl rfl (Jvm.hb hby d3_12)
  have pre206 : ∀ τ, Steps p.tables e below (T205.setTop (mkF m 15 #[.val (.ref a), .val (.int xs), .val (.double xv), .second] [(.ref B)])) τ → Steps p.tables e below (s₁.setTop (entryFrame m #[(.ref a), (.int xs), (.double xv)] 4)) τ := fun τ kt => pre204 τ (st205 τ kt)
  have pre207 : ∀ τ, Steps p.tables e below (T205.setTop (mkF m 16 #[.val (.ref a), .val (.int xs), .val (.double xv), .second] [(.ref a), (.ref B)])) τ → Steps p.tables e below (s₁.setTop (entryFrame m #[(.ref a), (.int xs), (.double xv)] 4)) τ := fun τ kt => pre206 τ (by
    show Steps p.tables e below (T205.setTop (mkF m 15 #[.val (.ref a), .val (.int xs), .val (.double xv), .second] [(.ref B)])) τ
    refine XS.aloadN X205.here hx rfl (Jvm.hb hby d3_15) rfl rfl ?_
    exact kt)
  obtain ⟨T208, X208, e208, st208⟩ := getF X205 hx hZ hown (host := "") (Or.inl (hw _ (List.mem_of_getElem? (i := 15) rfl))) Via.refl e205 FH (g := (mkF m 16 #[.val (.ref a), .val (.int xs), .val (.double xv), .second] [(.ref a), (.ref B)])) rfl rfl (Jvm.hb hby d3_16)
  have pre209 : ∀ τ, Steps p.tables e below (T208.setTop (mkF m 19 #[.val (.ref a), .val (.int xs), .val (.double xv), .second] [(.int (1 : Int32)), (.ref B)])) τ → Steps p.tables e below (s₁.setTop (entryFrame m #[(.ref a), (.int xs), (.double xv)] 4)) τ := fun τ kt => pre207 τ (st208 τ kt)
  obtain ⟨cl210, Ar210, q210, S210, M210, H210, U210⟩ := id VV
  have in210 : ¬ ((1 : Int32) < 0 ∨ cl210.slots.size ≤ ((1 : Int32)).toNatClampNeg) := inb_of S210 ⟨by decide, by decide⟩
  have pre211 : ∀ τ, Steps p.tables e below (T208.setTop (mkF m 40 #[.val (.ref a), .val (.int xs), .val (.double xv), .second] [(.ref a), (.ref a)])) τ → Steps p.tables e below (s₁.setTop (entryFrame m #[(.ref a), (.int xs), (.double xv)] 4)) τ := fun τ kt => pre209 τ (by
    show Steps p.tables e below (T208.setTop (mkF m 19 #[.val (.ref a), .val (.int xs), .val (.double xv), .second] [(.int (1 : Int32)), (.ref B)])) τ
    refine X208.daload hx (by rw [e208]; exact Ar210.1) (State.isArrayOf_alike hZ.alike Ar210.2.1) Ar210.2.2 in210 (H210.at in210 rfl) (g := (mkF m 19 #[.val (.ref a), .val (.int xs), .val (.double xv), .second] [(.int (1 : Int32)), (.ref B)])) rfl rfl (Jvm.hb hby d3_19) _ ?_
    show Steps p.tables e below (T208.setTop (mkF m 20 #[.val (.ref a), .val (.int xs), .val (.double xv), .second] [(.double v1)])) τ
    refine own_dloadN X208.here hx rfl (Jvm.hb hby d3_20) rfl ?_
    show Steps p.tables e below (T208.setTop (mkF m 21 #[.val (.ref a), .val (.int xs), .val (.double xv), .second] [(.double xv), (.double v1)])) τ
    refine own_dcmp X208.here hx rfl (Jvm.hb hby d3_21) rfl ?_
    show Steps p.tables e below (T208.setTop (mkF m 22 #[.val (.ref a), .val (.int xs), .val (.double xv), .second] [(.int (cmpValue (FP.dcmp v1 xv) .g))])) τ
    refine XS.ifYes X208.here hx rfl (pc0 := 22) (pc' := 38) rfl (Jvm.hb hby d3_22) rfl ((if0 _ _).trans (tlt pc0).2.2.1) (by decide) (by decide) ?_
    show Steps p.tables e below (T208.setTop (mkF m 38 #[.val (.ref a), .val (.int xs), .val (.double xv), .second] [])) τ
    refine XS.aloadN X208.here hx rfl (Jvm.hb hby d3_38) rfl rfl ?_
    show Steps p.tables e below (T208.setTop (mkF m 39 #[.val (.ref a), .val (.int xs), .val (.double xv), .second] [(.ref a)])) τ
    refine XS.dup X208.here hx rfl (Jvm.hb hby d3_39) rfl rfl ?_
    exact kt)
  obtain ⟨T212, X212, e212, st212⟩ := getF X208 hx hZ hown (host := "") (Or.inl (hw _ (List.mem_of_getElem? (i := 15) rfl))) Via.refl e208 FH (g := (mkF m 40 #[.val (.ref a), .val (.int xs), .val (.double xv), .second] [(.ref a), (.ref a)])) rfl rfl (Jvm.hb hby d3_40)
  have pre213 : ∀ τ, Steps p.tables e below (T212.setTop (mkF m 43 #[.val (.ref a), .val (.int xs), .val (.double xv), .second] [(.int (1 : Int32)), (.ref a)])) τ → Steps p.tables e below (s₁.setTop (entryFrame m #[(.ref a), (.int xs), (.double xv)] 4)) τ := fun τ kt => pre211 τ (st212 τ kt)
  have pre214 : ∀ τ, Steps p.tables e below (T212.setTop (mkF m 45 #[.val (.ref a), .val (.int xs), .val (.double xv), .second] [(.int (0 : Int32)), (.ref a)])) τ → Steps p.tables e below (s₁.setTop (entryFrame m #[(.ref a), (.int xs), (.double xv)] 4)) τ := fun τ kt => pre213 τ (by
    show Steps p.tables e below (T212.setTop (mkF m 43 #[.val (.ref a), .val (.int xs), .val (.double xv), .second] [(.int (1 : Int32)), (.ref a)])) τ
    refine XS.iconst X212.here hx rfl (Jvm.hb hby d3_43) ?_
    show Steps p.tables e below (T212.setTop (mkF m 44 #[.val (.ref a), .val (.int xs), .val (.double xv), .second] [(.int (1 : Int32)), (.int (1 : Int32)), (.ref a)])) τ
    refine XS.isub X212.here hx rfl (Jvm.hb hby d3_44) rfl ?_
    exact kt)
  obtain ⟨T215, h215, X215, e215, W215, st215⟩ := putF X212 hx hZ hown (host := "") (Or.inl (hw _ (List.mem_of_getElem? (i := 15) rfl))) Via.refl e212 FH E7 (Or.inl (hw _ (List.mem_of_getElem? (i := 16) rfl))) (hw _ (List.mem_of_getElem? (i := 1) rfl)) (ty := .int) (by decide) rfl rfl (g := (mkF m 45 #[.val (.ref a), .val (.int xs), .val (.double xv), .second] [(.int (0 : Int32)), (.ref a)])) rfl rfl (Jvm.hb hby d3_45)
  have fw215 := Fld.same W215 FH
  have N215 := Fr.snoc X215 N0 ga
  have K215 : Keep h0 h215 [a, A, B] := KK0.wr W215 (Or.inl (by simp))
  have pre216 : ∀ τ, Steps p.tables e below (T215.setTop (mkF m 48 #[.val (.ref a), .val (.int xs), .val (.double xv), .second] [])) τ → Steps p.tables e below (s₁.setTop (entryFrame m #[(.ref a), (.int xs), (.double xv)] 4)) τ := fun τ kt => pre214 τ (st215 τ kt)
  have pre217 : ∀ τ, Steps p.tables e below (T215.setTop (mkF m 49 #[.val (.ref a), .val (.int xs), .val (.double xv), .second] [(.ref a)])) τ → Steps p.tables e below (s₁.setTop (entryFrame m #[(.ref a), (.int xs), (.double xv)] 4)) τ := fun τ kt => pre216 τ (by
    show Steps p.tables e below (T215.setTop (mkF m 48 #[.val (.ref a), .val (.int xs), .val (.double xv), .second] [])) τ
    refine XS.aloadN X215.here hx rfl (Jvm.hb hby d3_48) rfl rfl ?_
    exact kt)
  have f219 := (FS.other W215 (Or.inr (slot_ne (Or.inr (hw _ (List.mem_of_getElem? (i := 11) rfl))) (Or.inl (hw _ (List.mem_of_getElem? (i := 16) rfl))) (by decide) (t := (.array .int)) (t' := .int) (by decide) (by decide))))
  obtain ⟨T218, X218, e218, st218⟩ := getF X215 hx hZ hown (host := "") (Or.inl (hw _ (List.mem_of_getElem? (i := 10) rfl))) Via.refl e215 f219 (g := (mkF m 49 #[.val (.ref a), .val (.int xs), .val (.double xv), .second] [(.ref a)])) rfl rfl (Jvm.hb hby d3_49)
  have pre220 : ∀ τ, Steps p.tables e below (T218.setTop (mkF m 52 #[.val (.ref a), .val (.int xs), .val (.double xv), .second] [(.ref A)])) τ → Steps p.tables e below (s₁.setTop (entryFrame m #[(.ref a), (.int xs), (.double xv)] 4)) τ := fun τ kt => pre217 τ (st218 τ kt)
  have pre221 : ∀ τ, Steps p.tables e below (T218.setTop (mkF m 53 #[.val (.ref a), .val (.int xs), .val (.double xv), .second] [(.ref a), (.ref A)])) τ → Steps p.tables e below (s₁.setTop (entryFrame m #[(.ref a), (.int xs), (.double xv)] 4)) τ := fun τ kt => pre220 τ (by
    show Steps p.tables e below (T218.setTop (mkF m 52 #[.val (.ref a), .val (.int xs), .val (.double xv), .second] [(.ref A)])) τ
    refine XS.aloadN X218.here hx rfl (Jvm.hb hby d3_52) rfl rfl ?_
    exact kt)
  obtain ⟨T222, X222, e222, st222⟩ := getF X218 hx hZ hown (host := "") (Or.inl (hw _ (List.mem_of_getElem? (i := 15) rfl))) Via.refl e218 fw215 (g := (mkF m 53 #[.val (.ref a), .val (.int xs), .val (.double xv), .second] [(.ref a), (.ref A)])) rfl rfl (Jvm.hb hby d3_53)
  have pre223 : ∀ τ, Steps p.tables e below (T222.setTop (mkF m 56 #[.val (.ref a), .val (.int xs), .val (.double xv), .second] [(.int (0 : Int32)), (.ref A)])) τ → Steps p.tables e below (s₁.setTop (entryFrame m #[(.ref a), (.int xs), (.double xv)] 4)) τ := fun τ kt => pre221 τ (st222 τ kt)
  have pre224 : ∀ τ, Steps p.tables e below (T222.setTop (mkF m 57 #[.val (.ref a), .val (.int xs), .val (.double xv), .second] [(.int xs), (.int (0 : Int32)), (.ref A)])) τ → Steps p.tables e below (s₁.setTop (entryFrame m #[(.ref a), (.int xs), (.double xv)] 4)) τ := fun τ kt => pre223 τ (by
    show Steps p.tables e below (T222.setTop (mkF m 56 #[.val (.ref a), .val (.int xs), .val (.double xv), .second] [(.int (0 : Int32)), (.ref A)])) τ
    refine XS.iloadN X222.here hx rfl (Jvm.hb hby d3_56) rfl ?_
    exact kt)
  have f225 := VS.other W215 (Ne.symm naA)
  obtain ⟨cl226, Ar226, q226, S226, M226, H226, U226⟩ := id f225
  obtain ⟨T227, h227, X227, e227, W227, st227⟩ := stI X222 hx hZ e222 Ar226 (j := (0 : Int32)) (inb_of S226 ⟨by decide, by decide⟩) (g := (mkF m 57 #[.val (.ref a), .val (.int xs), .val (.double xv), .second] [(.int xs), (.int (0 : Int32)), (.ref A)])) rfl rfl (Jvm.hb hby d3_57)
  have V227 : Arv Z h227 A kA .int (3 : Int32) [(.int xs), (.int s1), (.int s2)] (.int (0 : Int32)) := Arv.set Ar226 q226 S226 M226 H226 U226 rfl W227 0 rfl (Nat.le_of_ble_eq_true rfl)
  have N227 := Fr.snoc X227 N215 gA
  have K227 : Keep h0 h227 [a, A, B] := K215.wr W227 (Or.inl (by simp))
  have pre228 : ∀ τ, Steps p.tables e below (T227.setTop (mkF m 58 #[.val (.ref a), .val (.int xs), .val (.double xv), .second] [])) τ → Steps p.tables e below (s₁.setTop (entryFrame m #[(.ref a), (.int xs), (.double xv)] 4)) τ := fun τ kt => pre224 τ (st227 τ kt)
  have pre229 : ∀ τ, Steps p.tables e below (T227.setTop (mkF m 59 #[.val (.ref a), .val (.int xs), .val (.double xv), .second] [(.ref a)])) τ → Steps p.tables e below (s₁.setTop (entryFrame m #[(.ref a), (.int xs), (.double xv)] 4)) τ := fun τ kt => pre228 τ (by
    show Steps p.tables e below (T227.setTop (mkF m 58 #[.val (.ref a), .val (.int xs), .val (.double xv), .second] [])) τ
    refine XS.aloadN X227.here hx rfl (Jvm.hb hby d3_58) rfl rfl ?_
    exact kt)
  have f231 := (FV.other W215 (Or.inr (slot_ne (Or.inr (hw _ (List.mem_of_getElem? (i := 14) rfl))) (Or.inl (hw _ (List.mem_of_getElem? (i := 16) rfl))) (by decide) (t := (.array .double)) (t' := .int) (by decide) (by decide))))
  have f232 := (f231.other W227 (Or.inl naA))
  obtain ⟨T230, X230, e230, st230⟩ := getF X227 hx hZ hown (host := "") (Or.inl (hw _ (List.mem_of_getElem? (i := 13) rfl))) Via.refl e227 f232 (g := (mkF m 59 #[.val (.ref a), .val (.int xs), .val (.double xv), .second] [(.ref a)])) rfl rfl (Jvm.hb hby d3_59)
  have pre233 : ∀ τ, Steps p.tables e below (T230.setTop (mkF m 62 #[.val (.ref a), .val (.int xs), .val (.double xv), .second] [(.ref B)])) τ → Steps p.tables e below (s₁.setTop (entryFrame m #[(.ref a), (.int xs), (.double xv)] 4)) τ := fun τ kt => pre229 τ (st230 τ kt)
  have pre234 : ∀ τ, Steps p.tables e below (T230.setTop (mkF m 63 #[.val (.ref a), .val (.int xs), .val (.double xv), .second] [(.ref a), (.ref B)])) τ → Steps p.tables e below (s₁.setTop (entryFrame m #[(.ref a), (.int xs), (.double xv)] 4)) τ := fun τ kt => pre233 τ (by
    show Steps p.tables e below (T230.setTop (mkF m 62 #[.val (.ref a), .val (.int xs), .val (.double xv), .second] [(.ref B)])) τ
    refine XS.aloadN X230.here hx rfl (Jvm.hb hby d3_62) rfl rfl ?_
    exact kt)
  have f236 := (fw215.other W227 (Or.inl naA))
  obtain ⟨T235, X235, e235, st235⟩ := getF X230 hx hZ hown (host := "") (Or.inl (hw _ (List.mem_of_getElem? (i := 15) rfl))) Via.refl e230 f236 (g := (mkF m 63 #[.val (.ref a), .val (.int xs), .val (.double xv), .second] [(.ref a), (.ref B)])) rfl rfl (Jvm.hb hby d3_63)
  have pre237 : ∀ τ, Steps p.tables e below (T235.setTop (mkF m 66 #[.val (.ref a), .val (.int xs), .val (.double xv), .second] [(.int (0 : Int32)), (.ref B)])) τ → Steps p.tables e below (s₁.setTop (entryFrame m #[(.ref a), (.int xs), (.double xv)] 4)) τ := fun τ kt => pre234 τ (st235 τ kt)
  have pre238 : ∀ τ, Steps p.tables e below (T235.setTop (mkF m 67 #[.val (.ref a), .val (.int xs), .val (.double xv), .second] [(.double xv), (.int (0 : Int32)), (.ref B)])) τ → Steps p.tables e below (s₁.setTop (entryFrame m #[(.ref a), (.int xs), (.double xv)] 4)) τ := fun τ kt => pre237 τ (by
    show Steps p.tables e below (T235.setTop (mkF m 66 #[.val (.ref a), .val (.int xs), .val (.double xv), .second] [(.int (0 : Int32)), (.ref B)])) τ
    refine own_dloadN X235.here hx rfl (Jvm.hb hby d3_66) rfl ?_
    exact kt)
  have f239 := VV.other W215 (Ne.symm naB)
  have f240 := f239.other W227 (Ne.symm nAB)
  obtain ⟨cl241, Ar241, q241, S241, M241, H241, U241⟩ := id f240
  obtain ⟨T242, h242, X242, e242, W242, st242⟩ := own_stD X235 hx hZ e235 Ar241 (j := (0 : Int32)) (inb_of S241 ⟨by decide, by decide⟩) (g := (mkF m 67 #[.val (.ref a), .val (.int xs), .val (.double xv), .second] [(.double xv), (.int (0 : Int32)), (.ref B)])) rfl rfl (Jvm.hb hby d3_67)
  have V242 : Arv Z h242 B kB .double (3 : Int32) [(.double xv), (.double v1), (.double v2)] (.double (0 : UInt64)) := Arv.set Ar241 q241 S241 M241 H241 U241 rfl W242 0 rfl (Nat.le_of_ble_eq_true rfl)
  have N242 := Fr.snoc X242 N227 gB
  have K242 : Keep h0 h242 [a, A, B] := K227.wr W242 (Or.inl (by simp))
  have pre243 : ∀ τ, Steps p.tables e below (T242.setTop (mkF m 68 #[.val (.ref a), .val (.int xs), .val (.double xv), .second] [])) τ → Steps p.tables e below (s₁.setTop (entryFrame m #[(.ref a), (.int xs), (.double xv)] 4)) τ := fun τ kt => pre238 τ (st242 τ kt)
  have f244 := (f219.other W227 (Or.inl naA))
  have f245 := (f244.other W242 (Or.inl naB))
  have f246 := (f232.other W242 (Or.inl naB))
  have f247 := (f236.other W242 (Or.inl naB))
  have f248 := (FT.other W215 (Or.inr (slot_ne (Or.inl (hw _ (List.mem_of_getElem? (i := 18) rfl))) (Or.inl (hw _ (List.mem_of_getElem? (i := 16) rfl))) (by decide) (t := .int) (t' := .int) (by decide) (by decide))))
  have f249 := (f248.other W227 (Or.inl naA))
  have f250 := (f249.other W242 (Or.inl naB))
  have f251 := V227.other W242 nAB
  obtain ⟨fs, hrL, hrun, hended, hW, hsame⟩ := X242.leave (v := none) (fun _ => rfl)
  refine ⟨_, _, pre243 _ ?_, hrun, hended, _, _, rfl, ?_, ⟨_, rfl⟩, hW, hsame.mono (by decide) (by decide)⟩
  · show Steps p.tables e below (T242.setTop (mkF m 68 #[.val (.ref a), .val (.int xs), .val (.double xv), .second] [])) _
    exact X242.returnOut hx Bd.returns (Jvm.hb hby d3_68) hrL
  · show QC Z a A B kA kB (0 : Int32) (3 : Int32) [(.int xs), (.int s1), (.int s2)] [(.double xv), (.double v1), (.double v2)] h0 n0 _ T242.heap _
    rw [e242]
    exact ⟨rfl, N242, K242, f245, f246, f247, f250, f251, V242⟩
set_option maxRecDepth 65536 in
set_option maxHeartbeats 40000000 in
theorem rmMax_03 (l : Launch) (Z : State) (a0 : Array Value) (hw : ∀ d ∈ tables_1, d.before a0 Z = true) (ws : List Jvm.Cond) (a : Addr) (A B : Addr) (kA kB : ClassId) (s0 s1 s2 : Int32) (v0 v1 v2 : UInt64) (h0 : Heap) (n0 : Nat) (Z0 : n0 ≤ h0.size) (E7 : Exa Z h0 a "com/example/counterpath/counterpath/core/CappedMaximum") (FS : Fld Z h0 a "com/example/counterpath/counterpath/core/CappedMaximum" "samples" "[I" (.ref A)) (FV : Fld Z h0 a "com/example/counterpath/counterpath/core/CappedMaximum" "values" "[D" (.ref B)) (FH : Fld Z h0 a "com/example/counterpath/counterpath/core/CappedMaximum" "head" "I" (.int (0 : Int32))) (FT : Fld Z h0 a "com/example/counterpath/counterpath/core/CappedMaximum" "tail" "I" (.int (3 : Int32))) (VS : Arv Z h0 A kA .int (3 : Int32) [(.int s0), (.int s1), (.int s2)] (.int (0 : Int32))) (VV : Arv Z h0 B kB .double (3 : Int32) [(.double v0), (.double v1), (.double v2)] (.double (0 : UInt64))) (naA : a ≠ A) (naB : a ≠ B) (nAB : A ≠ B) (ga : n0 ≤ a) (gA : n0 ≤ A) (gB : n0 ≤ B)  :
    MetFree l (⟨"com/example/counterpath/counterpath/core/CappedMaximum", "maximum", "()D"⟩ : MethodName) (head1 (Jvm.Cond.code (⟨"com/example/counterpath/counterpath/core/CappedMaximum", "maximum", "()D"⟩ : MethodName) prog_3_method_5_code 1 (some .double) :: ws) ({ frames := 0, cells := 0, slots := 0, locals := 0 } : Room)) (fun α U => α = #[(.ref a)] ∧ Z.Warmed39 U.vm ∧ U.heap = h0) (fun _ _ _ _ _ => True) (fun _ U ω U' => ∃ ν Λ, ω = .returned ν ∧ QD v2 h0 n0 ν U'.heap Λ ∧ FrameEnd U ω U' Λ ({ frames := 0, cells := 0, slots := 0, locals := 0 } : Room).cells ({ frames := 0, cells := 0, slots := 0, locals := 0 } : Room).slots) := by
  refine MetFree.of_bodySF (plainFor_of_name own_pn_com_example_counterpath_counterpath_core_CappedMaximum) hisR ?_
  intro p e s m args below meth c s₁ Bd hml0 hP hK
  obtain ⟨rfl, hZ, hh⟩ := hP
  have hx := Bd.exec
  have hby := Bd.bytes
  have hml : c.maxLocals = 1 := hml0
  have hown : s.vm.findClass "com/example/counterpath/counterpath/core/CappedMaximum" = some m.cls := findClass_of_methodNamed Bd.named
  have hnm := (name_of_methodNamed Bd.named Bd.method).1
  have X0 : Stand p l e ({ frames := 0, cells := 0, slots := 0, locals := 0 } : Room) s m #[(.ref a)] below meth c s₁ [] 0 0 := Stand.of_body Bd
  have e0 : s₁.heap = h0 := by rw [← hh, Bd.state]; rfl
  have N0 := Fr.nil n0
  have KK0 : Keep h0 h0 [] := Keep.refl h0 []
  have pre0 : ∀ τ, Steps p.tables e below (s₁.setTop (mkF m 0 #[.val (.ref a)] [])) τ → Steps p.tables e below (s₁.setTop (entryFrame m #[(.ref a)] 1)) τ := fun τ κ => castTop (own_ef4 m a) κ
  have pre255 : ∀ τ, Steps p.tables e below (s₁.setTop (mkF m 1 #[.val (.ref a)] [(.ref a)])) τ → Steps p.tables e below (s₁.setTop (entryFrame m #[(.ref a)] 1)) τ := fun τ kt => pre0 τ (by
    show Steps p.tables e below (s₁.setTop (mkF m 0 #[.val (.ref a)] [])) τ
    refine XS.aloadN X0.here hx rfl (Jvm.hb hby d4_0) rfl rfl ?_
    exact kt)
  obtain ⟨T256, X256, e256, st256⟩ := getF X0 hx hZ hown (host := "") (Or.inl (hw _ (List.mem_of_getElem? (i := 17) rfl))) Via.refl e0 FT (g := (mkF m 1 #[.val (.ref a)] [(.ref a)])) rfl rfl (Jvm.hb hby d4_1)
  have pre257 : ∀ τ, Steps p.tables e below (T256.setTop (mkF m 4 #[.val (.ref a)] [(.int (3 : Int32))])) τ → Steps p.tables e below (s₁.setTop (entryFrame m #[(.ref a)] 1)) τ := fun τ kt => pre255 τ (st256 τ kt)
  have pre258 : ∀ τ, Steps p.tables e below (T256.setTop (mkF m 5 #[.val (.ref a)] [(.ref a), (.int (3 : Int32))])) τ → Steps p.tables e below (s₁.setTop (entryFrame m #[(.ref a)] 1)) τ := fun τ kt => pre257 τ (by
    show Steps p.tables e below (T256.setTop (mkF m 4 #[.val (.ref a)] [(.int (3 : Int32))])) τ
    refine XS.aloadN X256.here hx rfl (Jvm.hb hby d4_4) rfl rfl ?_
    exact kt)
  obtain ⟨T259, X259, e259, st259⟩ := getF X256 hx hZ hown (host := "") (Or.inl (hw _ (List.mem_of_getElem? (i := 15) rfl))) Via.refl e256 FH (g := (mkF m 5 #[.val (.ref a)] [(.ref a), (.int (3 : Int32))])) rfl rfl (Jvm.hb hby d4_5)
  have pre260 : ∀ τ, Steps p.tables e below (T259.setTop (mkF m 8 #[.val (.ref a)] [(.int (0 : Int32)), (.int (3 : Int32))])) τ → Steps p.tables e below (s₁.setTop (entryFrame m #[(.ref a)] 1)) τ := fun τ kt => pre258 τ (st259 τ kt)
  have pre261 : ∀ τ, Steps p.tables e below (T259.setTop (mkF m 12 #[.val (.ref a)] [(.ref a)])) τ → Steps p.tables e below (s₁.setTop (entryFrame m #[(.ref a)] 1)) τ := fun τ kt => pre260 τ (by
    show Steps p.tables e below (T259.setTop (mkF m 8 #[.val (.ref a)] [(.int (0 : Int32)), (.int (3 : Int32))])) τ
    refine XS.icmpNo X259.here hx rfl (Jvm.hb hby d4_8) rfl (tlt (by decide)).2.2.2 ?_
    show Steps p.tables e below (T259.setTop (mkF m 11 #[.val (.ref a)] [])) τ
    refine XS.aloadN X259.here hx rfl (Jvm.hb hby d4_11) rfl rfl ?_
    exact kt)
  obtain ⟨T262, X262, e262, st262⟩ := getF X259 hx hZ hown (host := "") (Or.inl (hw _ (List.mem_of_getElem? (i := 13) rfl))) Via.refl e259 FV (g := (mkF m 12 #[.val (.ref a)] [(.ref a)])) rfl rfl (Jvm.hb hby d4_12)
  have pre263 : ∀ τ, Steps p.tables e below (T262.setTop (mkF m 15 #[.val (.ref a)] [(.ref B)])) τ → Steps p.tables e below (s₁.setTop (entryFrame m #[(.ref a)] 1)) τ := fun τ kt => pre261 τ (st262 τ kt)
  have pre264 : ∀ τ, Steps p.tables e below (T262.setTop (mkF m 16 #[.val (.ref a)] [(.ref a), (.ref B)])) τ → Steps p.tables e below (s₁.setTop (entryFrame m #[(.ref a)] 1)) τ := fun τ kt => pre263 τ (by
    show Steps p.tables e below (T262.setTop (mkF m 15 #[.val (.ref a)] [(.ref B)])) τ
    refine XS.aloadN X262.here hx rfl (Jvm.hb hby d4_15) rfl rfl ?_
    exact kt)
  obtain ⟨T265, X265, e265, st265⟩ := getF X262 hx hZ hown (host := "") (Or.inl (hw _ (List.mem_of_getElem? (i := 17) rfl))) Via.refl e262 FT (g := (mkF m 16 #[.val (.ref a)] [(.ref a), (.ref B)])) rfl rfl (Jvm.hb hby d4_16)
  have pre266 : ∀ τ, Steps p.tables e below (T265.setTop (mkF m 19 #[.val (.ref a)] [(.int (3 : Int32)), (.ref B)])) τ → Steps p.tables e below (s₁.setTop (entryFrame m #[(.ref a)] 1)) τ := fun τ kt => pre264 τ (st265 τ kt)
  have pre267 : ∀ τ, Steps p.tables e below (T265.setTop (mkF m 21 #[.val (.ref a)] [(.int (2 : Int32)), (.ref B)])) τ → Steps p.tables e below (s₁.setTop (entryFrame m #[(.ref a)] 1)) τ := fun τ kt => pre266 τ (by
    show Steps p.tables e below (T265.setTop (mkF m 19 #[.val (.ref a)] [(.int (3 : Int32)), (.ref B)])) τ
    refine XS.iconst X265.here hx rfl (Jvm.hb hby d4_19) ?_
    show Steps p.tables e below (T265.setTop (mkF m 20 #[.val (.ref a)] [(.int (1 : Int32)), (.int (3 : Int32)), (.ref B)])) τ
    refine XS.isub X265.here hx rfl (Jvm.hb hby d4_20) rfl ?_
    exact kt)
  obtain ⟨cl268, Ar268, q268, S268, M268, H268, U268⟩ := id VV
  have in268 : ¬ ((2 : Int32) < 0 ∨ cl268.slots.size ≤ ((2 : Int32)).toNatClampNeg) := inb_of S268 ⟨by decide, by decide⟩
  have pre269 : ∀ τ, Steps p.tables e below (T265.setTop (mkF m 28 #[.val (.ref a)] [(.double v2)])) τ → Steps p.tables e below (s₁.setTop (entryFrame m #[(.ref a)] 1)) τ := fun τ kt => pre267 τ (by
    show Steps p.tables e below (T265.setTop (mkF m 21 #[.val (.ref a)] [(.int (2 : Int32)), (.ref B)])) τ
    refine X265.daload hx (by rw [e265]; exact Ar268.1) (State.isArrayOf_alike hZ.alike Ar268.2.1) Ar268.2.2 in268 (H268.at in268 rfl) (g := (mkF m 21 #[.val (.ref a)] [(.int (2 : Int32)), (.ref B)])) rfl rfl (Jvm.hb hby d4_21) _ ?_
    show Steps p.tables e below (T265.setTop (mkF m 22 #[.val (.ref a)] [(.double v2)])) τ
    refine XS.goto X265.here hx rfl (pc0 := 22) (pc' := 28) rfl (Jvm.hb hby d4_22) (by decide) (by decide) ?_
    exact kt)
  obtain ⟨fs, hrL, hrun, hended, hW, hsame⟩ := X265.leave (v := some (.double v2)) (fun h => by rw [Bd.returns] at h; cases h)
  refine ⟨_, _, pre269 _ ?_, hrun, hended, _, _, rfl, ?_, ⟨_, rfl⟩, hW, hsame.mono (by decide) (by decide)⟩
  · show Steps p.tables e below (T265.setTop (mkF m 28 #[.val (.ref a)] [(.double v2)])) _
    exact own_retD X265 hx Bd.returns (Jvm.hb hby d4_28) hrL
  · show QD v2 h0 n0 _ T265.heap _
    rw [e265]
    exact ⟨rfl, N0, rfl⟩
theorem d6_0 : decode prog_3_method_4_code 0 = .ok (.aload_n 0, 1) := by decide +kernel
theorem d6_1 : decode prog_3_method_4_code 1 = .ok (.getfield 21, 3) := by decide +kernel
theorem d6_4 : decode prog_3_method_4_code 4 = .ok (.aload_n 0, 1) := by decide +kernel
theorem d6_5 : decode prog_3_method_4_code 5 = .ok (.getfield 17, 3) := by decide +kernel
theorem d6_8 : decode prog_3_method_4_code 8 = .ok (.if_icmp .le 31, 3) := by decide +kernel
theorem d6_11 : decode prog_3_method_4_code 11 = .ok (.aload_n 0, 1) := by decide +kernel
theorem d6_12 : decode prog_3_method_4_code 12 = .ok (.getfield 7, 3) := by decide +kernel
theorem d6_15 : decode prog_3_method_4_code 15 = .ok (.aload_n 0, 1) := by decide +kernel
theorem d6_16 : decode prog_3_method_4_code 16 = .ok (.getfield 21, 3) := by decide +kernel
theorem d6_19 : decode prog_3_method_4_code 19 = .ok (.iconst 1, 1) := by decide +kernel
theorem d6_20 : decode prog_3_method_4_code 20 = .ok (.isub, 1) := by decide +kernel
theorem d6_21 : decode prog_3_method_4_code 21 = .ok (.iaload, 1) := by decide +kernel
theorem d6_22 : decode prog_3_method_4_code 22 = .ok (.iload_n 1, 1) := by decide +kernel
theorem d6_23 : decode prog_3_method_4_code 23 = .ok (.if_icmp .le 16, 3) := by decide +kernel
theorem d6_26 : decode prog_3_method_4_code 26 = .ok (.aload_n 0, 1) := by decide +kernel
theorem d6_27 : decode prog_3_method_4_code 27 = .ok (.dup, 1) := by decide +kernel
theorem d6_28 : decode prog_3_method_4_code 28 = .ok (.getfield 21, 3) := by decide +kernel
theorem d6_31 : decode prog_3_method_4_code 31 = .ok (.iconst 1, 1) := by decide +kernel
theorem d6_32 : decode prog_3_method_4_code 32 = .ok (.isub, 1) := by decide +kernel
theorem d6_33 : decode prog_3_method_4_code 33 = .ok (.putfield 21, 3) := by decide +kernel
theorem d6_36 : decode prog_3_method_4_code 36 = .ok (.goto (-36), 3) := by decide +kernel
theorem d6_39 : decode prog_3_method_4_code 39 = .ok (.return_, 1) := by decide +kernel
theorem own_ef6 (m : MethodId) (x0 : Addr) (x1 : Int32) : entryFrame m #[(.ref x0), (.int x1)] 2 = mkF m 0 #[.val (.ref x0), .val (.int x1)] [] := by first | (simp [entryFrame, mkF, argsToLocals, Value.category]; done) | rfl
set_option maxRecDepth 65536 in
set_option maxHeartbeats 40000000 in
theorem rmRem_03_cx (l : Launch) (Z : State) (a0 : Array Value) (hw : ∀ d ∈ tables_1, d.before a0 Z = true) (ws : List Jvm.Cond) (a : Addr) (xs : Int32) (A B : Addr) (kA kB : ClassId) (s0 s1 s2 : Int32) (v0 v1 v2 : UInt64) (h0 : Heap) (n0 : Nat) (Z0 : n0 ≤ h0.size) (E7 : Exa Z h0 a "com/example/counterpath/counterpath/core/CappedMaximum") (FS : Fld Z h0 a "com/example/counterpath/counterpath/core/CappedMaximum" "samples" "[I" (.ref A)) (FV : Fld Z h0 a "com/example/counterpath/counterpath/core/CappedMaximum" "values" "[D" (.ref B)) (FH : Fld Z h0 a "com/example/counterpath/counterpath/core/CappedMaximum" "head" "I" (.int (0 : Int32))) (FT : Fld Z h0 a "com/example/counterpath/counterpath/core/CappedMaximum" "tail" "I" (.int (3 : Int32))) (VS : Arv Z h0 A kA .int (3 : Int32) [(.int s0), (.int s1), (.int s2)] (.int (0 : Int32))) (VV : Arv Z h0 B kB .double (3 : Int32) [(.double v0), (.double v1), (.double v2)] (.double (0 : UInt64))) (naA : a ≠ A) (naB : a ≠ B) (nAB : A ≠ B) (ga : n0 ≤ a) (gA : n0 ≤ A) (gB : n0 ≤ B) (pc0 : xs < s2) (pc1 : ¬ (xs < s1)) :
    MetFree l (⟨"com/example/counterpath/counterpath/core/CappedMaximum", "removeAfter", "(I)V"⟩ : MethodName) (head1 (Jvm.Cond.code (⟨"com/example/counterpath/counterpath/core/CappedMaximum", "removeAfter", "(I)V"⟩ : MethodName) prog_3_method_4_code 2 none :: ws) ({ frames := 0, cells := 0, slots := 0, locals := 0 } : Room)) (fun α U => α = #[(.ref a), (.int xs)] ∧ Z.Warmed39 U.vm ∧ U.heap = h0) (fun _ _ _ _ _ => True) (fun _ U ω U' => ∃ ν Λ, ω = .returned ν ∧ QC Z a A B kA kB (0 : Int32) (2 : Int32) [(.int s0), (.int s1), (.int s2)] [(.double v0), (.double v1), (.double v2)] h0 n0 ν U'.heap Λ ∧ FrameEnd U ω U' Λ ({ frames := 0, cells := 0, slots := 0, locals := 0 } : Room).cells ({ frames := 0, cells := 0, slots := 0, locals := 0 } : Room).slots) := by
  refine MetFree.of_bodySF (plainFor_of_name own_pn_com_example_counterpath_counterpath_core_CappedMaximum) hisR ?_
  intro p e s m args below meth c s₁ Bd hml0 hP hK
  obtain ⟨rfl, hZ, hh⟩ := hP
  have hx := Bd.exec
  have hby := Bd.bytes
  have hml : c.maxLocals = 2 := hml0
  have hown : s.vm.findClass "com/example/counterpath/counterpath/core/CappedMaximum" = some m.cls := findClass_of_methodNamed Bd.named
  have hnm := (name_of_methodNamed Bd.named Bd.method).1
  have X0 : Stand p l e ({ frames := 0, cells := 0, slots := 0, locals := 0 } : Room) s m #[(.ref a), (.int xs)] below meth c s₁ [] 0 0 := Stand.of_body Bd
  have e0 : s₁.heap = h0 := by rw [← hh, Bd.state]; rfl
  have N0 := Fr.nil n0
  have KK0 : Keep h0 h0 [a, A, B] := Keep.refl h0 [a, A, B]
  have pre0 : ∀ τ, Steps p.tables e below (s₁.setTop (mkF m 0 #[.val (.ref a), .val (.int xs)] [])) τ → Steps p.tables e below (s₁.setTop (entryFrame m #[(.ref a), (.int xs)] 2)) τ := fun τ κ => castTop (own_ef6 m a xs) κ
  have pre279 : ∀ τ, Steps p.tables e below (s₁.setTop (mkF m 1 #[.val (.ref a), .val (.int xs)] [(.ref a)])) τ → Steps p.tables e below (s₁.setTop (entryFrame m #[(.ref a), (.int xs)] 2)) τ := fun τ kt => pre0 τ (by
    show Steps p.tables e below (s₁.setTop (mkF m 0 #[.val (.ref a), .val (.int xs)] [])) τ
    refine XS.aloadN X0.here hx rfl (Jvm.hb hby d6_0) rfl rfl ?_
    exact kt)
  obtain ⟨T280, X280, e280, st280⟩ := getF X0 hx hZ hown (host := "") (Or.inl (hw _ (List.mem_of_getElem? (i := 17) rfl))) Via.refl e0 FT (g := (mkF m 1 #[.val (.ref a), .val (.int xs)] [(.ref a)])) rfl rfl (Jvm.hb hby d6_1)
  have pre281 : ∀ τ, Steps p.tables e below (T280.setTop (mkF m 4 #[.val (.ref a), .val (.int xs)] [(.int (3 : Int32))])) τ → Steps p.tables e below (s₁.setTop (entryFrame m #[(.ref a), (.int xs)] 2)) τ := fun τ kt => pre279 τ (st280 τ kt)
  have pre282 : ∀ τ, Steps p.tables e below (T280.setTop (mkF m 5 #[.val (.ref a), .val (.int xs)] [(.ref a), (.int (3 : Int32))])) τ → Steps p.tables e below (s₁.setTop (entryFrame m #[(.ref a), (.int xs)] 2)) τ := fun τ kt => pre281 τ (by
    show Steps p.tables e below (T280.setTop (mkF m 4 #[.val (.ref a), .val (.int xs)] [(.int (3 : Int32))])) τ
    refine XS.aloadN X280.here hx rfl (Jvm.hb hby d6_4) rfl rfl ?_
    exact kt)
  obtain ⟨T283, X283, e283, st283⟩ := getF X280 hx hZ hown (host := "") (Or.inl (hw _ (List.mem_of_getElem? (i := 15) rfl))) Via.refl e280 FH (g := (mkF m 5 #[.val (.ref a), .val (.int xs)] [(.ref a), (.int (3 : Int32))])) rfl rfl (Jvm.hb hby d6_5)
  have pre284 : ∀ τ, Steps p.tables e below (T283.setTop (mkF m 8 #[.val (.ref a), .val (.int xs)] [(.int (0 : Int32)), (.int (3 : Int32))])) τ → Steps p.tables e below (s₁.setTop (entryFrame m #[(.ref a), (.int xs)] 2)) τ := fun τ kt => pre282 τ (st283 τ kt)
  have pre285 : ∀ τ, Steps p.tables e below (T283.setTop (mkF m 12 #[.val (.ref a), .val (.int xs)] [(.ref a)])) τ → Steps p.tables e below (s₁.setTop (entryFrame m #[(.ref a), (.int xs)] 2)) τ := fun τ kt => pre284 τ (by
    show Steps p.tables e below (T283.setTop (mkF m 8 #[.val (.ref a), .val (.int xs)] [(.int (0 : Int32)), (.int (3 : Int32))])) τ
    refine XS.icmpNo X283.here hx rfl (Jvm.hb hby d6_8) rfl (tlt (by decide)).2.2.2 ?_
    show Steps p.tables e below (T283.setTop (mkF m 11 #[.val (.ref a), .val (.int xs)] [])) τ
    refine XS.aloadN X283.here hx rfl (Jvm.hb hby d6_11) rfl rfl ?_
    exact kt)
  obtain ⟨T286, X286, e286, st286⟩ := getF X283 hx hZ hown (host := "") (Or.inl (hw _ (List.mem_of_getElem? (i := 10) rfl))) Via.refl e283 FS (g := (mkF m 12 #[.val (.ref a), .val (.int xs)] [(.ref a)])) rfl rfl (Jvm.hb hby d6_12)
  have pre287 : ∀ τ, Steps p.tables e below (T286.setTop (mkF m 15 #[.val (.ref a), .val (.int xs)] [(.ref A)])) τ → Steps p.tables e below (s₁.setTop (entryFrame m #[(.ref a), (.int xs)] 2)) τ := fun τ kt => pre285 τ (st286 τ kt)
  have pre288 : ∀ τ, Steps p.tables e below (T286.setTop (mkF m 16 #[.val (.ref a), .val (.int xs)] [(.ref a), (.ref A)])) τ → Steps p.tables e below (s₁.setTop (entryFrame m #[(.ref a), (.int xs)] 2)) τ := fun τ kt => pre287 τ (by
    show Steps p.tables e below (T286.setTop (mkF m 15 #[.val (.ref a), .val (.int xs)] [(.ref A)])) τ
    refine XS.aloadN X286.here hx rfl (Jvm.hb hby d6_15) rfl rfl ?_
    exact kt)
  obtain ⟨T289, X289, e289, st289⟩ := getF X286 hx hZ hown (host := "") (Or.inl (hw _ (List.mem_of_getElem? (i := 17) rfl))) Via.refl e286 FT (g := (mkF m 16 #[.val (.ref a), .val (.int xs)] [(.ref a), (.ref A)])) rfl rfl (Jvm.hb hby d6_16)
  have pre290 : ∀ τ, Steps p.tables e below (T289.setTop (mkF m 19 #[.val (.ref a), .val (.int xs)] [(.int (3 : Int32)), (.ref A)])) τ → Steps p.tables e below (s₁.setTop (entryFrame m #[(.ref a), (.int xs)] 2)) τ := fun τ kt => pre288 τ (st289 τ kt)
  have pre291 : ∀ τ, Steps p.tables e below (T289.setTop (mkF m 21 #[.val (.ref a), .val (.int xs)] [(.int (2 : Int32)), (.ref A)])) τ → Steps p.tables e below (s₁.setTop (entryFrame m #[(.ref a), (.int xs)] 2)) τ := fun τ kt => pre290 τ (by
    show Steps p.tables e below (T289.setTop (mkF m 19 #[.val (.ref a), .val (.int xs)] [(.int (3 : Int32)), (.ref A)])) τ
    refine XS.iconst X289.here hx rfl (Jvm.hb hby d6_19) ?_
    show Steps p.tables e below (T289.setTop (mkF m 20 #[.val (.ref a), .val (.int xs)] [(.int (1 : Int32)), (.int (3 : Int32)), (.ref A)])) τ
    refine XS.isub X289.here hx rfl (Jvm.hb hby d6_20) rfl ?_
    exact kt)
  obtain ⟨cl292, Ar292, q292, S292, M292, H292, U292⟩ := id VS
  have in292 : ¬ ((2 : Int32) < 0 ∨ cl292.slots.size ≤ ((2 : Int32)).toNatClampNeg) := inb_of S292 ⟨by decide, by decide⟩
  have pre293 : ∀ τ, Steps p.tables e below (T289.setTop (mkF m 28 #[.val (.ref a), .val (.int xs)] [(.ref a), (.ref a)])) τ → Steps p.tables e below (s₁.setTop (entryFrame m #[(.ref a), (.int xs)] 2)) τ := fun τ kt => pre291 τ (by
    show Steps p.tables e below (T289.setTop (mkF m 21 #[.val (.ref a), .val (.int xs)] [(.int (2 : Int32)), (.ref A)])) τ
    refine X289.iaload hx (by rw [e289]; exact Ar292.1) (State.isArrayOf_alike hZ.alike Ar292.2.1) Ar292.2.2 in292 (H292.at in292 rfl) (g := (mkF m 21 #[.val (.ref a), .val (.int xs)] [(.int (2 : Int32)), (.ref A)])) rfl rfl (Jvm.hb hby d6_21) _ ?_
    show Steps p.tables e below (T289.setTop (mkF m 22 #[.val (.ref a), .val (.int xs)] [(.int s2)])) τ
    refine XS.iloadN X289.here hx rfl (Jvm.hb hby d6_22) rfl ?_
    show Steps p.tables e below (T289.setTop (mkF m 23 #[.val (.ref a), .val (.int xs)] [(.int xs), (.int s2)])) τ
    refine XS.icmpNo X289.here hx rfl (Jvm.hb hby d6_23) rfl (tlt pc0).2.2.2 ?_
    show Steps p.tables e below (T289.setTop (mkF m 26 #[.val (.ref a), .val (.int xs)] [])) τ
    refine XS.aloadN X289.here hx rfl (Jvm.hb hby d6_26) rfl rfl ?_
    show Steps p.tables e below (T289.setTop (mkF m 27 #[.val (.ref a), .val (.int xs)] [(.ref a)])) τ
    refine XS.dup X289.here hx rfl (Jvm.hb hby d6_27) rfl rfl ?_
    exact kt)
  obtain ⟨T294, X294, e294, st294⟩ := getF X289 hx hZ hown (host := "") (Or.inl (hw _ (List.mem_of_getElem? (i := 17) rfl))) Via.refl e289 FT (g := (mkF m 28 #[.val (.ref a), .val (.int xs)] [(.ref a), (.ref a)])) rfl rfl (Jvm.hb hby d6_28)
  have pre295 : ∀ τ, Steps p.tables e below (T294.setTop (mkF m 31 #[.val (.ref a), .val (.int xs)] [(.int (3 : Int32)), (.ref a)])) τ → Steps p.tables e below (s₁.setTop (entryFrame m #[(.ref a), (.int xs)] 2)) τ := fun τ kt => pre293 τ (st294 τ kt)
  have pre296 : ∀ τ, Steps p.tables e below (T294.setTop (mkF m 33 #[.val (.ref a), .val (.int xs)] [(.int (2 : Int32)), (.ref a)])) τ → Steps p.tables e below (s₁.setTop (entryFrame m #[(.ref a), (.int xs)] 2)) τ := fun τ kt => pre295 τ (by
    show Steps p.tables e below (T294.setTop (mkF m 31 #[.val (.ref a), .val (.int xs)] [(.int (3 : Int32)), (.ref a)])) τ
    refine XS.iconst X294.here hx rfl (Jvm.hb hby d6_31) ?_
    show Steps p.tables e below (T294.setTop (mkF m 32 #[.val (.ref a), .val (.int xs)] [(.int (1 : Int32)), (.int (3 : Int32)), (.ref a)])) τ
    refine XS.isub X294.here hx rfl (Jvm.hb hby d6_32) rfl ?_
    exact kt)
  obtain ⟨T297, h297, X297, e297, W297, st297⟩ := putF X294 hx hZ hown (host := "") (Or.inl (hw _ (List.mem_of_getElem? (i := 17) rfl))) Via.refl e294 FT E7 (Or.inl (hw _ (List.mem_of_getElem? (i := 18) rfl))) (hw _ (List.mem_of_getElem? (i := 1) rfl)) (ty := .int) (by decide) rfl rfl (g := (mkF m 33 #[.val (.ref a), .val (.int xs)] [(.int (2 : Int32)), (.ref a)])) rfl rfl (Jvm.hb hby d6_33)
  have fw297 := Fld.same W297 FT
  have N297 := Fr.snoc X297 N0 ga
  have K297 : Keep h0 h297 [a, A, B] := KK0.wr W297 (Or.inl (by simp))
  have pre298 : ∀ τ, Steps p.tables e below (T297.setTop (mkF m 36 #[.val (.ref a), .val (.int xs)] [])) τ → Steps p.tables e below (s₁.setTop (entryFrame m #[(.ref a), (.int xs)] 2)) τ := fun τ kt => pre296 τ (st297 τ kt)
  have pre299 : ∀ τ, Steps p.tables e below (T297.setTop (mkF m 1 #[.val (.ref a), .val (.int xs)] [(.ref a)])) τ → Steps p.tables e below (s₁.setTop (entryFrame m #[(.ref a), (.int xs)] 2)) τ := fun τ kt => pre298 τ (by
    show Steps p.tables e below (T297.setTop (mkF m 36 #[.val (.ref a), .val (.int xs)] [])) τ
    refine XS.goto X297.here hx rfl (pc0 := 36) (pc' := 0) rfl (Jvm.hb hby d6_36) (by decide) (by decide) ?_
    show Steps p.tables e below (T297.setTop (mkF m 0 #[.val (.ref a), .val (.int xs)] [])) τ
    refine XS.aloadN X297.here hx rfl (Jvm.hb hby d6_0) rfl rfl ?_
    exact kt)
  obtain ⟨T300, X300, e300, st300⟩ := getF X297 hx hZ hown (host := "") (Or.inl (hw _ (List.mem_of_getElem? (i := 17) rfl))) Via.refl e297 fw297 (g := (mkF m 1 #[.val (.ref a), .val (.int xs)] [(.ref a)])) rfl rfl (Jvm.hb hby d6_1)
  have pre301 : ∀ τ, Steps p.tables e below (T300.setTop (mkF m 4 #[.val (.ref a), .val (.int xs)] [(.int (2 : Int32))])) τ → Steps p.tables e below (s₁.setTop (entryFrame m #[(.ref a), (.int xs)] 2)) τ := fun τ kt => pre299 τ (st300 τ kt)
  have pre302 : ∀ τ, Steps p.tables e below (T300.setTop (mkF m 5 #[.val (.ref a), .val (.int xs)] [(.ref a), (.int (2 : Int32))])) τ → Steps p.tables e below (s₁.setTop (entryFrame m #[(.ref a), (.int xs)] 2)) τ := fun τ kt => pre301 τ (by
    show Steps p.tables e below (T300.setTop (mkF m 4 #[.val (.ref a), .val (.int xs)] [(.int (2 : Int32))])) τ
    refine XS.aloadN X300.here hx rfl (Jvm.hb hby d6_4) rfl rfl ?_
    exact kt)
  have f304 := (FH.other W297 (Or.inr (slot_ne (Or.inl (hw _ (List.mem_of_getElem? (i := 16) rfl))) (Or.inl (hw _ (List.mem_of_getElem? (i := 18) rfl))) (by decide) (t := .int) (t' := .int) (by decide) (by decide))))
  obtain ⟨T303, X303, e303, st303⟩ := getF X300 hx hZ hown (host := "") (Or.inl (hw _ (List.mem_of_getElem? (i := 15) rfl))) Via.refl e300 f304 (g := (mkF m 5 #[.val (.ref a), .val (.int xs)] [(.ref a), (.int (2 : Int32))])) rfl rfl (Jvm.hb hby d6_5)
  have pre305 : ∀ τ, Steps p.tables e below (T303.setTop (mkF m 8 #[.val (.ref a), .val (.int xs)] [(.int (0 : Int32)), (.int (2 : Int32))])) τ → Steps p.tables e below (s₁.setTop (entryFrame m #[(.ref a), (.int xs)] 2)) τ := fun τ kt => pre302 τ (st303 τ kt)
  have pre306 : ∀ τ, Steps p.tables e below (T303.setTop (mkF m 12 #[.val (.ref a), .val (.int xs)] [(.ref a)])) τ → Steps p.tables e below (s₁.setTop (entryFrame m #[(.ref a), (.int xs)] 2)) τ := fun τ kt => pre305 τ (by
    show Steps p.tables e below (T303.setTop (mkF m 8 #[.val (.ref a), .val (.int xs)] [(.int (0 : Int32)), (.int (2 : Int32))])) τ
    refine XS.icmpNo X303.here hx rfl (Jvm.hb hby d6_8) rfl (tlt (by decide)).2.2.2 ?_
    show Steps p.tables e below (T303.setTop (mkF m 11 #[.val (.ref a), .val (.int xs)] [])) τ
    refine XS.aloadN X303.here hx rfl (Jvm.hb hby d6_11) rfl rfl ?_
    exact kt)
  have f308 := (FS.other W297 (Or.inr (slot_ne (Or.inr (hw _ (List.mem_of_getElem? (i := 11) rfl))) (Or.inl (hw _ (List.mem_of_getElem? (i := 18) rfl))) (by decide) (t := (.array .int)) (t' := .int) (by decide) (by decide))))
  obtain ⟨T307, X307, e307, st307⟩ := getF X303 hx hZ hown (host := "") (Or.inl (hw _ (List.mem_of_getElem? (i := 10) rfl))) Via.refl e303 f308 (g := (mkF m 12 #[.val (.ref a), .val (.int xs)] [(.ref a)])) rfl rfl (Jvm.hb hby d6_12)
  have pre309 : ∀ τ, Steps p.tables e below (T307.setTop (mkF m 15 #[.val (.ref a), .val (.int xs)] [(.ref A)])) τ → Steps p.tables e below (s₁.setTop (entryFrame m #[(.ref a), (.int xs)] 2)) τ := fun τ kt => pre306 τ (st307 τ kt)
  have pre310 : ∀ τ, Steps p.tables e below (T307.setTop (mkF m 16 #[.val (.ref a), .val (.int xs)] [(.ref a), (.ref A)])) τ → Steps p.tables e below (s₁.setTop (entryFrame m #[(.ref a), (.int xs)] 2)) τ := fun τ kt => pre309 τ (by
    show Steps p.tables e below (T307.setTop (mkF m 15 #[.val (.ref a), .val (.int xs)] [(.ref A)])) τ
    refine XS.aloadN X307.here hx rfl (Jvm.hb hby d6_15) rfl rfl ?_
    exact kt)
  obtain ⟨T311, X311, e311, st311⟩ := getF X307 hx hZ hown (host := "") (Or.inl (hw _ (List.mem_of_getElem? (i := 17) rfl))) Via.refl e307 fw297 (g := (mkF m 16 #[.val (.ref a), .val (.int xs)] [(.ref a), (.ref A)])) rfl rfl (Jvm.hb hby d6_16)
  have pre312 : ∀ τ, Steps p.tables e below (T311.setTop (mkF m 19 #[.val (.ref a), .val (.int xs)] [(.int (2 : Int32)), (.ref A)])) τ → Steps p.tables e below (s₁.setTop (entryFrame m #[(.ref a), (.int xs)] 2)) τ := fun τ kt => pre310 τ (st311 τ kt)
  have pre313 : ∀ τ, Steps p.tables e below (T311.setTop (mkF m 21 #[.val (.ref a), .val (.int xs)] [(.int (1 : Int32)), (.ref A)])) τ → Steps p.tables e below (s₁.setTop (entryFrame m #[(.ref a), (.int xs)] 2)) τ := fun τ kt => pre312 τ (by
    show Steps p.tables e below (T311.setTop (mkF m 19 #[.val (.ref a), .val (.int xs)] [(.int (2 : Int32)), (.ref A)])) τ
    refine XS.iconst X311.here hx rfl (Jvm.hb hby d6_19) ?_
    show Steps p.tables e below (T311.setTop (mkF m 20 #[.val (.ref a), .val (.int xs)] [(.int (1 : Int32)), (.int (2 : Int32)), (.ref A)])) τ
    refine XS.isub X311.here hx rfl (Jvm.hb hby d6_20) rfl ?_
    exact kt)
  have f314 := VS.other W297 (Ne.symm naA)
  obtain ⟨cl315, Ar315, q315, S315, M315, H315, U315⟩ := id f314
  have in315 : ¬ ((1 : Int32) < 0 ∨ cl315.slots.size ≤ ((1 : Int32)).toNatClampNeg) := inb_of S315 ⟨by decide, by decide⟩
  have f316 := (FV.other W297 (Or.inr (slot_ne (Or.inr (hw _ (List.mem_of_getElem? (i := 14) rfl))) (Or.inl (hw _ (List.mem_of_getElem? (i := 18) rfl))) (by decide) (t := (.array .double)) (t' := .int) (by decide) (by decide))))
  have f317 := VV.other W297 (Ne.symm naB)
  have pre318 : ∀ τ, Steps p.tables e below (T311.setTop (mkF m 39 #[.val (.ref a), .val (.int xs)] [])) τ → Steps p.tables e below (s₁.setTop (entryFrame m #[(.ref a), (.int xs)] 2)) τ := fun τ kt => pre313 τ (by
    show Steps p.tables e below (T311.setTop (mkF m 21 #[.val (.ref a), .val (.int xs)] [(.int (1 : Int32)), (.ref A)])) τ
    refine X311.iaload hx (by rw [e311]; exact Ar315.1) (State.isArrayOf_alike hZ.alike Ar315.2.1) Ar315.2.2 in315 (H315.at in315 rfl) (g := (mkF m 21 #[.val (.ref a), .val (.int xs)] [(.int (1 : Int32)), (.ref A)])) rfl rfl (Jvm.hb hby d6_21) _ ?_
    show Steps p.tables e below (T311.setTop (mkF m 22 #[.val (.ref a), .val (.int xs)] [(.int s1)])) τ
    refine XS.iloadN X311.here hx rfl (Jvm.hb hby d6_22) rfl ?_
    show Steps p.tables e below (T311.setTop (mkF m 23 #[.val (.ref a), .val (.int xs)] [(.int xs), (.int s1)])) τ
    refine XS.icmpYes X311.here hx rfl (pc0 := 23) (pc' := 39) rfl (Jvm.hb hby d6_23) rfl (flt pc1).2.2.2 (by decide) (by decide) ?_
    exact kt)
  obtain ⟨fs, hrL, hrun, hended, hW, hsame⟩ := X311.leave (v := none) (fun _ => rfl)
  refine ⟨_, _, pre318 _ ?_, hrun, hended, _, _, rfl, ?_, ⟨_, rfl⟩, hW, hsame.mono (by decide) (by decide)⟩
  · show Steps p.tables e below (T311.setTop (mkF m 39 #[.val (.ref a), .val (.int xs)] [])) _
    exact X311.returnOut hx Bd.returns (Jvm.hb hby d6_39) hrL
  · show QC Z a A B kA kB (0 : Int32) (2 : Int32) [(.int s0), (.int s1), (.int s2)] [(.double v0), (.double v1), (.double v2)] h0 n0 _ T311.heap _
    rw [e311]
    exact ⟨rfl, N297, K297, f308, f316, f304, fw297, f314, f317⟩
set_option maxRecDepth 65536 in
set_option maxHeartbeats 40000000 in
theorem rmMax_02 (l : Launch) (Z : State) (a0 : Array Value) (hw : ∀ d ∈ tables_1, d.before a0 Z = true) (ws : List Jvm.Cond) (a : Addr) (A B : Addr) (kA kB : ClassId) (s0 s1 s2 : Int32) (v0 v1 v2 : UInt64) (h0 : Heap) (n0 : Nat) (Z0 : n0 ≤ h0.size) (E7 : Exa Z h0 a "com/example/counterpath/counterpath/core/CappedMaximum") (FS : Fld Z h0 a "com/example/counterpath/counterpath/core/CappedMaximum" "samples" "[I" (.ref A)) (FV : Fld Z h0 a "com/example/counterpath/counterpath/core/CappedMaximum" "values" "[D" (.ref B)) (FH : Fld Z h0 a "com/example/counterpath/counterpath/core/CappedMaximum" "head" "I" (.int (0 : Int32))) (FT : Fld Z h0 a "com/example/counterpath/counterpath/core/CappedMaximum" "tail" "I" (.int (2 : Int32))) (VS : Arv Z h0 A kA .int (3 : Int32) [(.int s0), (.int s1), (.int s2)] (.int (0 : Int32))) (VV : Arv Z h0 B kB .double (3 : Int32) [(.double v0), (.double v1), (.double v2)] (.double (0 : UInt64))) (naA : a ≠ A) (naB : a ≠ B) (nAB : A ≠ B) (ga : n0 ≤ a) (gA : n0 ≤ A) (gB : n0 ≤ B)  :
    MetFree l (⟨"com/example/counterpath/counterpath/core/CappedMaximum", "maximum", "()D"⟩ : MethodName) (head1 (Jvm.Cond.code (⟨"com/example/counterpath/counterpath/core/CappedMaximum", "maximum", "()D"⟩ : MethodName) prog_3_method_5_code 1 (some .double) :: ws) ({ frames := 0, cells := 0, slots := 0, locals := 0 } : Room)) (fun α U => α = #[(.ref a)] ∧ Z.Warmed39 U.vm ∧ U.heap = h0) (fun _ _ _ _ _ => True) (fun _ U ω U' => ∃ ν Λ, ω = .returned ν ∧ QD v1 h0 n0 ν U'.heap Λ ∧ FrameEnd U ω U' Λ ({ frames := 0, cells := 0, slots := 0, locals := 0 } : Room).cells ({ frames := 0, cells := 0, slots := 0, locals := 0 } : Room).slots) := by
  refine MetFree.of_bodySF (plainFor_of_name own_pn_com_example_counterpath_counterpath_core_CappedMaximum) hisR ?_
  intro p e s m args below meth c s₁ Bd hml0 hP hK
  obtain ⟨rfl, hZ, hh⟩ := hP
  have hx := Bd.exec
  have hby := Bd.bytes
  have hml : c.maxLocals = 1 := hml0
  have hown : s.vm.findClass "com/example/counterpath/counterpath/core/CappedMaximum" = some m.cls := findClass_of_methodNamed Bd.named
  have hnm := (name_of_methodNamed Bd.named Bd.method).1
  have X0 : Stand p l e ({ frames := 0, cells := 0, slots := 0, locals := 0 } : Room) s m #[(.ref a)] below meth c s₁ [] 0 0 := Stand.of_body Bd
  have e0 : s₁.heap = h0 := by rw [← hh, Bd.state]; rfl
  have N0 := Fr.nil n0
  have KK0 : Keep h0 h0 [] := Keep.refl h0 []
  have pre0 : ∀ τ, Steps p.tables e below (s₁.setTop (mkF m 0 #[.val (.ref a)] [])) τ → Steps p.tables e below (s₁.setTop (entryFrame m #[(.ref a)] 1)) τ := fun τ κ => castTop (own_ef4 m a) κ
  have pre322 : ∀ τ, Steps p.tables e below (s₁.setTop (mkF m 1 #[.val (.ref a)] [(.ref a)])) τ → Steps p.tables e below (s₁.setTop (entryFrame m #[(.ref a)] 1)) τ := fun τ kt => pre0 τ (by
    show Steps p.tables e below (s₁.setTop (mkF m 0 #[.val (.ref a)] [])) τ
    refine XS.aloadN X0.here hx rfl (Jvm.hb hby d4_0) rfl rfl ?_
    exact kt)
  obtain ⟨T323, X323, e323, st323⟩ := getF X0 hx hZ hown (host := "") (Or.inl (hw _ (List.mem_of_getElem? (i := 17) rfl))) Via.refl e0 FT (g := (mkF m 1 #[.val (.ref a)] [(.ref a)])) rfl rfl (Jvm.hb hby d4_1)
  have pre324 : ∀ τ, Steps p.tables e below (T323.setTop (mkF m 4 #[.val (.ref a)] [(.int (2 : Int32))])) τ → Steps p.tables e below (s₁.setTop (entryFrame m #[(.ref a)] 1)) τ := fun τ kt => pre322 τ (st323 τ kt)
  have pre325 : ∀ τ, Steps p.tables e below (T323.setTop (mkF m 5 #[.val (.ref a)] [(.ref a), (.int (2 : Int32))])) τ → Steps p.tables e below (s₁.setTop (entryFrame m #[(.ref a)] 1)) τ := fun τ kt => pre324 τ (by
    show Steps p.tables e below (T323.setTop (mkF m 4 #[.val (.ref a)] [(.int (2 : Int32))])) τ
    refine XS.aloadN X323.here hx rfl (Jvm.hb hby d4_4) rfl rfl ?_
    exact kt)
  obtain ⟨T326, X326, e326, st326⟩ := getF X323 hx hZ hown (host := "") (Or.inl (hw _ (List.mem_of_getElem? (i := 15) rfl))) Via.refl e323 FH (g := (mkF m 5 #[.val (.ref a)] [(.ref a), (.int (2 : Int32))])) rfl rfl (Jvm.hb hby d4_5)
  have pre327 : ∀ τ, Steps p.tables e below (T326.setTop (mkF m 8 #[.val (.ref a)] [(.int (0 : Int32)), (.int (2 : Int32))])) τ → Steps p.tables e below (s₁.setTop (entryFrame m #[(.ref a)] 1)) τ := fun τ kt => pre325 τ (st326 τ kt)
  have pre328 : ∀ τ, Steps p.tables e below (T326.setTop (mkF m 12 #[.val (.ref a)] [(.ref a)])) τ → Steps p.tables e below (s₁.setTop (entryFrame m #[(.ref a)] 1)) τ := fun τ kt => pre327 τ (by
    show Steps p.tables e below (T326.setTop (mkF m 8 #[.val (.ref a)] [(.int (0 : Int32)), (.int (2 : Int32))])) τ
    refine XS.icmpNo X326.here hx rfl (Jvm.hb hby d4_8) rfl (tlt (by decide)).2.2.2 ?_
    show Steps p.tables e below (T326.setTop (mkF m 11 #[.val (.ref a)] [])) τ
    refine XS.aloadN X326.here hx rfl (Jvm.hb hby d4_11) rfl rfl ?_
    exact kt)
  obtain ⟨T329, X329, e329, st329⟩ := getF X326 hx hZ hown (host := "") (Or.inl (hw _ (List.mem_of_getElem? (i := 13) rfl))) Via.refl e326 FV (g := (mkF m 12 #[.val (.ref a)] [(.ref a)])) rfl rfl (Jvm.hb hby d4_12)
  have pre330 : ∀ τ, Steps p.tables e below (T329.setTop (mkF m 15 #[.val (.ref a)] [(.ref B)])) τ → Steps p.tables e below (s₁.setTop (entryFrame m #[(.ref a)] 1)) τ := fun τ kt => pre328 τ (st329 τ kt)
  have pre331 : ∀ τ, Steps p.tables e below (T329.setTop (mkF m 16 #[.val (.ref a)] [(.ref a), (.ref B)])) τ → Steps p.tables e below (s₁.setTop (entryFrame m #[(.ref a)] 1)) τ := fun τ kt => pre330 τ (by
    show Steps p.tables e below (T329.setTop (mkF m 15 #[.val (.ref a)] [(.ref B)])) τ
    refine XS.aloadN X329.here hx rfl (Jvm.hb hby d4_15) rfl rfl ?_
    exact kt)
  obtain ⟨T332, X332, e332, st332⟩ := getF X329 hx hZ hown (host := "") (Or.inl (hw _ (List.mem_of_getElem? (i := 17) rfl))) Via.refl e329 FT (g := (mkF m 16 #[.val (.ref a)] [(.ref a), (.ref B)])) rfl rfl (Jvm.hb hby d4_16)
  have pre333 : ∀ τ, Steps p.tables e below (T332.setTop (mkF m 19 #[.val (.ref a)] [(.int (2 : Int32)), (.ref B)])) τ → Steps p.tables e below (s₁.setTop (entryFrame m #[(.ref a)] 1)) τ := fun τ kt => pre331 τ (st332 τ kt)
  have pre334 : ∀ τ, Steps p.tables e below (T332.setTop (mkF m 21 #[.val (.ref a)] [(.int (1 : Int32)), (.ref B)])) τ → Steps p.tables e below (s₁.setTop (entryFrame m #[(.ref a)] 1)) τ := fun τ kt => pre333 τ (by
    show Steps p.tables e below (T332.setTop (mkF m 19 #[.val (.ref a)] [(.int (2 : Int32)), (.ref B)])) τ
    refine XS.iconst X332.here hx rfl (Jvm.hb hby d4_19) ?_
    show Steps p.tables e below (T332.setTop (mkF m 20 #[.val (.ref a)] [(.int (1 : Int32)), (.int (2 : Int32)), (.ref B)])) τ
    refine XS.isub X332.here hx rfl (Jvm.hb hby d4_20) rfl ?_
    exact kt)
  obtain ⟨cl335, Ar335, q335, S335, M335, H335, U335⟩ := id VV
  have in335 : ¬ ((1 : Int32) < 0 ∨ cl335.slots.size ≤ ((1 : Int32)).toNatClampNeg) := inb_of S335 ⟨by decide, by decide⟩
  have pre336 : ∀ τ, Steps p.tables e below (T332.setTop (mkF m 28 #[.val (.ref a)] [(.double v1)])) τ → Steps p.tables e below (s₁.setTop (entryFrame m #[(.ref a)] 1)) τ := fun τ kt => pre334 τ (by
    show Steps p.tables e below (T332.setTop (mkF m 21 #[.val (.ref a)] [(.int (1 : Int32)), (.ref B)])) τ
    refine X332.daload hx (by rw [e332]; exact Ar335.1) (State.isArrayOf_alike hZ.alike Ar335.2.1) Ar335.2.2 in335 (H335.at in335 rfl) (g := (mkF m 21 #[.val (.ref a)] [(.int (1 : Int32)), (.ref B)])) rfl rfl (Jvm.hb hby d4_21) _ ?_
    show Steps p.tables e below (T332.setTop (mkF m 22 #[.val (.ref a)] [(.double v1)])) τ
    refine XS.goto X332.here hx rfl (pc0 := 22) (pc' := 28) rfl (Jvm.hb hby d4_22) (by decide) (by decide) ?_
    exact kt)
  obtain ⟨fs, hrL, hrun, hended, hW, hsame⟩ := X332.leave (v := some (.double v1)) (fun h => by rw [Bd.returns] at h; cases h)
  refine ⟨_, _, pre336 _ ?_, hrun, hended, _, _, rfl, ?_, ⟨_, rfl⟩, hW, hsame.mono (by decide) (by decide)⟩
  · show Steps p.tables e below (T332.setTop (mkF m 28 #[.val (.ref a)] [(.double v1)])) _
    exact own_retD X332 hx Bd.returns (Jvm.hb hby d4_28) hrL
  · show QD v1 h0 n0 _ T332.heap _
    rw [e332]
    exact ⟨rfl, N0, rfl⟩
set_option maxRecDepth 65536 in
set_option maxHeartbeats 40000000 in
theorem rmRem_02_cx (l : Launch) (Z : State) (a0 : Array Value) (hw : ∀ d ∈ tables_1, d.before a0 Z = true) (ws : List Jvm.Cond) (a : Addr) (xs : Int32) (A B : Addr) (kA kB : ClassId) (s0 s1 s2 : Int32) (v0 v1 v2 : UInt64) (h0 : Heap) (n0 : Nat) (Z0 : n0 ≤ h0.size) (E7 : Exa Z h0 a "com/example/counterpath/counterpath/core/CappedMaximum") (FS : Fld Z h0 a "com/example/counterpath/counterpath/core/CappedMaximum" "samples" "[I" (.ref A)) (FV : Fld Z h0 a "com/example/counterpath/counterpath/core/CappedMaximum" "values" "[D" (.ref B)) (FH : Fld Z h0 a "com/example/counterpath/counterpath/core/CappedMaximum" "head" "I" (.int (0 : Int32))) (FT : Fld Z h0 a "com/example/counterpath/counterpath/core/CappedMaximum" "tail" "I" (.int (2 : Int32))) (VS : Arv Z h0 A kA .int (3 : Int32) [(.int s0), (.int s1), (.int s2)] (.int (0 : Int32))) (VV : Arv Z h0 B kB .double (3 : Int32) [(.double v0), (.double v1), (.double v2)] (.double (0 : UInt64))) (naA : a ≠ A) (naB : a ≠ B) (nAB : A ≠ B) (ga : n0 ≤ a) (gA : n0 ≤ A) (gB : n0 ≤ B) (pc0 : xs < s1) (pc1 : ¬ (xs < s0)) :
    MetFree l (⟨"com/example/counterpath/counterpath/core/CappedMaximum", "removeAfter", "(I)V"⟩ : MethodName) (head1 (Jvm.Cond.code (⟨"com/example/counterpath/counterpath/core/CappedMaximum", "removeAfter", "(I)V"⟩ : MethodName) prog_3_method_4_code 2 none :: ws) ({ frames := 0, cells := 0, slots := 0, locals := 0 } : Room)) (fun α U => α = #[(.ref a), (.int xs)] ∧ Z.Warmed39 U.vm ∧ U.heap = h0) (fun _ _ _ _ _ => True) (fun _ U ω U' => ∃ ν Λ, ω = .returned ν ∧ QC Z a A B kA kB (0 : Int32) (1 : Int32) [(.int s0), (.int s1), (.int s2)] [(.double v0), (.double v1), (.double v2)] h0 n0 ν U'.heap Λ ∧ FrameEnd U ω U' Λ ({ frames := 0, cells := 0, slots := 0, locals := 0 } : Room).cells ({ frames := 0, cells := 0, slots := 0, locals := 0 } : Room).slots) := by
  refine MetFree.of_bodySF (plainFor_of_name own_pn_com_example_counterpath_counterpath_core_CappedMaximum) hisR ?_
  intro p e s m args below meth c s₁ Bd hml0 hP hK
  obtain ⟨rfl, hZ, hh⟩ := hP
  have hx := Bd.exec
  have hby := Bd.bytes
  have hml : c.maxLocals = 2 := hml0
  have hown : s.vm.findClass "com/example/counterpath/counterpath/core/CappedMaximum" = some m.cls := findClass_of_methodNamed Bd.named
  have hnm := (name_of_methodNamed Bd.named Bd.method).1
  have X0 : Stand p l e ({ frames := 0, cells := 0, slots := 0, locals := 0 } : Room) s m #[(.ref a), (.int xs)] below meth c s₁ [] 0 0 := Stand.of_body Bd
  have e0 : s₁.heap = h0 := by rw [← hh, Bd.state]; rfl
  have N0 := Fr.nil n0
  have KK0 : Keep h0 h0 [a, A, B] := Keep.refl h0 [a, A, B]
  have pre0 : ∀ τ, Steps p.tables e below (s₁.setTop (mkF m 0 #[.val (.ref a), .val (.int xs)] [])) τ → Steps p.tables e below (s₁.setTop (entryFrame m #[(.ref a), (.int xs)] 2)) τ := fun τ κ => castTop (own_ef6 m a xs) κ
  have pre344 : ∀ τ, Steps p.tables e below (s₁.setTop (mkF m 1 #[.val (.ref a), .val (.int xs)] [(.ref a)])) τ → Steps p.tables e below (s₁.setTop (entryFrame m #[(.ref a), (.int xs)] 2)) τ := fun τ kt => pre0 τ (by
    show Steps p.tables e below (s₁.setTop (mkF m 0 #[.val (.ref a), .val (.int xs)] [])) τ
    refine XS.aloadN X0.here hx rfl (Jvm.hb hby d6_0) rfl rfl ?_
    exact kt)
  obtain ⟨T345, X345, e345, st345⟩ := getF X0 hx hZ hown (host := "") (Or.inl (hw _ (List.mem_of_getElem? (i := 17) rfl))) Via.refl e0 FT (g := (mkF m 1 #[.val (.ref a), .val (.int xs)] [(.ref a)])) rfl rfl (Jvm.hb hby d6_1)
  have pre346 : ∀ τ, Steps p.tables e below (T345.setTop (mkF m 4 #[.val (.ref a), .val (.int xs)] [(.int (2 : Int32))])) τ → Steps p.tables e below (s₁.setTop (entryFrame m #[(.ref a), (.int xs)] 2)) τ := fun τ kt => pre344 τ (st345 τ kt)
  have pre347 : ∀ τ, Steps p.tables e below (T345.setTop (mkF m 5 #[.val (.ref a), .val (.int xs)] [(.ref a), (.int (2 : Int32))])) τ → Steps p.tables e below (s₁.setTop (entryFrame m #[(.ref a), (.int xs)] 2)) τ := fun τ kt => pre346 τ (by
    show Steps p.tables e below (T345.setTop (mkF m 4 #[.val (.ref a), .val (.int xs)] [(.int (2 : Int32))])) τ
    refine XS.aloadN X345.here hx rfl (Jvm.hb hby d6_4) rfl rfl ?_
    exact kt)
  obtain ⟨T348, X348, e348, st348⟩ := getF X345 hx hZ hown (host := "") (Or.inl (hw _ (List.mem_of_getElem? (i := 15) rfl))) Via.refl e345 FH (g := (mkF m 5 #[.val (.ref a), .val (.int xs)] [(.ref a), (.int (2 : Int32))])) rfl rfl (Jvm.hb hby d6_5)
  have pre349 : ∀ τ, Steps p.tables e below (T348.setTop (mkF m 8 #[.val (.ref a), .val (.int xs)] [(.int (0 : Int32)), (.int (2 : Int32))])) τ → Steps p.tables e below (s₁.setTop (entryFrame m #[(.ref a), (.int xs)] 2)) τ := fun τ kt => pre347 τ (st348 τ kt)
  have pre350 : ∀ τ, Steps p.tables e below (T348.setTop (mkF m 12 #[.val (.ref a), .val (.int xs)] [(.ref a)])) τ → Steps p.tables e below (s₁.setTop (entryFrame m #[(.ref a), (.int xs)] 2)) τ := fun τ kt => pre349 τ (by
    show Steps p.tables e below (T348.setTop (mkF m 8 #[.val (.ref a), .val (.int xs)] [(.int (0 : Int32)), (.int (2 : Int32))])) τ
    refine XS.icmpNo X348.here hx rfl (Jvm.hb hby d6_8) rfl (tlt (by decide)).2.2.2 ?_
    show Steps p.tables e below (T348.setTop (mkF m 11 #[.val (.ref a), .val (.int xs)] [])) τ
    refine XS.aloadN X348.here hx rfl (Jvm.hb hby d6_11) rfl rfl ?_
    exact kt)
  obtain ⟨T351, X351, e351, st351⟩ := getF X348 hx hZ hown (host := "") (Or.inl (hw _ (List.mem_of_getElem? (i := 10) rfl))) Via.refl e348 FS (g := (mkF m 12 #[.val (.ref a), .val (.int xs)] [(.ref a)])) rfl rfl (Jvm.hb hby d6_12)
  have pre352 : ∀ τ, Steps p.tables e below (T351.setTop (mkF m 15 #[.val (.ref a), .val (.int xs)] [(.ref A)])) τ → Steps p.tables e below (s₁.setTop (entryFrame m #[(.ref a), (.int xs)] 2)) τ := fun τ kt => pre350 τ (st351 τ kt)
  have pre353 : ∀ τ, Steps p.tables e below (T351.setTop (mkF m 16 #[.val (.ref a), .val (.int xs)] [(.ref a), (.ref A)])) τ → Steps p.tables e below (s₁.setTop (entryFrame m #[(.ref a), (.int xs)] 2)) τ := fun τ kt => pre352 τ (by
    show Steps p.tables e below (T351.setTop (mkF m 15 #[.val (.ref a), .val (.int xs)] [(.ref A)])) τ
    refine XS.aloadN X351.here hx rfl (Jvm.hb hby d6_15) rfl rfl ?_
    exact kt)
  obtain ⟨T354, X354, e354, st354⟩ := getF X351 hx hZ hown (host := "") (Or.inl (hw _ (List.mem_of_getElem? (i := 17) rfl))) Via.refl e351 FT (g := (mkF m 16 #[.val (.ref a), .val (.int xs)] [(.ref a), (.ref A)])) rfl rfl (Jvm.hb hby d6_16)
  have pre355 : ∀ τ, Steps p.tables e below (T354.setTop (mkF m 19 #[.val (.ref a), .val (.int xs)] [(.int (2 : Int32)), (.ref A)])) τ → Steps p.tables e below (s₁.setTop (entryFrame m #[(.ref a), (.int xs)] 2)) τ := fun τ kt => pre353 τ (st354 τ kt)
  have pre356 : ∀ τ, Steps p.tables e below (T354.setTop (mkF m 21 #[.val (.ref a), .val (.int xs)] [(.int (1 : Int32)), (.ref A)])) τ → Steps p.tables e below (s₁.setTop (entryFrame m #[(.ref a), (.int xs)] 2)) τ := fun τ kt => pre355 τ (by
    show Steps p.tables e below (T354.setTop (mkF m 19 #[.val (.ref a), .val (.int xs)] [(.int (2 : Int32)), (.ref A)])) τ
    refine XS.iconst X354.here hx rfl (Jvm.hb hby d6_19) ?_
    show Steps p.tables e below (T354.setTop (mkF m 20 #[.val (.ref a), .val (.int xs)] [(.int (1 : Int32)), (.int (2 : Int32)), (.ref A)])) τ
    refine XS.isub X354.here hx rfl (Jvm.hb hby d6_20) rfl ?_
    exact kt)
  obtain ⟨cl357, Ar357, q357, S357, M357, H357, U357⟩ := id VS
  have in357 : ¬ ((1 : Int32) < 0 ∨ cl357.slots.size ≤ ((1 : Int32)).toNatClampNeg) := inb_of S357 ⟨by decide, by decide⟩
  have pre358 : ∀ τ, Steps p.tables e below (T354.setTop (mkF m 28 #[.val (.ref a), .val (.int xs)] [(.ref a), (.ref a)])) τ → Steps p.tables e below (s₁.setTop (entryFrame m #[(.ref a), (.int xs)] 2)) τ := fun τ kt => pre356 τ (by
    show Steps p.tables e below (T354.setTop (mkF m 21 #[.val (.ref a), .val (.int xs)] [(.int (1 : Int32)), (.ref A)])) τ
    refine X354.iaload hx (by rw [e354]; exact Ar357.1) (State.isArrayOf_alike hZ.alike Ar357.2.1) Ar357.2.2 in357 (H357.at in357 rfl) (g := (mkF m 21 #[.val (.ref a), .val (.int xs)] [(.int (1 : Int32)), (.ref A)])) rfl rfl (Jvm.hb hby d6_21) _ ?_
    show Steps p.tables e below (T354.setTop (mkF m 22 #[.val (.ref a), .val (.int xs)] [(.int s1)])) τ
    refine XS.iloadN X354.here hx rfl (Jvm.hb hby d6_22) rfl ?_
    show Steps p.tables e below (T354.setTop (mkF m 23 #[.val (.ref a), .val (.int xs)] [(.int xs), (.int s1)])) τ
    refine XS.icmpNo X354.here hx rfl (Jvm.hb hby d6_23) rfl (tlt pc0).2.2.2 ?_
    show Steps p.tables e below (T354.setTop (mkF m 26 #[.val (.ref a), .val (.int xs)] [])) τ
    refine XS.aloadN X354.here hx rfl (Jvm.hb hby d6_26) rfl rfl ?_
    show Steps p.tables e below (T354.setTop (mkF m 27 #[.val (.ref a), .val (.int xs)] [(.ref a)])) τ
    refine XS.dup X354.here hx rfl (Jvm.hb hby d6_27) rfl rfl ?_
    exact kt)
  obtain ⟨T359, X359, e359, st359⟩ := getF X354 hx hZ hown (host := "") (Or.inl (hw _ (List.mem_of_getElem? (i := 17) rfl))) Via.refl e354 FT (g := (mkF m 28 #[.val (.ref a), .val (.int xs)] [(.ref a), (.ref a)])) rfl rfl (Jvm.hb hby d6_28)
  have pre360 : ∀ τ, Steps p.tables e below (T359.setTop (mkF m 31 #[.val (.ref a), .val (.int xs)] [(.int (2 : Int32)), (.ref a)])) τ → Steps p.tables e below (s₁.setTop (entryFrame m #[(.ref a), (.int xs)] 2)) τ := fun τ kt => pre358 τ (st359 τ kt)
  have pre361 : ∀ τ, Steps p.tables e below (T359.setTop (mkF m 33 #[.val (.ref a), .val (.int xs)] [(.int (1 : Int32)), (.ref a)])) τ → Steps p.tables e below (s₁.setTop (entryFrame m #[(.ref a), (.int xs)] 2)) τ := fun τ kt => pre360 τ (by
    show Steps p.tables e below (T359.setTop (mkF m 31 #[.val (.ref a), .val (.int xs)] [(.int (2 : Int32)), (.ref a)])) τ
    refine XS.iconst X359.here hx rfl (Jvm.hb hby d6_31) ?_
    show Steps p.tables e below (T359.setTop (mkF m 32 #[.val (.ref a), .val (.int xs)] [(.int (1 : Int32)), (.int (2 : Int32)), (.ref a)])) τ
    refine XS.isub X359.here hx rfl (Jvm.hb hby d6_32) rfl ?_
    exact kt)
  obtain ⟨T362, h362, X362, e362, W362, st362⟩ := putF X359 hx hZ hown (host := "") (Or.inl (hw _ (List.mem_of_getElem? (i := 17) rfl))) Via.refl e359 FT E7 (Or.inl (hw _ (List.mem_of_getElem? (i := 18) rfl))) (hw _ (List.mem_of_getElem? (i := 1) rfl)) (ty := .int) (by decide) rfl rfl (g := (mkF m 33 #[.val (.ref a), .val (.int xs)] [(.int (1 : Int32)), (.ref a)])) rfl rfl (Jvm.hb hby d6_33)
  have fw362 := Fld.same W362 FT
  have N362 := Fr.snoc X362 N0 ga
  have K362 : Keep h0 h362 [a, A, B] := KK0.wr W362 (Or.inl (by simp))
  have pre363 : ∀ τ, Steps p.tables e below (T362.setTop (mkF m 36 #[.val (.ref a), .val (.int xs)] [])) τ → Steps p.tables e below (s₁.setTop (entryFrame m #[(.ref a), (.int xs)] 2)) τ := fun τ kt => pre361 τ (st362 τ kt)
  have pre364 : ∀ τ, Steps p.tables e below (T362.setTop (mkF m 1 #[.val (.ref a), .val (.int xs)] [(.ref a)])) τ → Steps p.tables e below (s₁.setTop (entryFrame m #[(.ref a), (.int xs)] 2)) τ := fun τ kt => pre363 τ (by
    show Steps p.tables e below (T362.setTop (mkF m 36 #[.val (.ref a), .val (.int xs)] [])) τ
    refine XS.goto X362.here hx rfl (pc0 := 36) (pc' := 0) rfl (Jvm.hb hby d6_36) (by decide) (by decide) ?_
    show Steps p.tables e below (T362.setTop (mkF m 0 #[.val (.ref a), .val (.int xs)] [])) τ
    refine XS.aloadN X362.here hx rfl (Jvm.hb hby d6_0) rfl rfl ?_
    exact kt)
  obtain ⟨T365, X365, e365, st365⟩ := getF X362 hx hZ hown (host := "") (Or.inl (hw _ (List.mem_of_getElem? (i := 17) rfl))) Via.refl e362 fw362 (g := (mkF m 1 #[.val (.ref a), .val (.int xs)] [(.ref a)])) rfl rfl (Jvm.hb hby d6_1)
  have pre366 : ∀ τ, Steps p.tables e below (T365.setTop (mkF m 4 #[.val (.ref a), .val (.int xs)] [(.int (1 : Int32))])) τ → Steps p.tables e below (s₁.setTop (entryFrame m #[(.ref a), (.int xs)] 2)) τ := fun τ kt => pre364 τ (st365 τ kt)
  have pre367 : ∀ τ, Steps p.tables e below (T365.setTop (mkF m 5 #[.val (.ref a), .val (.int xs)] [(.ref a), (.int (1 : Int32))])) τ → Steps p.tables e below (s₁.setTop (entryFrame m #[(.ref a), (.int xs)] 2)) τ := fun τ kt => pre366 τ (by
    show Steps p.tables e below (T365.setTop (mkF m 4 #[.val (.ref a), .val (.int xs)] [(.int (1 : Int32))])) τ
    refine XS.aloadN X365.here hx rfl (Jvm.hb hby d6_4) rfl rfl ?_
    exact kt)
  have f369 := (FH.other W362 (Or.inr (slot_ne (Or.inl (hw _ (List.mem_of_getElem? (i := 16) rfl))) (Or.inl (hw _ (List.mem_of_getElem? (i := 18) rfl))) (by decide) (t := .int) (t' := .int) (by decide) (by decide))))
  obtain ⟨T368, X368, e368, st368⟩ := getF X365 hx hZ hown (host := "") (Or.inl (hw _ (List.mem_of_getElem? (i := 15) rfl))) Via.refl e365 f369 (g := (mkF m 5 #[.val (.ref a), .val (.int xs)] [(.ref a), (.int (1 : Int32))])) rfl rfl (Jvm.hb hby d6_5)
  have pre370 : ∀ τ, Steps p.tables e below (T368.setTop (mkF m 8 #[.val (.ref a), .val (.int xs)] [(.int (0 : Int32)), (.int (1 : Int32))])) τ → Steps p.tables e below (s₁.setTop (entryFrame m #[(.ref a), (.int xs)] 2)) τ := fun τ kt => pre367 τ (st368 τ kt)
  have pre371 : ∀ τ, Steps p.tables e below (T368.setTop (mkF m 12 #[.val (.ref a), .val (.int xs)] [(.ref a)])) τ → Steps p.tables e below (s₁.setTop (entryFrame m #[(.ref a), (.int xs)] 2)) τ := fun τ kt => pre370 τ (by
    show Steps p.tables e below (T368.setTop (mkF m 8 #[.val (.ref a), .val (.int xs)] [(.int (0 : Int32)), (.int (1 : Int32))])) τ
    refine XS.icmpNo X368.here hx rfl (Jvm.hb hby d6_8) rfl (tlt (by decide)).2.2.2 ?_
    show Steps p.tables e below (T368.setTop (mkF m 11 #[.val (.ref a), .val (.int xs)] [])) τ
    refine XS.aloadN X368.here hx rfl (Jvm.hb hby d6_11) rfl rfl ?_
    exact kt)
  have f373 := (FS.other W362 (Or.inr (slot_ne (Or.inr (hw _ (List.mem_of_getElem? (i := 11) rfl))) (Or.inl (hw _ (List.mem_of_getElem? (i := 18) rfl))) (by decide) (t := (.array .int)) (t' := .int) (by decide) (by decide))))
  obtain ⟨T372, X372, e372, st372⟩ := getF X368 hx hZ hown (host := "") (Or.inl (hw _ (List.mem_of_getElem? (i := 10) rfl))) Via.refl e368 f373 (g := (mkF m 12 #[.val (.ref a), .val (.int xs)] [(.ref a)])) rfl rfl (Jvm.hb hby d6_12)
  have pre374 : ∀ τ, Steps p.tables e below (T372.setTop (mkF m 15 #[.val (.ref a), .val (.int xs)] [(.ref A)])) τ → Steps p.tables e below (s₁.setTop (entryFrame m #[(.ref a), (.int xs)] 2)) τ := fun τ kt => pre371 τ (st372 τ kt)
  have pre375 : ∀ τ, Steps p.tables e below (T372.setTop (mkF m 16 #[.val (.ref a), .val (.int xs)] [(.ref a), (.ref A)])) τ → Steps p.tables e below (s₁.setTop (entryFrame m #[(.ref a), (.int xs)] 2)) τ := fun τ kt => pre374 τ (by
    show Steps p.tables e below (T372.setTop (mkF m 15 #[.val (.ref a), .val (.int xs)] [(.ref A)])) τ
    refine XS.aloadN X372.here hx rfl (Jvm.hb hby d6_15) rfl rfl ?_
    exact kt)
  obtain ⟨T376, X376, e376, st376⟩ := getF X372 hx hZ hown (host := "") (Or.inl (hw _ (List.mem_of_getElem? (i := 17) rfl))) Via.refl e372 fw362 (g := (mkF m 16 #[.val (.ref a), .val (.int xs)] [(.ref a), (.ref A)])) rfl rfl (Jvm.hb hby d6_16)
  have pre377 : ∀ τ, Steps p.tables e below (T376.setTop (mkF m 19 #[.val (.ref a), .val (.int xs)] [(.int (1 : Int32)), (.ref A)])) τ → Steps p.tables e below (s₁.setTop (entryFrame m #[(.ref a), (.int xs)] 2)) τ := fun τ kt => pre375 τ (st376 τ kt)
  have pre378 : ∀ τ, Steps p.tables e below (T376.setTop (mkF m 21 #[.val (.ref a), .val (.int xs)] [(.int (0 : Int32)), (.ref A)])) τ → Steps p.tables e below (s₁.setTop (entryFrame m #[(.ref a), (.int xs)] 2)) τ := fun τ kt => pre377 τ (by
    show Steps p.tables e below (T376.setTop (mkF m 19 #[.val (.ref a), .val (.int xs)] [(.int (1 : Int32)), (.ref A)])) τ
    refine XS.iconst X376.here hx rfl (Jvm.hb hby d6_19) ?_
    show Steps p.tables e below (T376.setTop (mkF m 20 #[.val (.ref a), .val (.int xs)] [(.int (1 : Int32)), (.int (1 : Int32)), (.ref A)])) τ
    refine XS.isub X376.here hx rfl (Jvm.hb hby d6_20) rfl ?_
    exact kt)
  have f379 := VS.other W362 (Ne.symm naA)
  obtain ⟨cl380, Ar380, q380, S380, M380, H380, U380⟩ := id f379
  have in380 : ¬ ((0 : Int32) < 0 ∨ cl380.slots.size ≤ ((0 : Int32)).toNatClampNeg) := inb_of S380 ⟨by decide, by decide⟩
  have f381 := (FV.other W362 (Or.inr (slot_ne (Or.inr (hw _ (List.mem_of_getElem? (i := 14) rfl))) (Or.inl (hw _ (List.mem_of_getElem? (i := 18) rfl))) (by decide) (t := (.array .double)) (t' := .int) (by decide) (by decide))))
  have f382 := VV.other W362 (Ne.symm naB)
  have pre383 : ∀ τ, Steps p.tables e below (T376.setTop (mkF m 39 #[.val (.ref a), .val (.int xs)] [])) τ → Steps p.tables e below (s₁.setTop (entryFrame m #[(.ref a), (.int xs)] 2)) τ := fun τ kt => pre378 τ (by
    show Steps p.tables e below (T376.setTop (mkF m 21 #[.val (.ref a), .val (.int xs)] [(.int (0 : Int32)), (.ref A)])) τ
    refine X376.iaload hx (by rw [e376]; exact Ar380.1) (State.isArrayOf_alike hZ.alike Ar380.2.1) Ar380.2.2 in380 (H380.at in380 rfl) (g := (mkF m 21 #[.val (.ref a), .val (.int xs)] [(.int (0 : Int32)), (.ref A)])) rfl rfl (Jvm.hb hby d6_21) _ ?_
    show Steps p.tables e below (T376.setTop (mkF m 22 #[.val (.ref a), .val (.int xs)] [(.int s0)])) τ
    refine XS.iloadN X376.here hx rfl (Jvm.hb hby d6_22) rfl ?_
    show Steps p.tables e below (T376.setTop (mkF m 23 #[.val (.ref a), .val (.int xs)] [(.int xs), (.int s0)])) τ
    refine XS.icmpYes X376.here hx rfl (pc0 := 23) (pc' := 39) rfl (Jvm.hb hby d6_23) rfl (flt pc1).2.2.2 (by decide) (by decide) ?_
    exact kt)
  obtain ⟨fs, hrL, hrun, hended, hW, hsame⟩ := X376.leave (v := none) (fun _ => rfl)
  refine ⟨_, _, pre383 _ ?_, hrun, hended, _, _, rfl, ?_, ⟨_, rfl⟩, hW, hsame.mono (by decide) (by decide)⟩
  · show Steps p.tables e below (T376.setTop (mkF m 39 #[.val (.ref a), .val (.int xs)] [])) _
    exact X376.returnOut hx Bd.returns (Jvm.hb hby d6_39) hrL
  · show QC Z a A B kA kB (0 : Int32) (1 : Int32) [(.int s0), (.int s1), (.int s2)] [(.double v0), (.double v1), (.double v2)] h0 n0 _ T376.heap _
    rw [e376]
    exact ⟨rfl, N362, K362, f373, f381, f369, fw362, f379, f382⟩
set_option maxRecDepth 65536 in
set_option maxHeartbeats 40000000 in
theorem rmMax_01 (l : Launch) (Z : State) (a0 : Array Value) (hw : ∀ d ∈ tables_1, d.before a0 Z = true) (ws : List Jvm.Cond) (a : Addr) (A B : Addr) (kA kB : ClassId) (s0 s1 s2 : Int32) (v0 v1 v2 : UInt64) (h0 : Heap) (n0 : Nat) (Z0 : n0 ≤ h0.size) (E7 : Exa Z h0 a "com/example/counterpath/counterpath/core/CappedMaximum") (FS : Fld Z h0 a "com/example/counterpath/counterpath/core/CappedMaximum" "samples" "[I" (.ref A)) (FV : Fld Z h0 a "com/example/counterpath/counterpath/core/CappedMaximum" "values" "[D" (.ref B)) (FH : Fld Z h0 a "com/example/counterpath/counterpath/core/CappedMaximum" "head" "I" (.int (0 : Int32))) (FT : Fld Z h0 a "com/example/counterpath/counterpath/core/CappedMaximum" "tail" "I" (.int (1 : Int32))) (VS : Arv Z h0 A kA .int (3 : Int32) [(.int s0), (.int s1), (.int s2)] (.int (0 : Int32))) (VV : Arv Z h0 B kB .double (3 : Int32) [(.double v0), (.double v1), (.double v2)] (.double (0 : UInt64))) (naA : a ≠ A) (naB : a ≠ B) (nAB : A ≠ B) (ga : n0 ≤ a) (gA : n0 ≤ A) (gB : n0 ≤ B)  :
    MetFree l (⟨"com/example/counterpath/counterpath/core/CappedMaximum", "maximum", "()D"⟩ : MethodName) (head1 (Jvm.Cond.code (⟨"com/example/counterpath/counterpath/core/CappedMaximum", "maximum", "()D"⟩ : MethodName) prog_3_method_5_code 1 (some .double) :: ws) ({ frames := 0, cells := 0, slots := 0, locals := 0 } : Room)) (fun α U => α = #[(.ref a)] ∧ Z.Warmed39 U.vm ∧ U.heap = h0) (fun _ _ _ _ _ => True) (fun _ U ω U' => ∃ ν Λ, ω = .returned ν ∧ QD v0 h0 n0 ν U'.heap Λ ∧ FrameEnd U ω U' Λ ({ frames := 0, cells := 0, slots := 0, locals := 0 } : Room).cells ({ frames := 0, cells := 0, slots := 0, locals := 0 } : Room).slots) := by
  refine MetFree.of_bodySF (plainFor_of_name own_pn_com_example_counterpath_counterpath_core_CappedMaximum) hisR ?_
  intro p e s m args below meth c s₁ Bd hml0 hP hK
  obtain ⟨rfl, hZ, hh⟩ := hP
  have hx := Bd.exec
  have hby := Bd.bytes
  have hml : c.maxLocals = 1 := hml0
  have hown : s.vm.findClass "com/example/counterpath/counterpath/core/CappedMaximum" = some m.cls := findClass_of_methodNamed Bd.named
  have hnm := (name_of_methodNamed Bd.named Bd.method).1
  have X0 : Stand p l e ({ frames := 0, cells := 0, slots := 0, locals := 0 } : Room) s m #[(.ref a)] below meth c s₁ [] 0 0 := Stand.of_body Bd
  have e0 : s₁.heap = h0 := by rw [← hh, Bd.state]; rfl
  have N0 := Fr.nil n0
  have KK0 : Keep h0 h0 [] := Keep.refl h0 []
  have pre0 : ∀ τ, Steps p.tables e below (s₁.setTop (mkF m 0 #[.val (.ref a)] [])) τ → Steps p.tables e below (s₁.setTop (entryFrame m #[(.ref a)] 1)) τ := fun τ κ => castTop (own_ef4 m a) κ
  have pre387 : ∀ τ, Steps p.tables e below (s₁.setTop (mkF m 1 #[.val (.ref a)] [(.ref a)])) τ → Steps p.tables e below (s₁.setTop (entryFrame m #[(.ref a)] 1)) τ := fun τ kt => pre0 τ (by
    show Steps p.tables e below (s₁.setTop (mkF m 0 #[.val (.ref a)] [])) τ
    refine XS.aloadN X0.here hx rfl (Jvm.hb hby d4_0) rfl rfl ?_
    exact kt)
  obtain ⟨T388, X388, e388, st388⟩ := getF X0 hx hZ hown (host := "") (Or.inl (hw _ (List.mem_of_getElem? (i := 17) rfl))) Via.refl e0 FT (g := (mkF m 1 #[.val (.ref a)] [(.ref a)])) rfl rfl (Jvm.hb hby d4_1)
  have pre389 : ∀ τ, Steps p.tables e below (T388.setTop (mkF m 4 #[.val (.ref a)] [(.int (1 : Int32))])) τ → Steps p.tables e below (s₁.setTop (entryFrame m #[(.ref a)] 1)) τ := fun τ kt => pre387 τ (st388 τ kt)
  have pre390 : ∀ τ, Steps p.tables e below (T388.setTop (mkF m 5 #[.val (.ref a)] [(.ref a), (.int (1 : Int32))])) τ → Steps p.tables e below (s₁.setTop (entryFrame m #[(.ref a)] 1)) τ := fun τ kt => pre389 τ (by
    show Steps p.tables e below (T388.setTop (mkF m 4 #[.val (.ref a)] [(.int (1 : Int32))])) τ
    refine XS.aloadN X388.here hx rfl (Jvm.hb hby d4_4) rfl rfl ?_
    exact kt)
  obtain ⟨T391, X391, e391, st391⟩ := getF X388 hx hZ hown (host := "") (Or.inl (hw _ (List.mem_of_getElem? (i := 15) rfl))) Via.refl e388 FH (g := (mkF m 5 #[.val (.ref a)] [(.ref a), (.int (1 : Int32))])) rfl rfl (Jvm.hb hby d4_5)
  have pre392 : ∀ τ, Steps p.tables e below (T391.setTop (mkF m 8 #[.val (.ref a)] [(.int (0 : Int32)), (.int (1 : Int32))])) τ → Steps p.tables e below (s₁.setTop (entryFrame m #[(.ref a)] 1)) τ := fun τ kt => pre390 τ (st391 τ kt)
  have pre393 : ∀ τ, Steps p.tables e below (T391.setTop (mkF m 12 #[.val (.ref a)] [(.ref a)])) τ → Steps p.tables e below (s₁.setTop (entryFrame m #[(.ref a)] 1)) τ := fun τ kt => pre392 τ (by
    show Steps p.tables e below (T391.setTop (mkF m 8 #[.val (.ref a)] [(.int (0 : Int32)), (.int (1 : Int32))])) τ
    refine XS.icmpNo X391.here hx rfl (Jvm.hb hby d4_8) rfl (tlt (by decide)).2.2.2 ?_
    show Steps p.tables e below (T391.setTop (mkF m 11 #[.val (.ref a)] [])) τ
    refine XS.aloadN X391.here hx rfl (Jvm.hb hby d4_11) rfl rfl ?_
    exact kt)
  obtain ⟨T394, X394, e394, st394⟩ := getF X391 hx hZ hown (host := "") (Or.inl (hw _ (List.mem_of_getElem? (i := 13) rfl))) Via.refl e391 FV (g := (mkF m 12 #[.val (.ref a)] [(.ref a)])) rfl rfl (Jvm.hb hby d4_12)
  have pre395 : ∀ τ, Steps p.tables e below (T394.setTop (mkF m 15 #[.val (.ref a)] [(.ref B)])) τ → Steps p.tables e below (s₁.setTop (entryFrame m #[(.ref a)] 1)) τ := fun τ kt => pre393 τ (st394 τ kt)
  have pre396 : ∀ τ, Steps p.tables e below (T394.setTop (mkF m 16 #[.val (.ref a)] [(.ref a), (.ref B)])) τ → Steps p.tables e below (s₁.setTop (entryFrame m #[(.ref a)] 1)) τ := fun τ kt => pre395 τ (by
    show Steps p.tables e below (T394.setTop (mkF m 15 #[.val (.ref a)] [(.ref B)])) τ
    refine XS.aloadN X394.here hx rfl (Jvm.hb hby d4_15) rfl rfl ?_
    exact kt)
  obtain ⟨T397, X397, e397, st397⟩ := getF X394 hx hZ hown (host := "") (Or.inl (hw _ (List.mem_of_getElem? (i := 17) rfl))) Via.refl e394 FT (g := (mkF m 16 #[.val (.ref a)] [(.ref a), (.ref B)])) rfl rfl (Jvm.hb hby d4_16)
  have pre398 : ∀ τ, Steps p.tables e below (T397.setTop (mkF m 19 #[.val (.ref a)] [(.int (1 : Int32)), (.ref B)])) τ → Steps p.tables e below (s₁.setTop (entryFrame m #[(.ref a)] 1)) τ := fun τ kt => pre396 τ (st397 τ kt)
  have pre399 : ∀ τ, Steps p.tables e below (T397.setTop (mkF m 21 #[.val (.ref a)] [(.int (0 : Int32)), (.ref B)])) τ → Steps p.tables e below (s₁.setTop (entryFrame m #[(.ref a)] 1)) τ := fun τ kt => pre398 τ (by
    show Steps p.tables e below (T397.setTop (mkF m 19 #[.val (.ref a)] [(.int (1 : Int32)), (.ref B)])) τ
    refine XS.iconst X397.here hx rfl (Jvm.hb hby d4_19) ?_
    show Steps p.tables e below (T397.setTop (mkF m 20 #[.val (.ref a)] [(.int (1 : Int32)), (.int (1 : Int32)), (.ref B)])) τ
    refine XS.isub X397.here hx rfl (Jvm.hb hby d4_20) rfl ?_
    exact kt)
  obtain ⟨cl400, Ar400, q400, S400, M400, H400, U400⟩ := id VV
  have in400 : ¬ ((0 : Int32) < 0 ∨ cl400.slots.size ≤ ((0 : Int32)).toNatClampNeg) := inb_of S400 ⟨by decide, by decide⟩
  have pre401 : ∀ τ, Steps p.tables e below (T397.setTop (mkF m 28 #[.val (.ref a)] [(.double v0)])) τ → Steps p.tables e below (s₁.setTop (entryFrame m #[(.ref a)] 1)) τ := fun τ kt => pre399 τ (by
    show Steps p.tables e below (T397.setTop (mkF m 21 #[.val (.ref a)] [(.int (0 : Int32)), (.ref B)])) τ
    refine X397.daload hx (by rw [e397]; exact Ar400.1) (State.isArrayOf_alike hZ.alike Ar400.2.1) Ar400.2.2 in400 (H400.at in400 rfl) (g := (mkF m 21 #[.val (.ref a)] [(.int (0 : Int32)), (.ref B)])) rfl rfl (Jvm.hb hby d4_21) _ ?_
    show Steps p.tables e below (T397.setTop (mkF m 22 #[.val (.ref a)] [(.double v0)])) τ
    refine XS.goto X397.here hx rfl (pc0 := 22) (pc' := 28) rfl (Jvm.hb hby d4_22) (by decide) (by decide) ?_
    exact kt)
  obtain ⟨fs, hrL, hrun, hended, hW, hsame⟩ := X397.leave (v := some (.double v0)) (fun h => by rw [Bd.returns] at h; cases h)
  refine ⟨_, _, pre401 _ ?_, hrun, hended, _, _, rfl, ?_, ⟨_, rfl⟩, hW, hsame.mono (by decide) (by decide)⟩
  · show Steps p.tables e below (T397.setTop (mkF m 28 #[.val (.ref a)] [(.double v0)])) _
    exact own_retD X397 hx Bd.returns (Jvm.hb hby d4_28) hrL
  · show QD v0 h0 n0 _ T397.heap _
    rw [e397]
    exact ⟨rfl, N0, rfl⟩
set_option maxRecDepth 65536 in
set_option maxHeartbeats 40000000 in
theorem rmAdd_13_cx (l : Launch) (Z : State) (a0 : Array Value) (hw : ∀ d ∈ tables_1, d.before a0 Z = true) (ws : List Jvm.Cond) (a : Addr) (xs : Int32) (xv : UInt64) (A B : Addr) (kA kB : ClassId) (s0 s1 s2 : Int32) (v0 v1 v2 : UInt64) (h0 : Heap) (n0 : Nat) (Z0 : n0 ≤ h0.size) (E7 : Exa Z h0 a "com/example/counterpath/counterpath/core/CappedMaximum") (FS : Fld Z h0 a "com/example/counterpath/counterpath/core/CappedMaximum" "samples" "[I" (.ref A)) (FV : Fld Z h0 a "com/example/counterpath/counterpath/core/CappedMaximum" "values" "[D" (.ref B)) (FH : Fld Z h0 a "com/example/counterpath/counterpath/core/CappedMaximum" "head" "I" (.int (1 : Int32))) (FT : Fld Z h0 a "com/example/counterpath/counterpath/core/CappedMaximum" "tail" "I" (.int (3 : Int32))) (VS : Arv Z h0 A kA .int (3 : Int32) [(.int s0), (.int s1), (.int s2)] (.int (0 : Int32))) (VV : Arv Z h0 B kB .double (3 : Int32) [(.double v0), (.double v1), (.double v2)] (.double (0 : UInt64))) (naA : a ≠ A) (naB : a ≠ B) (nAB : A ≠ B) (ga : n0 ≤ a) (gA : n0 ≤ A) (gB : n0 ≤ B) (pc0 : ¬ ((0 : Int32) < cmpValue (FP.dcmp v1 xv) .g)) (pc1 : (0 : Int32) < cmpValue (FP.dcmp v2 xv) .g) :
    MetFree l (⟨"com/example/counterpath/counterpath/core/CappedMaximum", "addFirst", "(ID)V"⟩ : MethodName) (head1 (Jvm.Cond.code (⟨"com/example/counterpath/counterpath/core/CappedMaximum", "addFirst", "(ID)V"⟩ : MethodName) prog_3_method_2_code 4 none :: ws) ({ frames := 0, cells := 0, slots := 0, locals := 0 } : Room)) (fun α U => α = #[(.ref a), (.int xs), (.double xv)] ∧ Z.Warmed39 U.vm ∧ U.heap = h0) (fun _ _ _ _ _ => True) (fun _ U ω U' => ∃ ν Λ, ω = .returned ν ∧ QC Z a A B kA kB (1 : Int32) (3 : Int32) [(.int s0), (.int xs), (.int s2)] [(.double v0), (.double xv), (.double v2)] h0 n0 ν U'.heap Λ ∧ FrameEnd U ω U' Λ ({ frames := 0, cells := 0, slots := 0, locals := 0 } : Room).cells ({ frames := 0, cells := 0, slots := 0, locals := 0 } : Room).slots) := by
  refine MetFree.of_bodySF (plainFor_of_name own_pn_com_example_counterpath_counterpath_core_CappedMaximum) hisR ?_
  intro p e s m args below meth c s₁ Bd hml0 hP hK
  obtain ⟨rfl, hZ, hh⟩ := hP
  have hx := Bd.exec
  have hby := Bd.bytes
  have hml : c.maxLocals = 4 := hml0
  have hown : s.vm.findClass "com/example/counterpath/counterpath/core/CappedMaximum" = some m.cls := findClass_of_methodNamed Bd.named
  have hnm := (name_of_methodNamed Bd.named Bd.method).1
  have X0 : Stand p l e ({ frames := 0, cells := 0, slots := 0, locals := 0 } : Room) s m #[(.ref a), (.int xs), (.double xv)] below meth c s₁ [] 0 0 := Stand.of_body Bd
  have e0 : s₁.heap = h0 := by rw [← hh, Bd.state]; rfl
  have N0 := Fr.nil n0
  have KK0 : Keep h0 h0 [a, A, B] := Keep.refl h0 [a, A, B]
  have pre0 : ∀ τ, Steps p.tables e below (s₁.setTop (mkF m 0 #[.val (.ref a), .val (.int xs), .val (.double xv), .second] [])) τ → Steps p.tables e below (s₁.setTop (entryFrame m #[(.ref a), (.int xs), (.double xv)] 4)) τ := fun τ κ => castTop (own_ef3 m a xs xv) κ
  have pre408 : ∀ τ, Steps p.tables e below (s₁.setTop (mkF m 1 #[.val (.ref a), .val (.int xs), .val (.double xv), .second] [(.ref a)])) τ → Steps p.tables e below (s₁.setTop (entryFrame m #[(.ref a), (.int xs), (.double xv)] 4)) τ := fun τ kt => pre0 τ (by
    show Steps p.tables e below (s₁.setTop (mkF m 0 #[.val (.ref a), .val (.int xs), .val (.double xv), .second] [])) τ
    refine XS.aloadN X0.here hx rfl (Jvm.hb hby d3_0) rfl rfl ?_
    exact kt)
  obtain ⟨T409, X409, e409, st409⟩ := getF X0 hx hZ hown (host := "") (Or.inl (hw _ (List.mem_of_getElem? (i := 15) rfl))) Via.refl e0 FH (g := (mkF m 1 #[.val (.ref a), .val (.int xs), .val (.double xv), .second] [(.ref a)])) rfl rfl (Jvm.hb hby d3_1)
  have pre410 : ∀ τ, Steps p.tables e below (T409.setTop (mkF m 4 #[.val (.ref a), .val (.int xs), .val (.double xv), .second] [(.int (1 : Int32))])) τ → Steps p.tables e below (s₁.setTop (entryFrame m #[(.ref a), (.int xs), (.double xv)] 4)) τ := fun τ kt => pre408 τ (st409 τ kt)
  have pre411 : ∀ τ, Steps p.tables e below (T409.setTop (mkF m 5 #[.val (.ref a), .val (.int xs), .val (.double xv), .second] [(.ref a), (.int (1 : Int32))])) τ → Steps p.tables e below (s₁.setTop (entryFrame m #[(.ref a), (.int xs), (.double xv)] 4)) τ := fun τ kt => pre410 τ (by
    show Steps p.tables e below (T409.setTop (mkF m 4 #[.val (.ref a), .val (.int xs), .val (.double xv), .second] [(.int (1 : Int32))])) τ
    refine XS.aloadN X409.here hx rfl (Jvm.hb hby d3_4) rfl rfl ?_
    exact kt)
  obtain ⟨T412, X412, e412, st412⟩ := getF X409 hx hZ hown (host := "") (Or.inl (hw _ (List.mem_of_getElem? (i := 17) rfl))) Via.refl e409 FT (g := (mkF m 5 #[.val (.ref a), .val (.int xs), .val (.double xv), .second] [(.ref a), (.int (1 : Int32))])) rfl rfl (Jvm.hb hby d3_5)
  have pre413 : ∀ τ, Steps p.tables e below (T412.setTop (mkF m 8 #[.val (.ref a), .val (.int xs), .val (.double xv), .second] [(.int (3 : Int32)), (.int (1 : Int32))])) τ → Steps p.tables e below (s₁.setTop (entryFrame m #[(.ref a), (.int xs), (.double xv)] 4)) τ := fun τ kt => pre411 τ (st412 τ kt)
  have pre414 : ∀ τ, Steps p.tables e below (T412.setTop (mkF m 12 #[.val (.ref a), .val (.int xs), .val (.double xv), .second] [(.ref a)])) τ → Steps p.tables e below (s₁.setTop (entryFrame m #[(.ref a), (.int xs), (.double xv)] 4)) τ := fun τ kt => pre413 τ (by
    show Steps p.tables e below (T412.setTop (mkF m 8 #[.val (.ref a), .val (.int xs), .val (.double xv), .second] [(.int (3 : Int32)), (.int (1 : Int32))])) τ
    refine XS.icmpNo X412.here hx rfl (Jvm.hb hby d3_8) rfl (tlt (by decide)).2.1 ?_
    show Steps p.tables e below (T412.setTop (mkF m 11 #[.val (.ref a), .val (.int xs), .val (.double xv), .second] [])) τ
    refine XS.aloadN X412.here hx rfl (Jvm.hb hby d3_11) rfl rfl ?_
    exact kt)
  obtain ⟨T415, X415, e415, st415⟩ := getF X412 hx hZ hown (host := "") (Or.inl (hw _ (List.mem_of_getElem? (i := 13) rfl))) Via.refl e412 FV (g := (mkF m 12 #[.val (.ref a), .val (.int xs), .val (.double xv), .second] [(.ref a)])) rfl rfl (Jvm.hb hby d3_12)
  have pre416 : ∀ τ, Steps p.tables e below (T415.setTop (mkF m 15 #[.val (.ref a), .val (.int xs), .val (.double xv), .second] [(.ref B)])) τ → Steps p.tables e below (s₁.setTop (entryFrame m #[(.ref a), (.int xs), (.double xv)] 4)) τ := fun τ kt => pre414 τ (st415 τ kt)
  have pre417 : ∀ τ, Steps p.tables e below (T415.setTop (mkF m 16 #[.val (.ref a), .val (.int xs), .val (.double xv), .second] [(.ref a), (.ref B)])) τ → Steps p.tables e below (s₁.setTop (entryFrame m #[(.ref a), (.int xs), (.double xv)] 4)) τ := fun τ kt => pre416 τ (by
    show Steps p.tables e below (T415.setTop (mkF m 15 #[.val (.ref a), .val (.int xs), .val (.double xv), .second] [(.ref B)])) τ
    refine XS.aloadN X415.here hx rfl (Jvm.hb hby d3_15) rfl rfl ?_
    exact kt)
  obtain ⟨T418, X418, e418, st418⟩ := getF X415 hx hZ hown (host := "") (Or.inl (hw _ (List.mem_of_getElem? (i := 15) rfl))) Via.refl e415 FH (g := (mkF m 16 #[.val (.ref a), .val (.int xs), .val (.double xv), .second] [(.ref a), (.ref B)])) rfl rfl (Jvm.hb hby d3_16)
  have pre419 : ∀ τ, Steps p.tables e below (T418.setTop (mkF m 19 #[.val (.ref a), .val (.int xs), .val (.double xv), .second] [(.int (1 : Int32)), (.ref B)])) τ → Steps p.tables e below (s₁.setTop (entryFrame m #[(.ref a), (.int xs), (.double xv)] 4)) τ := fun τ kt => pre417 τ (st418 τ kt)
  obtain ⟨cl420, Ar420, q420, S420, M420, H420, U420⟩ := id VV
  have in420 : ¬ ((1 : Int32) < 0 ∨ cl420.slots.size ≤ ((1 : Int32)).toNatClampNeg) := inb_of S420 ⟨by decide, by decide⟩
  have pre421 : ∀ τ, Steps p.tables e below (T418.setTop (mkF m 27 #[.val (.ref a), .val (.int xs), .val (.double xv), .second] [(.ref a), (.ref a)])) τ → Steps p.tables e below (s₁.setTop (entryFrame m #[(.ref a), (.int xs), (.double xv)] 4)) τ := fun τ kt => pre419 τ (by
    show Steps p.tables e below (T418.setTop (mkF m 19 #[.val (.ref a), .val (.int xs), .val (.double xv), .second] [(.int (1 : Int32)), (.ref B)])) τ
    refine X418.daload hx (by rw [e418]; exact Ar420.1) (State.isArrayOf_alike hZ.alike Ar420.2.1) Ar420.2.2 in420 (H420.at in420 rfl) (g := (mkF m 19 #[.val (.ref a), .val (.int xs), .val (.double xv), .second] [(.int (1 : Int32)), (.ref B)])) rfl rfl (Jvm.hb hby d3_19) _ ?_
    show Steps p.tables e below (T418.setTop (mkF m 20 #[.val (.ref a), .val (.int xs), .val (.double xv), .second] [(.double v1)])) τ
    refine own_dloadN X418.here hx rfl (Jvm.hb hby d3_20) rfl ?_
    show Steps p.tables e below (T418.setTop (mkF m 21 #[.val (.ref a), .val (.int xs), .val (.double xv), .second] [(.double xv), (.double v1)])) τ
    refine own_dcmp X418.here hx rfl (Jvm.hb hby d3_21) rfl ?_
    show Steps p.tables e below (T418.setTop (mkF m 22 #[.val (.ref a), .val (.int xs), .val (.double xv), .second] [(.int (cmpValue (FP.dcmp v1 xv) .g))])) τ
    refine XS.ifNo X418.here hx rfl (Jvm.hb hby d3_22) rfl ((if0 _ _).trans (flt pc0).2.2.1) ?_
    show Steps p.tables e below (T418.setTop (mkF m 25 #[.val (.ref a), .val (.int xs), .val (.double xv), .second] [])) τ
    refine XS.aloadN X418.here hx rfl (Jvm.hb hby d3_25) rfl rfl ?_
    show Steps p.tables e below (T418.setTop (mkF m 26 #[.val (.ref a), .val (.int xs), .val (.double xv), .second] [(.ref a)])) τ
    refine XS.dup X418.here hx rfl (Jvm.hb hby d3_26) rfl rfl ?_
    exact kt)
  obtain ⟨T422, X422, e422, st422⟩ := getF X418 hx hZ hown (host := "") (Or.inl (hw _ (List.mem_of_getElem? (i := 15) rfl))) Via.refl e418 FH (g := (mkF m 27 #[.val (.ref a), .val (.int xs), .val (.double xv), .second] [(.ref a), (.ref a)])) rfl rfl (Jvm.hb hby d3_27)
  have pre423 : ∀ τ, Steps p.tables e below (T422.setTop (mkF m 30 #[.val (.ref a), .val (.int xs), .val (.double xv), .second] [(.int (1 : Int32)), (.ref a)])) τ → Steps p.tables e below (s₁.setTop (entryFrame m #[(.ref a), (.int xs), (.double xv)] 4)) τ := fun τ kt => pre421 τ (st422 τ kt)
  have pre424 : ∀ τ, Steps p.tables e below (T422.setTop (mkF m 32 #[.val (.ref a), .val (.int xs), .val (.double xv), .second] [(.int (2 : Int32)), (.ref a)])) τ → Steps p.tables e below (s₁.setTop (entryFrame m #[(.ref a), (.int xs), (.double xv)] 4)) τ := fun τ kt => pre423 τ (by
    show Steps p.tables e below (T422.setTop (mkF m 30 #[.val (.ref a), .val (.int xs), .val (.double xv), .second] [(.int (1 : Int32)), (.ref a)])) τ
    refine XS.iconst X422.here hx rfl (Jvm.hb hby d3_30) ?_
    show Steps p.tables e below (T422.setTop (mkF m 31 #[.val (.ref a), .val (.int xs), .val (.double xv), .second] [(.int (1 : Int32)), (.int (1 : Int32)), (.ref a)])) τ
    refine XS.iadd X422.here hx rfl (Jvm.hb hby d3_31) rfl ?_
    exact kt)
  obtain ⟨T425, h425, X425, e425, W425, st425⟩ := putF X422 hx hZ hown (host := "") (Or.inl (hw _ (List.mem_of_getElem? (i := 15) rfl))) Via.refl e422 FH E7 (Or.inl (hw _ (List.mem_of_getElem? (i := 16) rfl))) (hw _ (List.mem_of_getElem? (i := 1) rfl)) (ty := .int) (by decide) rfl rfl (g := (mkF m 32 #[.val (.ref a), .val (.int xs), .val (.double xv), .second] [(.int (2 : Int32)), (.ref a)])) rfl rfl (Jvm.hb hby d3_32)
  have fw425 := Fld.same W425 FH
  have N425 := Fr.snoc X425 N0 ga
  have K425 : Keep h0 h425 [a, A, B] := KK0.wr W425 (Or.inl (by simp))
  have pre426 : ∀ τ, Steps p.tables e below (T425.setTop (mkF m 35 #[.val (.ref a), .val (.int xs), .val (.double xv), .second] [])) τ → Steps p.tables e below (s₁.setTop (entryFrame m #[(.ref a), (.int xs), (.double xv)] 4)) τ := fun τ kt => pre424 τ (st425 τ kt)
  have pre427 : ∀ τ, Steps p.tables e below (T425.setTop (mkF m 1 #[.val (.ref a), .val (.int xs), .val (.double xv), .second] [(.ref a)])) τ → Steps p.tables e below (s₁.setTop (entryFrame m #[(.ref a), (.int xs), (.double xv)] 4)) τ := fun τ kt => pre426 τ (by
    show Steps p.tables e below (T425.setTop (mkF m 35 #[.val (.ref a), .val (.int xs), .val (.double xv), .second] [])) τ
    refine XS.goto X425.here hx rfl (pc0 := 35) (pc' := 0) rfl (Jvm.hb hby d3_35) (by decide) (by decide) ?_
    show Steps p.tables e below (T425.setTop (mkF m 0 #[.val (.ref a), .val (.int xs), .val (.double xv), .second] [])) τ
    refine XS.aloadN X425.here hx rfl (Jvm.hb hby d3_0) rfl rfl ?_
    exact kt)
  obtain ⟨T428, X428, e428, st428⟩ := getF X425 hx hZ hown (host := "") (Or.inl (hw _ (List.mem_of_getElem? (i := 15) rfl))) Via.refl e425 fw425 (g := (mkF m 1 #[.val (.ref a), .val (.int xs), .val (.double xv), .second] [(.ref a)])) rfl rfl (Jvm.hb hby d3_1)
  have pre429 : ∀ τ, Steps p.tables e below (T428.setTop (mkF m 4 #[.val (.ref a), .val (.int xs), .val (.double xv), .second] [(.int (2 : Int32))])) τ → Steps p.tables e below (s₁.setTop (entryFrame m #[(.ref a), (.int xs), (.double xv)] 4)) τ := fun τ kt => pre427 τ (st428 τ kt)
  have pre430 : ∀ τ, Steps p.tables e below (T428.setTop (mkF m 5 #[.val (.ref a), .val (.int xs), .val (.double xv), .second] [(.ref a), (.int (2 : Int32))])) τ → Steps p.tables e below (s₁.setTop (entryFrame m #[(.ref a), (.int xs), (.double xv)] 4)) τ := fun τ kt => pre429 τ (by
    show Steps p.tables e below (T428.setTop (mkF m 4 #[.val (.ref a), .val (.int xs), .val (.double xv), .second] [(.int (2 : Int32))])) τ
    refine XS.aloadN X428.here hx rfl (Jvm.hb hby d3_4) rfl rfl ?_
    exact kt)
  have f432 := (FT.other W425 (Or.inr (slot_ne (Or.inl (hw _ (List.mem_of_getElem? (i := 18) rfl))) (Or.inl (hw _ (List.mem_of_getElem? (i := 16) rfl))) (by decide) (t := .int) (t' := .int) (by decide) (by decide))))
  obtain ⟨T431, X431, e431, st431⟩ := getF X428 hx hZ hown (host := "") (Or.inl (hw _ (List.mem_of_getElem? (i := 17) rfl))) Via.refl e428 f432 (g := (mkF m 5 #[.val (.ref a), .val (.int xs), .val (.double xv), .second] [(.ref a), (.int (2 : Int32))])) rfl rfl (Jvm.hb hby d3_5)
  have pre433 : ∀ τ, Steps p.tables e below (T431.setTop (mkF m 8 #[.val (.ref a), .val (.int xs), .val (.double xv), .second] [(.int (3 : Int32)), (.int (2 : Int32))])) τ → Steps p.tables e below (s₁.setTop (entryFrame m #[(.ref a), (.int xs), (.double xv)] 4)) τ := fun τ kt => pre430 τ (st431 τ kt)
  have pre434 : ∀ τ, Steps p.tables e below (T431.setTop (mkF m 12 #[.val (.ref a), .val (.int xs), .val (.double xv), .second] [(.ref a)])) τ → Steps p.tables e below (s₁.setTop (entryFrame m #[(.ref a), (.int xs), (.double xv)] 4)) τ := fun τ kt => pre433 τ (by
    show Steps p.tables e below (T431.setTop (mkF m 8 #[.val (.ref a), .val (.int xs), .val (.double xv), .second] [(.int (3 : Int32)), (.int (2 : Int32))])) τ
    refine XS.icmpNo X431.here hx rfl (Jvm.hb hby d3_8) rfl (tlt (by decide)).2.1 ?_
    show Steps p.tables e below (T431.setTop (mkF m 11 #[.val (.ref a), .val (.int xs), .val (.double xv), .second] [])) τ
    refine XS.aloadN X431.here hx rfl (Jvm.hb hby d3_11) rfl rfl ?_
    exact kt)
  have f436 := (FV.other W425 (Or.inr (slot_ne (Or.inr (hw _ (List.mem_of_getElem? (i := 14) rfl))) (Or.inl (hw _ (List.mem_of_getElem? (i := 16) rfl))) (by decide) (t := (.array .double)) (t' := .int) (by decide) (by decide))))
  obtain ⟨T435, X435, e435, st435⟩ := getF X431 hx hZ hown (host := "") (Or.inl (hw _ (List.mem_of_getElem? (i := 13) rfl))) Via.refl e431 f436 (g := (mkF m 12 #[.val (.ref a), .val (.int xs), .val (.double xv), .second] [(.ref a)])) rfl rfl (Jvm.hb hby d3_12)
  have pre437 : ∀ τ, Steps p.tables e below (T435.setTop (mkF m 15 #[.val (.ref a), .val (.int xs), .val (.double xv), .second] [(.ref B)])) τ → Steps p.tables e below (s₁.setTop (entryFrame m #[(.ref a), (.int xs), (.double xv)] 4)) τ := fun τ kt => pre434 τ (st435 τ kt)
  have pre438 : ∀ τ, Steps p.tables e below (T435.setTop (mkF m 16 #[.val (.ref a), .val (.int xs), .val (.double xv), .second] [(.ref a), (.ref B)])) τ → Steps p.tables e below (s₁.setTop (entryFrame m #[(.ref a), (.int xs), (.double xv)] 4)) τ := fun τ kt => pre437 τ (by
    show Steps p.tables e below (T435.setTop (mkF m 15 #[.val (.ref a), .val (.int xs), .val (.double xv), .second] [(.ref B)])) τ
    refine XS.aloadN X435.here hx rfl (Jvm.hb hby d3_15) rfl rfl ?_
    exact kt)
  obtain ⟨T439, X439, e439, st439⟩ := getF X435 hx hZ hown (host := "") (Or.inl (hw _ (List.mem_of_getElem? (i := 15) rfl))) Via.refl e435 fw425 (g := (mkF m 16 #[.val (.ref a), .val (.int xs), .val (.double xv), .second] [(.ref a), (.ref B)])) rfl rfl (Jvm.hb hby d3_16)
  have pre440 : ∀ τ, Steps p.tables e below (T439.setTop (mkF m 19 #[.val (.ref a), .val (.int xs), .val (.double xv), .second] [(.int (2 : Int32)), (.ref B)])) τ → Steps p.tables e below (s₁.setTop (entryFrame m #[(.ref a), (.int xs), (.double xv)] 4)) τ := fun τ kt => pre438 τ (st439 τ kt)
  have f441 := VV.other W425 (Ne.symm naB)
  obtain ⟨cl442, Ar442, q442, S442, M442, H442, U442⟩ := id f441
  have in442 : ¬ ((2 : Int32) < 0 ∨ cl442.slots.size ≤ ((2 : Int32)).toNatClampNeg) := inb_of S442 ⟨by decide, by decide⟩
  have pre443 : ∀ τ, Steps p.tables e below (T439.setTop (mkF m 40 #[.val (.ref a), .val (.int xs), .val (.double xv), .second] [(.ref a), (.ref a)])) τ → Steps p.tables e below (s₁.setTop (entryFrame m #[(.ref a), (.int xs), (.double xv)] 4)) τ := fun τ kt => pre440 τ (by
    show Steps p.tables e below (T439.setTop (mkF m 19 #[.val (.ref a), .val (.int xs), .val (.double xv), .second] [(.int (2 : Int32)), (.ref B)])) τ
    refine X439.daload hx (by rw [e439]; exact Ar442.1) (State.isArrayOf_alike hZ.alike Ar442.2.1) Ar442.2.2 in442 (H442.at in442 rfl) (g := (mkF m 19 #[.val (.ref a), .val (.int xs), .val (.double xv), .second] [(.int (2 : Int32)), (.ref B)])) rfl rfl (Jvm.hb hby d3_19) _ ?_
    show Steps p.tables e below (T439.setTop (mkF m 20 #[.val (.ref a), .val (.int xs), .val (.double xv), .second] [(.double v2)])) τ
    refine own_dloadN X439.here hx rfl (Jvm.hb hby d3_20) rfl ?_
    show Steps p.tables e below (T439.setTop (mkF m 21 #[.val (.ref a), .val (.int xs), .val (.double xv), .second] [(.double xv), (.double v2)])) τ
    refine own_dcmp X439.here hx rfl (Jvm.hb hby d3_21) rfl ?_
    show Steps p.tables e below (T439.setTop (mkF m 22 #[.val (.ref a), .val (.int xs), .val (.double xv), .second] [(.int (cmpValue (FP.dcmp v2 xv) .g))])) τ
    refine XS.ifYes X439.here hx rfl (pc0 := 22) (pc' := 38) rfl (Jvm.hb hby d3_22) rfl ((if0 _ _).trans (tlt pc1).2.2.1) (by decide) (by decide) ?_
    show Steps p.tables e below (T439.setTop (mkF m 38 #[.val (.ref a), .val (.int xs), .val (.double xv), .second] [])) τ
    refine XS.aloadN X439.here hx rfl (Jvm.hb hby d3_38) rfl rfl ?_
    show Steps p.tables e below (T439.setTop (mkF m 39 #[.val (.ref a), .val (.int xs), .val (.double xv), .second] [(.ref a)])) τ
    refine XS.dup X439.here hx rfl (Jvm.hb hby d3_39) rfl rfl ?_
    exact kt)
  obtain ⟨T444, X444, e444, st444⟩ := getF X439 hx hZ hown (host := "") (Or.inl (hw _ (List.mem_of_getElem? (i := 15) rfl))) Via.refl e439 fw425 (g := (mkF m 40 #[.val (.ref a), .val (.int xs), .val (.double xv), .second] [(.ref a), (.ref a)])) rfl rfl (Jvm.hb hby d3_40)
  have pre445 : ∀ τ, Steps p.tables e below (T444.setTop (mkF m 43 #[.val (.ref a), .val (.int xs), .val (.double xv), .second] [(.int (2 : Int32)), (.ref a)])) τ → Steps p.tables e below (s₁.setTop (entryFrame m #[(.ref a), (.int xs), (.double xv)] 4)) τ := fun τ kt => pre443 τ (st444 τ kt)
  have pre446 : ∀ τ, Steps p.tables e below (T444.setTop (mkF m 45 #[.val (.ref a), .val (.int xs), .val (.double xv), .second] [(.int (1 : Int32)), (.ref a)])) τ → Steps p.tables e below (s₁.setTop (entryFrame m #[(.ref a), (.int xs), (.double xv)] 4)) τ := fun τ kt => pre445 τ (by
    show Steps p.tables e below (T444.setTop (mkF m 43 #[.val (.ref a), .val (.int xs), .val (.double xv), .second] [(.int (2 : Int32)), (.ref a)])) τ
    refine XS.iconst X444.here hx rfl (Jvm.hb hby d3_43) ?_
    show Steps p.tables e below (T444.setTop (mkF m 44 #[.val (.ref a), .val (.int xs), .val (.double xv), .second] [(.int (1 : Int32)), (.int (2 : Int32)), (.ref a)])) τ
    refine XS.isub X444.here hx rfl (Jvm.hb hby d3_44) rfl ?_
    exact kt)
  have f448 := E7.wr W425
  obtain ⟨T447, h447, X447, e447, W447, st447⟩ := putF X444 hx hZ hown (host := "") (Or.inl (hw _ (List.mem_of_getElem? (i := 15) rfl))) Via.refl e444 fw425 f448 (Or.inl (hw _ (List.mem_of_getElem? (i := 16) rfl))) (hw _ (List.mem_of_getElem? (i := 1) rfl)) (ty := .int) (by decide) rfl rfl (g := (mkF m 45 #[.val (.ref a), .val (.int xs), .val (.double xv), .second] [(.int (1 : Int32)), (.ref a)])) rfl rfl (Jvm.hb hby d3_45)
  have fw447 := Fld.same W447 fw425
  have N447 := Fr.snoc X447 N425 ga
  have K447 : Keep h0 h447 [a, A, B] := K425.wr W447 (Or.inl (by simp))
  have pre449 : ∀ τ, Steps p.tables e below (T447.setTop (mkF m 48 #[.val (.ref a), .val (.int xs), .val (.double xv), .second] [])) τ → Steps p.tables e below (s₁.setTop (entryFrame m #[(.ref a), (.int xs), (.double xv)] 4)) τ := fun τ kt => pre446 τ (st447 τ kt)
  have pre450 : ∀ τ, Steps p.tables e below (T447.setTop (mkF m 49 #[.val (.ref a), .val (.int xs), .val (.double xv), .second] [(.ref a)])) τ → Steps p.tables e below (s₁.setTop (entryFrame m #[(.ref a), (.int xs), (.double xv)] 4)) τ := fun τ kt => pre449 τ (by
    show Steps p.tables e below (T447.setTop (mkF m 48 #[.val (.ref a), .val (.int xs), .val (.double xv), .second] [])) τ
    refine XS.aloadN X447.here hx rfl (Jvm.hb hby d3_48) rfl rfl ?_
    exact kt)
  have f452 := (FS.other W425 (Or.inr (slot_ne (Or.inr (hw _ (List.mem_of_getElem? (i := 11) rfl))) (Or.inl (hw _ (List.mem_of_getElem? (i := 16) rfl))) (by decide) (t := (.array .int)) (t' := .int) (by decide) (by decide))))
  have f453 := (f452.other W447 (Or.inr (slot_ne (Or.inr (hw _ (List.mem_of_getElem? (i := 11) rfl))) (Or.inl (hw _ (List.mem_of_getElem? (i := 16) rfl))) (by decide) (t := (.array .int)) (t' := .int) (by decide) (by decide))))
  obtain ⟨T451, X451, e451, st451⟩ := getF X447 hx hZ hown (host := "") (Or.inl (hw _ (List.mem_of_getElem? (i := 10) rfl))) Via.refl e447 f453 (g := (mkF m 49 #[.val (.ref a), .val (.int xs), .val (.double xv), .second] [(.ref a)])) rfl rfl (Jvm.hb hby d3_49)
  have pre454 : ∀ τ, Steps p.tables e below (T451.setTop (mkF m 52 #[.val (.ref a), .val (.int xs), .val (.double xv), .second] [(.ref A)])) τ → Steps p.tables e below (s₁.setTop (entryFrame m #[(.ref a), (.int xs), (.double xv)] 4)) τ := fun τ kt => pre450 τ (st451 τ kt)
  have pre455 : ∀ τ, Steps p.tables e below (T451.setTop (mkF m 53 #[.val (.ref a), .val (.int xs), .val (.double xv), .second] [(.ref a), (.ref A)])) τ → Steps p.tables e below (s₁.setTop (entryFrame m #[(.ref a), (.int xs), (.double xv)] 4)) τ := fun τ kt => pre454 τ (by
    show Steps p.tables e below (T451.setTop (mkF m 52 #[.val (.ref a), .val (.int xs), .val (.double xv), .second] [(.ref A)])) τ
    refine XS.aloadN X451.here hx rfl (Jvm.hb hby d3_52) rfl rfl ?_
    exact kt)
  obtain ⟨T456, X456, e456, st456⟩ := getF X451 hx hZ hown (host := "") (Or.inl (hw _ (List.mem_of_getElem? (i := 15) rfl))) Via.refl e451 fw447 (g := (mkF m 53 #[.val (.ref a), .val (.int xs), .val (.double xv), .second] [(.ref a), (.ref A)])) rfl rfl (Jvm.hb hby d3_53)
  have pre457 : ∀ τ, Steps p.tables e below (T456.setTop (mkF m 56 #[.val (.ref a), .val (.int xs), .val (.double xv), .second] [(.int (1 : Int32)), (.ref A)])) τ → Steps p.tables e below (s₁.setTop (entryFrame m #[(.ref a), (.int xs), (.double xv)] 4)) τ := fun τ kt => pre455 τ (st456 τ kt)
  have pre458 : ∀ τ, Steps p.tables e below (T456.setTop (mkF m 57 #[.val (.ref a), .val (.int xs), .val (.double xv), .second] [(.int xs), (.int (1 : Int32)), (.ref A)])) τ → Steps p.tables e below (s₁.setTop (entryFrame m #[(.ref a), (.int xs), (.double xv)] 4)) τ := fun τ kt => pre457 τ (by
    show Steps p.tables e below (T456.setTop (mkF m 56 #[.val (.ref a), .val (.int xs), .val (.double xv), .second] [(.int (1 : Int32)), (.ref A)])) τ
    refine XS.iloadN X456.here hx rfl (Jvm.hb hby d3_56) rfl ?_
    exact kt)
  have f459 := VS.other W425 (Ne.symm naA)
  have f460 := f459.other W447 (Ne.symm naA)
  obtain ⟨cl461, Ar461, q461, S461, M461, H461, U461⟩ := id f460
  obtain ⟨T462, h462, X462, e462, W462, st462⟩ := stI X456 hx hZ e456 Ar461 (j := (1 : Int32)) (inb_of S461 ⟨by decide, by decide⟩) (g := (mkF m 57 #[.val (.ref a), .val (.int xs), .val (.double xv), .second] [(.int xs), (.int (1 : Int32)), (.ref A)])) rfl rfl (Jvm.hb hby d3_57)
  have V462 : Arv Z h462 A kA .int (3 : Int32) [(.int s0), (.int xs), (.int s2)] (.int (0 : Int32)) := Arv.set Ar461 q461 S461 M461 H461 U461 rfl W462 1 rfl (Nat.le_of_ble_eq_true rfl)
  have N462 := Fr.snoc X462 N447 gA
  have K462 : Keep h0 h462 [a, A, B] := K447.wr W462 (Or.inl (by simp))
  have pre463 : ∀ τ, Steps p.tables e below (T462.setTop (mkF m 58 #[.val (.ref a), .val (.int xs), .val (.double xv), .second] [])) τ → Steps p.tables e below (s₁.setTop (entryFrame m #[(.ref a), (.int xs), (.double xv)] 4)) τ := fun τ kt => pre458 τ (st462 τ kt)
  have pre464 : ∀ τ, Steps p.tables e below (T462.setTop (mkF m 59 #[.val (.ref a), .val (.int xs), .val (.double xv), .second] [(.ref a)])) τ → Steps p.tables e below (s₁.setTop (entryFrame m #[(.ref a), (.int xs), (.double xv)] 4)) τ := fun τ kt => pre463 τ (by
    show Steps p.tables e below (T462.setTop (mkF m 58 #[.val (.ref a), .val (.int xs), .val (.double xv), .second] [])) τ
    refine XS.aloadN X462.here hx rfl (Jvm.hb hby d3_58) rfl rfl ?_
    exact kt)
  have f466 := (f436.other W447 (Or.inr (slot_ne (Or.inr (hw _ (List.mem_of_getElem? (i := 14) rfl))) (Or.inl (hw _ (List.mem_of_getElem? (i := 16) rfl))) (by decide) (t := (.array .double)) (t' := .int) (by decide) (by decide))))
  have f467 := (f466.other W462 (Or.inl naA))
  obtain ⟨T465, X465, e465, st465⟩ := getF X462 hx hZ hown (host := "") (Or.inl (hw _ (List.mem_of_getElem? (i := 13) rfl))) Via.refl e462 f467 (g := (mkF m 59 #[.val (.ref a), .val (.int xs), .val (.double xv), .second] [(.ref a)])) rfl rfl (Jvm.hb hby d3_59)
  have pre468 : ∀ τ, Steps p.tables e below (T465.setTop (mkF m 62 #[.val (.ref a), .val (.int xs), .val (.double xv), .second] [(.ref B)])) τ → Steps p.tables e below (s₁.setTop (entryFrame m #[(.ref a), (.int xs), (.double xv)] 4)) τ := fun τ kt => pre464 τ (st465 τ kt)
  have pre469 : ∀ τ, Steps p.tables e below (T465.setTop (mkF m 63 #[.val (.ref a), .val (.int xs), .val (.double xv), .second] [(.ref a), (.ref B)])) τ → Steps p.tables e below (s₁.setTop (entryFrame m #[(.ref a), (.int xs), (.double xv)] 4)) τ := fun τ kt => pre468 τ (by
    show Steps p.tables e below (T465.setTop (mkF m 62 #[.val (.ref a), .val (.int xs), .val (.double xv), .second] [(.ref B)])) τ
    refine XS.aloadN X465.here hx rfl (Jvm.hb hby d3_62) rfl rfl ?_
    exact kt)
  have f471 := (fw447.other W462 (Or.inl naA))
  obtain ⟨T470, X470, e470, st470⟩ := getF X465 hx hZ hown (host := "") (Or.inl (hw _ (List.mem_of_getElem? (i := 15) rfl))) Via.refl e465 f471 (g := (mkF m 63 #[.val (.ref a), .val (.int xs), .val (.double xv), .second] [(.ref a), (.ref B)])) rfl rfl (Jvm.hb hby d3_63)
  have pre472 : ∀ τ, Steps p.tables e below (T470.setTop (mkF m 66 #[.val (.ref a), .val (.int xs), .val (.double xv), .second] [(.int (1 : Int32)), (.ref B)])) τ → Steps p.tables e below (s₁.setTop (entryFrame m #[(.ref a), (.int xs), (.double xv)] 4)) τ := fun τ kt => pre469 τ (st470 τ kt)
  have pre473 : ∀ τ, Steps p.tables e below (T470.setTop (mkF m 67 #[.val (.ref a), .val (.int xs), .val (.double xv), .second] [(.double xv), (.int (1 : Int32)), (.ref B)])) τ → Steps p.tables e below (s₁.setTop (entryFrame m #[(.ref a), (.int xs), (.double xv)] 4)) τ := fun τ kt => pre472 τ (by
    show Steps p.tables e below (T470.setTop (mkF m 66 #[.val (.ref a), .val (.int xs), .val (.double xv), .second] [(.int (1 : Int32)), (.ref B)])) τ
    refine own_dloadN X470.here hx rfl (Jvm.hb hby d3_66) rfl ?_
    exact kt)
  have f474 := f441.other W447 (Ne.symm naB)
  have f475 := f474.other W462 (Ne.symm nAB)
  obtain ⟨cl476, Ar476, q476, S476, M476, H476, U476⟩ := id f475
  obtain ⟨T477, h477, X477, e477, W477, st477⟩ := own_stD X470 hx hZ e470 Ar476 (j := (1 : Int32)) (inb_of S476 ⟨by decide, by decide⟩) (g := (mkF m 67 #[.val (.ref a), .val (.int xs), .val (.double xv), .second] [(.double xv), (.int (1 : Int32)), (.ref B)])) rfl rfl (Jvm.hb hby d3_67)
  have V477 : Arv Z h477 B kB .double (3 : Int32) [(.double v0), (.double xv), (.double v2)] (.double (0 : UInt64)) := Arv.set Ar476 q476 S476 M476 H476 U476 rfl W477 1 rfl (Nat.le_of_ble_eq_true rfl)
  have N477 := Fr.snoc X477 N462 gB
  have K477 : Keep h0 h477 [a, A, B] := K462.wr W477 (Or.inl (by simp))
  have pre478 : ∀ τ, Steps p.tables e below (T477.setTop (mkF m 68 #[.val (.ref a), .val (.int xs), .val (.double xv), .second] [])) τ → Steps p.tables e below (s₁.setTop (entryFrame m #[(.ref a), (.int xs), (.double xv)] 4)) τ := fun τ kt => pre473 τ (st477 τ kt)
  have f479 := (f453.other W462 (Or.inl naA))
  have f480 := (f479.other W477 (Or.inl naB))
  have f481 := (f467.other W477 (Or.inl naB))
  have f482 := (f471.other W477 (Or.inl naB))
  have f483 := (f432.other W447 (Or.inr (slot_ne (Or.inl (hw _ (List.mem_of_getElem? (i := 18) rfl))) (Or.inl (hw _ (List.mem_of_getElem? (i := 16) rfl))) (by decide) (t := .int) (t' := .int) (by decide) (by decide))))
  have f484 := (f483.other W462 (Or.inl naA))
  have f485 := (f484.other W477 (Or.inl naB))
  have f486 := V462.other W477 nAB
  obtain ⟨fs, hrL, hrun, hended, hW, hsame⟩ := X477.leave (v := none) (fun _ => rfl)
  refine ⟨_, _, pre478 _ ?_, hrun, hended, _, _, rfl, ?_, ⟨_, rfl⟩, hW, hsame.mono (by decide) (by decide)⟩
  · show Steps p.tables e below (T477.setTop (mkF m 68 #[.val (.ref a), .val (.int xs), .val (.double xv), .second] [])) _
    exact X477.returnOut hx Bd.returns (Jvm.hb hby d3_68) hrL
  · show QC Z a A B kA kB (1 : Int32) (3 : Int32) [(.int s0), (.int xs), (.int s2)] [(.double v0), (.double xv), (.double v2)] h0 n0 _ T477.heap _
    rw [e477]
    exact ⟨rfl, N477, K477, f480, f481, f482, f485, f486, V477⟩
set_option maxRecDepth 65536 in
set_option maxHeartbeats 40000000 in
theorem rmMax_13 (l : Launch) (Z : State) (a0 : Array Value) (hw : ∀ d ∈ tables_1, d.before a0 Z = true) (ws : List Jvm.Cond) (a : Addr) (A B : Addr) (kA kB : ClassId) (s0 s1 s2 : Int32) (v0 v1 v2 : UInt64) (h0 : Heap) (n0 : Nat) (Z0 : n0 ≤ h0.size) (E7 : Exa Z h0 a "com/example/counterpath/counterpath/core/CappedMaximum") (FS : Fld Z h0 a "com/example/counterpath/counterpath/core/CappedMaximum" "samples" "[I" (.ref A)) (FV : Fld Z h0 a "com/example/counterpath/counterpath/core/CappedMaximum" "values" "[D" (.ref B)) (FH : Fld Z h0 a "com/example/counterpath/counterpath/core/CappedMaximum" "head" "I" (.int (1 : Int32))) (FT : Fld Z h0 a "com/example/counterpath/counterpath/core/CappedMaximum" "tail" "I" (.int (3 : Int32))) (VS : Arv Z h0 A kA .int (3 : Int32) [(.int s0), (.int s1), (.int s2)] (.int (0 : Int32))) (VV : Arv Z h0 B kB .double (3 : Int32) [(.double v0), (.double v1), (.double v2)] (.double (0 : UInt64))) (naA : a ≠ A) (naB : a ≠ B) (nAB : A ≠ B) (ga : n0 ≤ a) (gA : n0 ≤ A) (gB : n0 ≤ B)  :
    MetFree l (⟨"com/example/counterpath/counterpath/core/CappedMaximum", "maximum", "()D"⟩ : MethodName) (head1 (Jvm.Cond.code (⟨"com/example/counterpath/counterpath/core/CappedMaximum", "maximum", "()D"⟩ : MethodName) prog_3_method_5_code 1 (some .double) :: ws) ({ frames := 0, cells := 0, slots := 0, locals := 0 } : Room)) (fun α U => α = #[(.ref a)] ∧ Z.Warmed39 U.vm ∧ U.heap = h0) (fun _ _ _ _ _ => True) (fun _ U ω U' => ∃ ν Λ, ω = .returned ν ∧ QD v2 h0 n0 ν U'.heap Λ ∧ FrameEnd U ω U' Λ ({ frames := 0, cells := 0, slots := 0, locals := 0 } : Room).cells ({ frames := 0, cells := 0, slots := 0, locals := 0 } : Room).slots) := by
  refine MetFree.of_bodySF (plainFor_of_name own_pn_com_example_counterpath_counterpath_core_CappedMaximum) hisR ?_
  intro p e s m args below meth c s₁ Bd hml0 hP hK
  obtain ⟨rfl, hZ, hh⟩ := hP
  have hx := Bd.exec
  have hby := Bd.bytes
  have hml : c.maxLocals = 1 := hml0
  have hown : s.vm.findClass "com/example/counterpath/counterpath/core/CappedMaximum" = some m.cls := findClass_of_methodNamed Bd.named
  have hnm := (name_of_methodNamed Bd.named Bd.method).1
  have X0 : Stand p l e ({ frames := 0, cells := 0, slots := 0, locals := 0 } : Room) s m #[(.ref a)] below meth c s₁ [] 0 0 := Stand.of_body Bd
  have e0 : s₁.heap = h0 := by rw [← hh, Bd.state]; rfl
  have N0 := Fr.nil n0
  have KK0 : Keep h0 h0 [] := Keep.refl h0 []
  have pre0 : ∀ τ, Steps p.tables e below (s₁.setTop (mkF m 0 #[.val (.ref a)] [])) τ → Steps p.tables e below (s₁.setTop (entryFrame m #[(.ref a)] 1)) τ := fun τ κ => castTop (own_ef4 m a) κ
  have pre490 : ∀ τ, Steps p.tables e below (s₁.setTop (mkF m 1 #[.val (.ref a)] [(.ref a)])) τ → Steps p.tables e below (s₁.setTop (entryFrame m #[(.ref a)] 1)) τ := fun τ kt => pre0 τ (by
    show Steps p.tables e below (s₁.setTop (mkF m 0 #[.val (.ref a)] [])) τ
    refine XS.aloadN X0.here hx rfl (Jvm.hb hby d4_0) rfl rfl ?_
    exact kt)
  obtain ⟨T491, X491, e491, st491⟩ := getF X0 hx hZ hown (host := "") (Or.inl (hw _ (List.mem_of_getElem? (i := 17) rfl))) Via.refl e0 FT (g := (mkF m 1 #[.val (.ref a)] [(.ref a)])) rfl rfl (Jvm.hb hby d4_1)
  have pre492 : ∀ τ, Steps p.tables e below (T491.setTop (mkF m 4 #[.val (.ref a)] [(.int (3 : Int32))])) τ → Steps p.tables e below (s₁.setTop (entryFrame m #[(.ref a)] 1)) τ := fun τ kt => pre490 τ (st491 τ kt)
  have pre493 : ∀ τ, Steps p.tables e below (T491.setTop (mkF m 5 #[.val (.ref a)] [(.ref a), (.int (3 : Int32))])) τ → Steps p.tables e below (s₁.setTop (entryFrame m #[(.ref a)] 1)) τ := fun τ kt => pre492 τ (by
    show Steps p.tables e below (T491.setTop (mkF m 4 #[.val (.ref a)] [(.int (3 : Int32))])) τ
    refine XS.aloadN X491.here hx rfl (Jvm.hb hby d4_4) rfl rfl ?_
    exact kt)
  obtain ⟨T494, X494, e494, st494⟩ := getF X491 hx hZ hown (host := "") (Or.inl (hw _ (List.mem_of_getElem? (i := 15) rfl))) Via.refl e491 FH (g := (mkF m 5 #[.val (.ref a)] [(.ref a), (.int (3 : Int32))])) rfl rfl (Jvm.hb hby d4_5)
  have pre495 : ∀ τ, Steps p.tables e below (T494.setTop (mkF m 8 #[.val (.ref a)] [(.int (1 : Int32)), (.int (3 : Int32))])) τ → Steps p.tables e below (s₁.setTop (entryFrame m #[(.ref a)] 1)) τ := fun τ kt => pre493 τ (st494 τ kt)
  have pre496 : ∀ τ, Steps p.tables e below (T494.setTop (mkF m 12 #[.val (.ref a)] [(.ref a)])) τ → Steps p.tables e below (s₁.setTop (entryFrame m #[(.ref a)] 1)) τ := fun τ kt => pre495 τ (by
    show Steps p.tables e below (T494.setTop (mkF m 8 #[.val (.ref a)] [(.int (1 : Int32)), (.int (3 : Int32))])) τ
    refine XS.icmpNo X494.here hx rfl (Jvm.hb hby d4_8) rfl (tlt (by decide)).2.2.2 ?_
    show Steps p.tables e below (T494.setTop (mkF m 11 #[.val (.ref a)] [])) τ
    refine XS.aloadN X494.here hx rfl (Jvm.hb hby d4_11) rfl rfl ?_
    exact kt)
  obtain ⟨T497, X497, e497, st497⟩ := getF X494 hx hZ hown (host := "") (Or.inl (hw _ (List.mem_of_getElem? (i := 13) rfl))) Via.refl e494 FV (g := (mkF m 12 #[.val (.ref a)] [(.ref a)])) rfl rfl (Jvm.hb hby d4_12)
  have pre498 : ∀ τ, Steps p.tables e below (T497.setTop (mkF m 15 #[.val (.ref a)] [(.ref B)])) τ → Steps p.tables e below (s₁.setTop (entryFrame m #[(.ref a)] 1)) τ := fun τ kt => pre496 τ (st497 τ kt)
  have pre499 : ∀ τ, Steps p.tables e below (T497.setTop (mkF m 16 #[.val (.ref a)] [(.ref a), (.ref B)])) τ → Steps p.tables e below (s₁.setTop (entryFrame m #[(.ref a)] 1)) τ := fun τ kt => pre498 τ (by
    show Steps p.tables e below (T497.setTop (mkF m 15 #[.val (.ref a)] [(.ref B)])) τ
    refine XS.aloadN X497.here hx rfl (Jvm.hb hby d4_15) rfl rfl ?_
    exact kt)
  obtain ⟨T500, X500, e500, st500⟩ := getF X497 hx hZ hown (host := "") (Or.inl (hw _ (List.mem_of_getElem? (i := 17) rfl))) Via.refl e497 FT (g := (mkF m 16 #[.val (.ref a)] [(.ref a), (.ref B)])) rfl rfl (Jvm.hb hby d4_16)
  have pre501 : ∀ τ, Steps p.tables e below (T500.setTop (mkF m 19 #[.val (.ref a)] [(.int (3 : Int32)), (.ref B)])) τ → Steps p.tables e below (s₁.setTop (entryFrame m #[(.ref a)] 1)) τ := fun τ kt => pre499 τ (st500 τ kt)
  have pre502 : ∀ τ, Steps p.tables e below (T500.setTop (mkF m 21 #[.val (.ref a)] [(.int (2 : Int32)), (.ref B)])) τ → Steps p.tables e below (s₁.setTop (entryFrame m #[(.ref a)] 1)) τ := fun τ kt => pre501 τ (by
    show Steps p.tables e below (T500.setTop (mkF m 19 #[.val (.ref a)] [(.int (3 : Int32)), (.ref B)])) τ
    refine XS.iconst X500.here hx rfl (Jvm.hb hby d4_19) ?_
    show Steps p.tables e below (T500.setTop (mkF m 20 #[.val (.ref a)] [(.int (1 : Int32)), (.int (3 : Int32)), (.ref B)])) τ
    refine XS.isub X500.here hx rfl (Jvm.hb hby d4_20) rfl ?_
    exact kt)
  obtain ⟨cl503, Ar503, q503, S503, M503, H503, U503⟩ := id VV
  have in503 : ¬ ((2 : Int32) < 0 ∨ cl503.slots.size ≤ ((2 : Int32)).toNatClampNeg) := inb_of S503 ⟨by decide, by decide⟩
  have pre504 : ∀ τ, Steps p.tables e below (T500.setTop (mkF m 28 #[.val (.ref a)] [(.double v2)])) τ → Steps p.tables e below (s₁.setTop (entryFrame m #[(.ref a)] 1)) τ := fun τ kt => pre502 τ (by
    show Steps p.tables e below (T500.setTop (mkF m 21 #[.val (.ref a)] [(.int (2 : Int32)), (.ref B)])) τ
    refine X500.daload hx (by rw [e500]; exact Ar503.1) (State.isArrayOf_alike hZ.alike Ar503.2.1) Ar503.2.2 in503 (H503.at in503 rfl) (g := (mkF m 21 #[.val (.ref a)] [(.int (2 : Int32)), (.ref B)])) rfl rfl (Jvm.hb hby d4_21) _ ?_
    show Steps p.tables e below (T500.setTop (mkF m 22 #[.val (.ref a)] [(.double v2)])) τ
    refine XS.goto X500.here hx rfl (pc0 := 22) (pc' := 28) rfl (Jvm.hb hby d4_22) (by decide) (by decide) ?_
    exact kt)
  obtain ⟨fs, hrL, hrun, hended, hW, hsame⟩ := X500.leave (v := some (.double v2)) (fun h => by rw [Bd.returns] at h; cases h)
  refine ⟨_, _, pre504 _ ?_, hrun, hended, _, _, rfl, ?_, ⟨_, rfl⟩, hW, hsame.mono (by decide) (by decide)⟩
  · show Steps p.tables e below (T500.setTop (mkF m 28 #[.val (.ref a)] [(.double v2)])) _
    exact own_retD X500 hx Bd.returns (Jvm.hb hby d4_28) hrL
  · show QD v2 h0 n0 _ T500.heap _
    rw [e500]
    exact ⟨rfl, N0, rfl⟩
set_option maxRecDepth 65536 in
set_option maxHeartbeats 40000000 in
theorem rmRem_13_cx (l : Launch) (Z : State) (a0 : Array Value) (hw : ∀ d ∈ tables_1, d.before a0 Z = true) (ws : List Jvm.Cond) (a : Addr) (xs : Int32) (A B : Addr) (kA kB : ClassId) (s0 s1 s2 : Int32) (v0 v1 v2 : UInt64) (h0 : Heap) (n0 : Nat) (Z0 : n0 ≤ h0.size) (E7 : Exa Z h0 a "com/example/counterpath/counterpath/core/CappedMaximum") (FS : Fld Z h0 a "com/example/counterpath/counterpath/core/CappedMaximum" "samples" "[I" (.ref A)) (FV : Fld Z h0 a "com/example/counterpath/counterpath/core/CappedMaximum" "values" "[D" (.ref B)) (FH : Fld Z h0 a "com/example/counterpath/counterpath/core/CappedMaximum" "head" "I" (.int (1 : Int32))) (FT : Fld Z h0 a "com/example/counterpath/counterpath/core/CappedMaximum" "tail" "I" (.int (3 : Int32))) (VS : Arv Z h0 A kA .int (3 : Int32) [(.int s0), (.int s1), (.int s2)] (.int (0 : Int32))) (VV : Arv Z h0 B kB .double (3 : Int32) [(.double v0), (.double v1), (.double v2)] (.double (0 : UInt64))) (naA : a ≠ A) (naB : a ≠ B) (nAB : A ≠ B) (ga : n0 ≤ a) (gA : n0 ≤ A) (gB : n0 ≤ B) (pc0 : xs < s2) (pc1 : ¬ (xs < s1)) :
    MetFree l (⟨"com/example/counterpath/counterpath/core/CappedMaximum", "removeAfter", "(I)V"⟩ : MethodName) (head1 (Jvm.Cond.code (⟨"com/example/counterpath/counterpath/core/CappedMaximum", "removeAfter", "(I)V"⟩ : MethodName) prog_3_method_4_code 2 none :: ws) ({ frames := 0, cells := 0, slots := 0, locals := 0 } : Room)) (fun α U => α = #[(.ref a), (.int xs)] ∧ Z.Warmed39 U.vm ∧ U.heap = h0) (fun _ _ _ _ _ => True) (fun _ U ω U' => ∃ ν Λ, ω = .returned ν ∧ QC Z a A B kA kB (1 : Int32) (2 : Int32) [(.int s0), (.int s1), (.int s2)] [(.double v0), (.double v1), (.double v2)] h0 n0 ν U'.heap Λ ∧ FrameEnd U ω U' Λ ({ frames := 0, cells := 0, slots := 0, locals := 0 } : Room).cells ({ frames := 0, cells := 0, slots := 0, locals := 0 } : Room).slots) := by
  refine MetFree.of_bodySF (plainFor_of_name own_pn_com_example_counterpath_counterpath_core_CappedMaximum) hisR ?_
  intro p e s m args below meth c s₁ Bd hml0 hP hK
  obtain ⟨rfl, hZ, hh⟩ := hP
  have hx := Bd.exec
  have hby := Bd.bytes
  have hml : c.maxLocals = 2 := hml0
  have hown : s.vm.findClass "com/example/counterpath/counterpath/core/CappedMaximum" = some m.cls := findClass_of_methodNamed Bd.named
  have hnm := (name_of_methodNamed Bd.named Bd.method).1
  have X0 : Stand p l e ({ frames := 0, cells := 0, slots := 0, locals := 0 } : Room) s m #[(.ref a), (.int xs)] below meth c s₁ [] 0 0 := Stand.of_body Bd
  have e0 : s₁.heap = h0 := by rw [← hh, Bd.state]; rfl
  have N0 := Fr.nil n0
  have KK0 : Keep h0 h0 [a, A, B] := Keep.refl h0 [a, A, B]
  have pre0 : ∀ τ, Steps p.tables e below (s₁.setTop (mkF m 0 #[.val (.ref a), .val (.int xs)] [])) τ → Steps p.tables e below (s₁.setTop (entryFrame m #[(.ref a), (.int xs)] 2)) τ := fun τ κ => castTop (own_ef6 m a xs) κ
  have pre514 : ∀ τ, Steps p.tables e below (s₁.setTop (mkF m 1 #[.val (.ref a), .val (.int xs)] [(.ref a)])) τ → Steps p.tables e below (s₁.setTop (entryFrame m #[(.ref a), (.int xs)] 2)) τ := fun τ kt => pre0 τ (by
    show Steps p.tables e below (s₁.setTop (mkF m 0 #[.val (.ref a), .val (.int xs)] [])) τ
    refine XS.aloadN X0.here hx rfl (Jvm.hb hby d6_0) rfl rfl ?_
    exact kt)
  obtain ⟨T515, X515, e515, st515⟩ := getF X0 hx hZ hown (host := "") (Or.inl (hw _ (List.mem_of_getElem? (i := 17) rfl))) Via.refl e0 FT (g := (mkF m 1 #[.val (.ref a), .val (.int xs)] [(.ref a)])) rfl rfl (Jvm.hb hby d6_1)
  have pre516 : ∀ τ, Steps p.tables e below (T515.setTop (mkF m 4 #[.val (.ref a), .val (.int xs)] [(.int (3 : Int32))])) τ → Steps p.tables e below (s₁.setTop (entryFrame m #[(.ref a), (.int xs)] 2)) τ := fun τ kt => pre514 τ (st515 τ kt)
  have pre517 : ∀ τ, Steps p.tables e below (T515.setTop (mkF m 5 #[.val (.ref a), .val (.int xs)] [(.ref a), (.int (3 : Int32))])) τ → Steps p.tables e below (s₁.setTop (entryFrame m #[(.ref a), (.int xs)] 2)) τ := fun τ kt => pre516 τ (by
    show Steps p.tables e below (T515.setTop (mkF m 4 #[.val (.ref a), .val (.int xs)] [(.int (3 : Int32))])) τ
    refine XS.aloadN X515.here hx rfl (Jvm.hb hby d6_4) rfl rfl ?_
    exact kt)
  obtain ⟨T518, X518, e518, st518⟩ := getF X515 hx hZ hown (host := "") (Or.inl (hw _ (List.mem_of_getElem? (i := 15) rfl))) Via.refl e515 FH (g := (mkF m 5 #[.val (.ref a), .val (.int xs)] [(.ref a), (.int (3 : Int32))])) rfl rfl (Jvm.hb hby d6_5)
  have pre519 : ∀ τ, Steps p.tables e below (T518.setTop (mkF m 8 #[.val (.ref a), .val (.int xs)] [(.int (1 : Int32)), (.int (3 : Int32))])) τ → Steps p.tables e below (s₁.setTop (entryFrame m #[(.ref a), (.int xs)] 2)) τ := fun τ kt => pre517 τ (st518 τ kt)
  have pre520 : ∀ τ, Steps p.tables e below (T518.setTop (mkF m 12 #[.val (.ref a), .val (.int xs)] [(.ref a)])) τ → Steps p.tables e below (s₁.setTop (entryFrame m #[(.ref a), (.int xs)] 2)) τ := fun τ kt => pre519 τ (by
    show Steps p.tables e below (T518.setTop (mkF m 8 #[.val (.ref a), .val (.int xs)] [(.int (1 : Int32)), (.int (3 : Int32))])) τ
    refine XS.icmpNo X518.here hx rfl (Jvm.hb hby d6_8) rfl (tlt (by decide)).2.2.2 ?_
    show Steps p.tables e below (T518.setTop (mkF m 11 #[.val (.ref a), .val (.int xs)] [])) τ
    refine XS.aloadN X518.here hx rfl (Jvm.hb hby d6_11) rfl rfl ?_
    exact kt)
  obtain ⟨T521, X521, e521, st521⟩ := getF X518 hx hZ hown (host := "") (Or.inl (hw _ (List.mem_of_getElem? (i := 10) rfl))) Via.refl e518 FS (g := (mkF m 12 #[.val (.ref a), .val (.int xs)] [(.ref a)])) rfl rfl (Jvm.hb hby d6_12)
  have pre522 : ∀ τ, Steps p.tables e below (T521.setTop (mkF m 15 #[.val (.ref a), .val (.int xs)] [(.ref A)])) τ → Steps p.tables e below (s₁.setTop (entryFrame m #[(.ref a), (.int xs)] 2)) τ := fun τ kt => pre520 τ (st521 τ kt)
  have pre523 : ∀ τ, Steps p.tables e below (T521.setTop (mkF m 16 #[.val (.ref a), .val (.int xs)] [(.ref a), (.ref A)])) τ → Steps p.tables e below (s₁.setTop (entryFrame m #[(.ref a), (.int xs)] 2)) τ := fun τ kt => pre522 τ (by
    show Steps p.tables e below (T521.setTop (mkF m 15 #[.val (.ref a), .val (.int xs)] [(.ref A)])) τ
    refine XS.aloadN X521.here hx rfl (Jvm.hb hby d6_15) rfl rfl ?_
    exact kt)
  obtain ⟨T524, X524, e524, st524⟩ := getF X521 hx hZ hown (host := "") (Or.inl (hw _ (List.mem_of_getElem? (i := 17) rfl))) Via.refl e521 FT (g := (mkF m 16 #[.val (.ref a), .val (.int xs)] [(.ref a), (.ref A)])) rfl rfl (Jvm.hb hby d6_16)
  have pre525 : ∀ τ, Steps p.tables e below (T524.setTop (mkF m 19 #[.val (.ref a), .val (.int xs)] [(.int (3 : Int32)), (.ref A)])) τ → Steps p.tables e below (s₁.setTop (entryFrame m #[(.ref a), (.int xs)] 2)) τ := fun τ kt => pre523 τ (st524 τ kt)
  have pre526 : ∀ τ, Steps p.tables e below (T524.setTop (mkF m 21 #[.val (.ref a), .val (.int xs)] [(.int (2 : Int32)), (.ref A)])) τ → Steps p.tables e below (s₁.setTop (entryFrame m #[(.ref a), (.int xs)] 2)) τ := fun τ kt => pre525 τ (by
    show Steps p.tables e below (T524.setTop (mkF m 19 #[.val (.ref a), .val (.int xs)] [(.int (3 : Int32)), (.ref A)])) τ
    refine XS.iconst X524.here hx rfl (Jvm.hb hby d6_19) ?_
    show Steps p.tables e below (T524.setTop (mkF m 20 #[.val (.ref a), .val (.int xs)] [(.int (1 : Int32)), (.int (3 : Int32)), (.ref A)])) τ
    refine XS.isub X524.here hx rfl (Jvm.hb hby d6_20) rfl ?_
    exact kt)
  obtain ⟨cl527, Ar527, q527, S527, M527, H527, U527⟩ := id VS
  have in527 : ¬ ((2 : Int32) < 0 ∨ cl527.slots.size ≤ ((2 : Int32)).toNatClampNeg) := inb_of S527 ⟨by decide, by decide⟩
  have pre528 : ∀ τ, Steps p.tables e below (T524.setTop (mkF m 28 #[.val (.ref a), .val (.int xs)] [(.ref a), (.ref a)])) τ → Steps p.tables e below (s₁.setTop (entryFrame m #[(.ref a), (.int xs)] 2)) τ := fun τ kt => pre526 τ (by
    show Steps p.tables e below (T524.setTop (mkF m 21 #[.val (.ref a), .val (.int xs)] [(.int (2 : Int32)), (.ref A)])) τ
    refine X524.iaload hx (by rw [e524]; exact Ar527.1) (State.isArrayOf_alike hZ.alike Ar527.2.1) Ar527.2.2 in527 (H527.at in527 rfl) (g := (mkF m 21 #[.val (.ref a), .val (.int xs)] [(.int (2 : Int32)), (.ref A)])) rfl rfl (Jvm.hb hby d6_21) _ ?_
    show Steps p.tables e below (T524.setTop (mkF m 22 #[.val (.ref a), .val (.int xs)] [(.int s2)])) τ
    refine XS.iloadN X524.here hx rfl (Jvm.hb hby d6_22) rfl ?_
    show Steps p.tables e below (T524.setTop (mkF m 23 #[.val (.ref a), .val (.int xs)] [(.int xs), (.int s2)])) τ
    refine XS.icmpNo X524.here hx rfl (Jvm.hb hby d6_23) rfl (tlt pc0).2.2.2 ?_
    show Steps p.tables e below (T524.setTop (mkF m 26 #[.val (.ref a), .val (.int xs)] [])) τ
    refine XS.aloadN X524.here hx rfl (Jvm.hb hby d6_26) rfl rfl ?_
    show Steps p.tables e below (T524.setTop (mkF m 27 #[.val (.ref a), .val (.int xs)] [(.ref a)])) τ
    refine XS.dup X524.here hx rfl (Jvm.hb hby d6_27) rfl rfl ?_
    exact kt)
  obtain ⟨T529, X529, e529, st529⟩ := getF X524 hx hZ hown (host := "") (Or.inl (hw _ (List.mem_of_getElem? (i := 17) rfl))) Via.refl e524 FT (g := (mkF m 28 #[.val (.ref a), .val (.int xs)] [(.ref a), (.ref a)])) rfl rfl (Jvm.hb hby d6_28)
  have pre530 : ∀ τ, Steps p.tables e below (T529.setTop (mkF m 31 #[.val (.ref a), .val (.int xs)] [(.int (3 : Int32)), (.ref a)])) τ → Steps p.tables e below (s₁.setTop (entryFrame m #[(.ref a), (.int xs)] 2)) τ := fun τ kt => pre528 τ (st529 τ kt)
  have pre531 : ∀ τ, Steps p.tables e below (T529.setTop (mkF m 33 #[.val (.ref a), .val (.int xs)] [(.int (2 : Int32)), (.ref a)])) τ → Steps p.tables e below (s₁.setTop (entryFrame m #[(.ref a), (.int xs)] 2)) τ := fun τ kt => pre530 τ (by
    show Steps p.tables e below (T529.setTop (mkF m 31 #[.val (.ref a), .val (.int xs)] [(.int (3 : Int32)), (.ref a)])) τ
    refine XS.iconst X529.here hx rfl (Jvm.hb hby d6_31) ?_
    show Steps p.tables e below (T529.setTop (mkF m 32 #[.val (.ref a), .val (.int xs)] [(.int (1 : Int32)), (.int (3 : Int32)), (.ref a)])) τ
    refine XS.isub X529.here hx rfl (Jvm.hb hby d6_32) rfl ?_
    exact kt)
  obtain ⟨T532, h532, X532, e532, W532, st532⟩ := putF X529 hx hZ hown (host := "") (Or.inl (hw _ (List.mem_of_getElem? (i := 17) rfl))) Via.refl e529 FT E7 (Or.inl (hw _ (List.mem_of_getElem? (i := 18) rfl))) (hw _ (List.mem_of_getElem? (i := 1) rfl)) (ty := .int) (by decide) rfl rfl (g := (mkF m 33 #[.val (.ref a), .val (.int xs)] [(.int (2 : Int32)), (.ref a)])) rfl rfl (Jvm.hb hby d6_33)
  have fw532 := Fld.same W532 FT
  have N532 := Fr.snoc X532 N0 ga
  have K532 : Keep h0 h532 [a, A, B] := KK0.wr W532 (Or.inl (by simp))
  have pre533 : ∀ τ, Steps p.tables e below (T532.setTop (mkF m 36 #[.val (.ref a), .val (.int xs)] [])) τ → Steps p.tables e below (s₁.setTop (entryFrame m #[(.ref a), (.int xs)] 2)) τ := fun τ kt => pre531 τ (st532 τ kt)
  have pre534 : ∀ τ, Steps p.tables e below (T532.setTop (mkF m 1 #[.val (.ref a), .val (.int xs)] [(.ref a)])) τ → Steps p.tables e below (s₁.setTop (entryFrame m #[(.ref a), (.int xs)] 2)) τ := fun τ kt => pre533 τ (by
    show Steps p.tables e below (T532.setTop (mkF m 36 #[.val (.ref a), .val (.int xs)] [])) τ
    refine XS.goto X532.here hx rfl (pc0 := 36) (pc' := 0) rfl (Jvm.hb hby d6_36) (by decide) (by decide) ?_
    show Steps p.tables e below (T532.setTop (mkF m 0 #[.val (.ref a), .val (.int xs)] [])) τ
    refine XS.aloadN X532.here hx rfl (Jvm.hb hby d6_0) rfl rfl ?_
    exact kt)
  obtain ⟨T535, X535, e535, st535⟩ := getF X532 hx hZ hown (host := "") (Or.inl (hw _ (List.mem_of_getElem? (i := 17) rfl))) Via.refl e532 fw532 (g := (mkF m 1 #[.val (.ref a), .val (.int xs)] [(.ref a)])) rfl rfl (Jvm.hb hby d6_1)
  have pre536 : ∀ τ, Steps p.tables e below (T535.setTop (mkF m 4 #[.val (.ref a), .val (.int xs)] [(.int (2 : Int32))])) τ → Steps p.tables e below (s₁.setTop (entryFrame m #[(.ref a), (.int xs)] 2)) τ := fun τ kt => pre534 τ (st535 τ kt)
  have pre537 : ∀ τ, Steps p.tables e below (T535.setTop (mkF m 5 #[.val (.ref a), .val (.int xs)] [(.ref a), (.int (2 : Int32))])) τ → Steps p.tables e below (s₁.setTop (entryFrame m #[(.ref a), (.int xs)] 2)) τ := fun τ kt => pre536 τ (by
    show Steps p.tables e below (T535.setTop (mkF m 4 #[.val (.ref a), .val (.int xs)] [(.int (2 : Int32))])) τ
    refine XS.aloadN X535.here hx rfl (Jvm.hb hby d6_4) rfl rfl ?_
    exact kt)
  have f539 := (FH.other W532 (Or.inr (slot_ne (Or.inl (hw _ (List.mem_of_getElem? (i := 16) rfl))) (Or.inl (hw _ (List.mem_of_getElem? (i := 18) rfl))) (by decide) (t := .int) (t' := .int) (by decide) (by decide))))
  obtain ⟨T538, X538, e538, st538⟩ := getF X535 hx hZ hown (host := "") (Or.inl (hw _ (List.mem_of_getElem? (i := 15) rfl))) Via.refl e535 f539 (g := (mkF m 5 #[.val (.ref a), .val (.int xs)] [(.ref a), (.int (2 : Int32))])) rfl rfl (Jvm.hb hby d6_5)
  have pre540 : ∀ τ, Steps p.tables e below (T538.setTop (mkF m 8 #[.val (.ref a), .val (.int xs)] [(.int (1 : Int32)), (.int (2 : Int32))])) τ → Steps p.tables e below (s₁.setTop (entryFrame m #[(.ref a), (.int xs)] 2)) τ := fun τ kt => pre537 τ (st538 τ kt)
  have pre541 : ∀ τ, Steps p.tables e below (T538.setTop (mkF m 12 #[.val (.ref a), .val (.int xs)] [(.ref a)])) τ → Steps p.tables e below (s₁.setTop (entryFrame m #[(.ref a), (.int xs)] 2)) τ := fun τ kt => pre540 τ (by
    show Steps p.tables e below (T538.setTop (mkF m 8 #[.val (.ref a), .val (.int xs)] [(.int (1 : Int32)), (.int (2 : Int32))])) τ
    refine XS.icmpNo X538.here hx rfl (Jvm.hb hby d6_8) rfl (tlt (by decide)).2.2.2 ?_
    show Steps p.tables e below (T538.setTop (mkF m 11 #[.val (.ref a), .val (.int xs)] [])) τ
    refine XS.aloadN X538.here hx rfl (Jvm.hb hby d6_11) rfl rfl ?_
    exact kt)
  have f543 := (FS.other W532 (Or.inr (slot_ne (Or.inr (hw _ (List.mem_of_getElem? (i := 11) rfl))) (Or.inl (hw _ (List.mem_of_getElem? (i := 18) rfl))) (by decide) (t := (.array .int)) (t' := .int) (by decide) (by decide))))
  obtain ⟨T542, X542, e542, st542⟩ := getF X538 hx hZ hown (host := "") (Or.inl (hw _ (List.mem_of_getElem? (i := 10) rfl))) Via.refl e538 f543 (g := (mkF m 12 #[.val (.ref a), .val (.int xs)] [(.ref a)])) rfl rfl (Jvm.hb hby d6_12)
  have pre544 : ∀ τ, Steps p.tables e below (T542.setTop (mkF m 15 #[.val (.ref a), .val (.int xs)] [(.ref A)])) τ → Steps p.tables e below (s₁.setTop (entryFrame m #[(.ref a), (.int xs)] 2)) τ := fun τ kt => pre541 τ (st542 τ kt)
  have pre545 : ∀ τ, Steps p.tables e below (T542.setTop (mkF m 16 #[.val (.ref a), .val (.int xs)] [(.ref a), (.ref A)])) τ → Steps p.tables e below (s₁.setTop (entryFrame m #[(.ref a), (.int xs)] 2)) τ := fun τ kt => pre544 τ (by
    show Steps p.tables e below (T542.setTop (mkF m 15 #[.val (.ref a), .val (.int xs)] [(.ref A)])) τ
    refine XS.aloadN X542.here hx rfl (Jvm.hb hby d6_15) rfl rfl ?_
    exact kt)
  obtain ⟨T546, X546, e546, st546⟩ := getF X542 hx hZ hown (host := "") (Or.inl (hw _ (List.mem_of_getElem? (i := 17) rfl))) Via.refl e542 fw532 (g := (mkF m 16 #[.val (.ref a), .val (.int xs)] [(.ref a), (.ref A)])) rfl rfl (Jvm.hb hby d6_16)
  have pre547 : ∀ τ, Steps p.tables e below (T546.setTop (mkF m 19 #[.val (.ref a), .val (.int xs)] [(.int (2 : Int32)), (.ref A)])) τ → Steps p.tables e below (s₁.setTop (entryFrame m #[(.ref a), (.int xs)] 2)) τ := fun τ kt => pre545 τ (st546 τ kt)
  have pre548 : ∀ τ, Steps p.tables e below (T546.setTop (mkF m 21 #[.val (.ref a), .val (.int xs)] [(.int (1 : Int32)), (.ref A)])) τ → Steps p.tables e below (s₁.setTop (entryFrame m #[(.ref a), (.int xs)] 2)) τ := fun τ kt => pre547 τ (by
    show Steps p.tables e below (T546.setTop (mkF m 19 #[.val (.ref a), .val (.int xs)] [(.int (2 : Int32)), (.ref A)])) τ
    refine XS.iconst X546.here hx rfl (Jvm.hb hby d6_19) ?_
    show Steps p.tables e below (T546.setTop (mkF m 20 #[.val (.ref a), .val (.int xs)] [(.int (1 : Int32)), (.int (2 : Int32)), (.ref A)])) τ
    refine XS.isub X546.here hx rfl (Jvm.hb hby d6_20) rfl ?_
    exact kt)
  have f549 := VS.other W532 (Ne.symm naA)
  obtain ⟨cl550, Ar550, q550, S550, M550, H550, U550⟩ := id f549
  have in550 : ¬ ((1 : Int32) < 0 ∨ cl550.slots.size ≤ ((1 : Int32)).toNatClampNeg) := inb_of S550 ⟨by decide, by decide⟩
  have f551 := (FV.other W532 (Or.inr (slot_ne (Or.inr (hw _ (List.mem_of_getElem? (i := 14) rfl))) (Or.inl (hw _ (List.mem_of_getElem? (i := 18) rfl))) (by decide) (t := (.array .double)) (t' := .int) (by decide) (by decide))))
  have f552 := VV.other W532 (Ne.symm naB)
  have pre553 : ∀ τ, Steps p.tables e below (T546.setTop (mkF m 39 #[.val (.ref a), .val (.int xs)] [])) τ → Steps p.tables e below (s₁.setTop (entryFrame m #[(.ref a), (.int xs)] 2)) τ := fun τ kt => pre548 τ (by
    show Steps p.tables e below (T546.setTop (mkF m 21 #[.val (.ref a), .val (.int xs)] [(.int (1 : Int32)), (.ref A)])) τ
    refine X546.iaload hx (by rw [e546]; exact Ar550.1) (State.isArrayOf_alike hZ.alike Ar550.2.1) Ar550.2.2 in550 (H550.at in550 rfl) (g := (mkF m 21 #[.val (.ref a), .val (.int xs)] [(.int (1 : Int32)), (.ref A)])) rfl rfl (Jvm.hb hby d6_21) _ ?_
    show Steps p.tables e below (T546.setTop (mkF m 22 #[.val (.ref a), .val (.int xs)] [(.int s1)])) τ
    refine XS.iloadN X546.here hx rfl (Jvm.hb hby d6_22) rfl ?_
    show Steps p.tables e below (T546.setTop (mkF m 23 #[.val (.ref a), .val (.int xs)] [(.int xs), (.int s1)])) τ
    refine XS.icmpYes X546.here hx rfl (pc0 := 23) (pc' := 39) rfl (Jvm.hb hby d6_23) rfl (flt pc1).2.2.2 (by decide) (by decide) ?_
    exact kt)
  obtain ⟨fs, hrL, hrun, hended, hW, hsame⟩ := X546.leave (v := none) (fun _ => rfl)
  refine ⟨_, _, pre553 _ ?_, hrun, hended, _, _, rfl, ?_, ⟨_, rfl⟩, hW, hsame.mono (by decide) (by decide)⟩
  · show Steps p.tables e below (T546.setTop (mkF m 39 #[.val (.ref a), .val (.int xs)] [])) _
    exact X546.returnOut hx Bd.returns (Jvm.hb hby d6_39) hrL
  · show QC Z a A B kA kB (1 : Int32) (2 : Int32) [(.int s0), (.int s1), (.int s2)] [(.double v0), (.double v1), (.double v2)] h0 n0 _ T546.heap _
    rw [e546]
    exact ⟨rfl, N532, K532, f543, f551, f539, fw532, f549, f552⟩
set_option maxRecDepth 65536 in
set_option maxHeartbeats 40000000 in
theorem rmMax_12 (l : Launch) (Z : State) (a0 : Array Value) (hw : ∀ d ∈ tables_1, d.before a0 Z = true) (ws : List Jvm.Cond) (a : Addr) (A B : Addr) (kA kB : ClassId) (s0 s1 s2 : Int32) (v0 v1 v2 : UInt64) (h0 : Heap) (n0 : Nat) (Z0 : n0 ≤ h0.size) (E7 : Exa Z h0 a "com/example/counterpath/counterpath/core/CappedMaximum") (FS : Fld Z h0 a "com/example/counterpath/counterpath/core/CappedMaximum" "samples" "[I" (.ref A)) (FV : Fld Z h0 a "com/example/counterpath/counterpath/core/CappedMaximum" "values" "[D" (.ref B)) (FH : Fld Z h0 a "com/example/counterpath/counterpath/core/CappedMaximum" "head" "I" (.int (1 : Int32))) (FT : Fld Z h0 a "com/example/counterpath/counterpath/core/CappedMaximum" "tail" "I" (.int (2 : Int32))) (VS : Arv Z h0 A kA .int (3 : Int32) [(.int s0), (.int s1), (.int s2)] (.int (0 : Int32))) (VV : Arv Z h0 B kB .double (3 : Int32) [(.double v0), (.double v1), (.double v2)] (.double (0 : UInt64))) (naA : a ≠ A) (naB : a ≠ B) (nAB : A ≠ B) (ga : n0 ≤ a) (gA : n0 ≤ A) (gB : n0 ≤ B)  :
    MetFree l (⟨"com/example/counterpath/counterpath/core/CappedMaximum", "maximum", "()D"⟩ : MethodName) (head1 (Jvm.Cond.code (⟨"com/example/counterpath/counterpath/core/CappedMaximum", "maximum", "()D"⟩ : MethodName) prog_3_method_5_code 1 (some .double) :: ws) ({ frames := 0, cells := 0, slots := 0, locals := 0 } : Room)) (fun α U => α = #[(.ref a)] ∧ Z.Warmed39 U.vm ∧ U.heap = h0) (fun _ _ _ _ _ => True) (fun _ U ω U' => ∃ ν Λ, ω = .returned ν ∧ QD v1 h0 n0 ν U'.heap Λ ∧ FrameEnd U ω U' Λ ({ frames := 0, cells := 0, slots := 0, locals := 0 } : Room).cells ({ frames := 0, cells := 0, slots := 0, locals := 0 } : Room).slots) := by
  refine MetFree.of_bodySF (plainFor_of_name own_pn_com_example_counterpath_counterpath_core_CappedMaximum) hisR ?_
  intro p e s m args below meth c s₁ Bd hml0 hP hK
  obtain ⟨rfl, hZ, hh⟩ := hP
  have hx := Bd.exec
  have hby := Bd.bytes
  have hml : c.maxLocals = 1 := hml0
  have hown : s.vm.findClass "com/example/counterpath/counterpath/core/CappedMaximum" = some m.cls := findClass_of_methodNamed Bd.named
  have hnm := (name_of_methodNamed Bd.named Bd.method).1
  have X0 : Stand p l e ({ frames := 0, cells := 0, slots := 0, locals := 0 } : Room) s m #[(.ref a)] below meth c s₁ [] 0 0 := Stand.of_body Bd
  have e0 : s₁.heap = h0 := by rw [← hh, Bd.state]; rfl
  have N0 := Fr.nil n0
  have KK0 : Keep h0 h0 [] := Keep.refl h0 []
  have pre0 : ∀ τ, Steps p.tables e below (s₁.setTop (mkF m 0 #[.val (.ref a)] [])) τ → Steps p.tables e below (s₁.setTop (entryFrame m #[(.ref a)] 1)) τ := fun τ κ => castTop (own_ef4 m a) κ
  have pre557 : ∀ τ, Steps p.tables e below (s₁.setTop (mkF m 1 #[.val (.ref a)] [(.ref a)])) τ → Steps p.tables e below (s₁.setTop (entryFrame m #[(.ref a)] 1)) τ := fun τ kt => pre0 τ (by
    show Steps p.tables e below (s₁.setTop (mkF m 0 #[.val (.ref a)] [])) τ
    refine XS.aloadN X0.here hx rfl (Jvm.hb hby d4_0) rfl rfl ?_
    exact kt)
  obtain ⟨T558, X558, e558, st558⟩ := getF X0 hx hZ hown (host := "") (Or.inl (hw _ (List.mem_of_getElem? (i := 17) rfl))) Via.refl e0 FT (g := (mkF m 1 #[.val (.ref a)] [(.ref a)])) rfl rfl (Jvm.hb hby d4_1)
  have pre559 : ∀ τ, Steps p.tables e below (T558.setTop (mkF m 4 #[.val (.ref a)] [(.int (2 : Int32))])) τ → Steps p.tables e below (s₁.setTop (entryFrame m #[(.ref a)] 1)) τ := fun τ kt => pre557 τ (st558 τ kt)
  have pre560 : ∀ τ, Steps p.tables e below (T558.setTop (mkF m 5 #[.val (.ref a)] [(.ref a), (.int (2 : Int32))])) τ → Steps p.tables e below (s₁.setTop (entryFrame m #[(.ref a)] 1)) τ := fun τ kt => pre559 τ (by
    show Steps p.tables e below (T558.setTop (mkF m 4 #[.val (.ref a)] [(.int (2 : Int32))])) τ
    refine XS.aloadN X558.here hx rfl (Jvm.hb hby d4_4) rfl rfl ?_
    exact kt)
  obtain ⟨T561, X561, e561, st561⟩ := getF X558 hx hZ hown (host := "") (Or.inl (hw _ (List.mem_of_getElem? (i := 15) rfl))) Via.refl e558 FH (g := (mkF m 5 #[.val (.ref a)] [(.ref a), (.int (2 : Int32))])) rfl rfl (Jvm.hb hby d4_5)
  have pre562 : ∀ τ, Steps p.tables e below (T561.setTop (mkF m 8 #[.val (.ref a)] [(.int (1 : Int32)), (.int (2 : Int32))])) τ → Steps p.tables e below (s₁.setTop (entryFrame m #[(.ref a)] 1)) τ := fun τ kt => pre560 τ (st561 τ kt)
  have pre563 : ∀ τ, Steps p.tables e below (T561.setTop (mkF m 12 #[.val (.ref a)] [(.ref a)])) τ → Steps p.tables e below (s₁.setTop (entryFrame m #[(.ref a)] 1)) τ := fun τ kt => pre562 τ (by
    show Steps p.tables e below (T561.setTop (mkF m 8 #[.val (.ref a)] [(.int (1 : Int32)), (.int (2 : Int32))])) τ
    refine XS.icmpNo X561.here hx rfl (Jvm.hb hby d4_8) rfl (tlt (by decide)).2.2.2 ?_
    show Steps p.tables e below (T561.setTop (mkF m 11 #[.val (.ref a)] [])) τ
    refine XS.aloadN X561.here hx rfl (Jvm.hb hby d4_11) rfl rfl ?_
    exact kt)
  obtain ⟨T564, X564, e564, st564⟩ := getF X561 hx hZ hown (host := "") (Or.inl (hw _ (List.mem_of_getElem? (i := 13) rfl))) Via.refl e561 FV (g := (mkF m 12 #[.val (.ref a)] [(.ref a)])) rfl rfl (Jvm.hb hby d4_12)
  have pre565 : ∀ τ, Steps p.tables e below (T564.setTop (mkF m 15 #[.val (.ref a)] [(.ref B)])) τ → Steps p.tables e below (s₁.setTop (entryFrame m #[(.ref a)] 1)) τ := fun τ kt => pre563 τ (st564 τ kt)
  have pre566 : ∀ τ, Steps p.tables e below (T564.setTop (mkF m 16 #[.val (.ref a)] [(.ref a), (.ref B)])) τ → Steps p.tables e below (s₁.setTop (entryFrame m #[(.ref a)] 1)) τ := fun τ kt => pre565 τ (by
    show Steps p.tables e below (T564.setTop (mkF m 15 #[.val (.ref a)] [(.ref B)])) τ
    refine XS.aloadN X564.here hx rfl (Jvm.hb hby d4_15) rfl rfl ?_
    exact kt)
  obtain ⟨T567, X567, e567, st567⟩ := getF X564 hx hZ hown (host := "") (Or.inl (hw _ (List.mem_of_getElem? (i := 17) rfl))) Via.refl e564 FT (g := (mkF m 16 #[.val (.ref a)] [(.ref a), (.ref B)])) rfl rfl (Jvm.hb hby d4_16)
  have pre568 : ∀ τ, Steps p.tables e below (T567.setTop (mkF m 19 #[.val (.ref a)] [(.int (2 : Int32)), (.ref B)])) τ → Steps p.tables e below (s₁.setTop (entryFrame m #[(.ref a)] 1)) τ := fun τ kt => pre566 τ (st567 τ kt)
  have pre569 : ∀ τ, Steps p.tables e below (T567.setTop (mkF m 21 #[.val (.ref a)] [(.int (1 : Int32)), (.ref B)])) τ → Steps p.tables e below (s₁.setTop (entryFrame m #[(.ref a)] 1)) τ := fun τ kt => pre568 τ (by
    show Steps p.tables e below (T567.setTop (mkF m 19 #[.val (.ref a)] [(.int (2 : Int32)), (.ref B)])) τ
    refine XS.iconst X567.here hx rfl (Jvm.hb hby d4_19) ?_
    show Steps p.tables e below (T567.setTop (mkF m 20 #[.val (.ref a)] [(.int (1 : Int32)), (.int (2 : Int32)), (.ref B)])) τ
    refine XS.isub X567.here hx rfl (Jvm.hb hby d4_20) rfl ?_
    exact kt)
  obtain ⟨cl570, Ar570, q570, S570, M570, H570, U570⟩ := id VV
  have in570 : ¬ ((1 : Int32) < 0 ∨ cl570.slots.size ≤ ((1 : Int32)).toNatClampNeg) := inb_of S570 ⟨by decide, by decide⟩
  have pre571 : ∀ τ, Steps p.tables e below (T567.setTop (mkF m 28 #[.val (.ref a)] [(.double v1)])) τ → Steps p.tables e below (s₁.setTop (entryFrame m #[(.ref a)] 1)) τ := fun τ kt => pre569 τ (by
    show Steps p.tables e below (T567.setTop (mkF m 21 #[.val (.ref a)] [(.int (1 : Int32)), (.ref B)])) τ
    refine X567.daload hx (by rw [e567]; exact Ar570.1) (State.isArrayOf_alike hZ.alike Ar570.2.1) Ar570.2.2 in570 (H570.at in570 rfl) (g := (mkF m 21 #[.val (.ref a)] [(.int (1 : Int32)), (.ref B)])) rfl rfl (Jvm.hb hby d4_21) _ ?_
    show Steps p.tables e below (T567.setTop (mkF m 22 #[.val (.ref a)] [(.double v1)])) τ
    refine XS.goto X567.here hx rfl (pc0 := 22) (pc' := 28) rfl (Jvm.hb hby d4_22) (by decide) (by decide) ?_
    exact kt)
  obtain ⟨fs, hrL, hrun, hended, hW, hsame⟩ := X567.leave (v := some (.double v1)) (fun h => by rw [Bd.returns] at h; cases h)
  refine ⟨_, _, pre571 _ ?_, hrun, hended, _, _, rfl, ?_, ⟨_, rfl⟩, hW, hsame.mono (by decide) (by decide)⟩
  · show Steps p.tables e below (T567.setTop (mkF m 28 #[.val (.ref a)] [(.double v1)])) _
    exact own_retD X567 hx Bd.returns (Jvm.hb hby d4_28) hrL
  · show QD v1 h0 n0 _ T567.heap _
    rw [e567]
    exact ⟨rfl, N0, rfl⟩
set_option maxRecDepth 65536 in
set_option maxHeartbeats 40000000 in
theorem rmRem_12_x (l : Launch) (Z : State) (a0 : Array Value) (hw : ∀ d ∈ tables_1, d.before a0 Z = true) (ws : List Jvm.Cond) (a : Addr) (xs : Int32) (A B : Addr) (kA kB : ClassId) (s0 s1 s2 : Int32) (v0 v1 v2 : UInt64) (h0 : Heap) (n0 : Nat) (Z0 : n0 ≤ h0.size) (E7 : Exa Z h0 a "com/example/counterpath/counterpath/core/CappedMaximum") (FS : Fld Z h0 a "com/example/counterpath/counterpath/core/CappedMaximum" "samples" "[I" (.ref A)) (FV : Fld Z h0 a "com/example/counterpath/counterpath/core/CappedMaximum" "values" "[D" (.ref B)) (FH : Fld Z h0 a "com/example/counterpath/counterpath/core/CappedMaximum" "head" "I" (.int (1 : Int32))) (FT : Fld Z h0 a "com/example/counterpath/counterpath/core/CappedMaximum" "tail" "I" (.int (2 : Int32))) (VS : Arv Z h0 A kA .int (3 : Int32) [(.int s0), (.int s1), (.int s2)] (.int (0 : Int32))) (VV : Arv Z h0 B kB .double (3 : Int32) [(.double v0), (.double v1), (.double v2)] (.double (0 : UInt64))) (naA : a ≠ A) (naB : a ≠ B) (nAB : A ≠ B) (ga : n0 ≤ a) (gA : n0 ≤ A) (gB : n0 ≤ B) (pc0 : ¬ (xs < s1)) :
    MetFree l (⟨"com/example/counterpath/counterpath/core/CappedMaximum", "removeAfter", "(I)V"⟩ : MethodName) (head1 (Jvm.Cond.code (⟨"com/example/counterpath/counterpath/core/CappedMaximum", "removeAfter", "(I)V"⟩ : MethodName) prog_3_method_4_code 2 none :: ws) ({ frames := 0, cells := 0, slots := 0, locals := 0 } : Room)) (fun α U => α = #[(.ref a), (.int xs)] ∧ Z.Warmed39 U.vm ∧ U.heap = h0) (fun _ _ _ _ _ => True) (fun _ U ω U' => ∃ ν Λ, ω = .returned ν ∧ QC Z a A B kA kB (1 : Int32) (2 : Int32) [(.int s0), (.int s1), (.int s2)] [(.double v0), (.double v1), (.double v2)] h0 n0 ν U'.heap Λ ∧ FrameEnd U ω U' Λ ({ frames := 0, cells := 0, slots := 0, locals := 0 } : Room).cells ({ frames := 0, cells := 0, slots := 0, locals := 0 } : Room).slots) := by
  refine MetFree.of_bodySF (plainFor_of_name own_pn_com_example_counterpath_counterpath_core_CappedMaximum) hisR ?_
  intro p e s m args below meth c s₁ Bd hml0 hP hK
  obtain ⟨rfl, hZ, hh⟩ := hP
  have hx := Bd.exec
  have hby := Bd.bytes
  have hml : c.maxLocals = 2 := hml0
  have hown : s.vm.findClass "com/example/counterpath/counterpath/core/CappedMaximum" = some m.cls := findClass_of_methodNamed Bd.named
  have hnm := (name_of_methodNamed Bd.named Bd.method).1
  have X0 : Stand p l e ({ frames := 0, cells := 0, slots := 0, locals := 0 } : Room) s m #[(.ref a), (.int xs)] below meth c s₁ [] 0 0 := Stand.of_body Bd
  have e0 : s₁.heap = h0 := by rw [← hh, Bd.state]; rfl
  have N0 := Fr.nil n0
  have KK0 : Keep h0 h0 [a, A, B] := Keep.refl h0 [a, A, B]
  have pre0 : ∀ τ, Steps p.tables e below (s₁.setTop (mkF m 0 #[.val (.ref a), .val (.int xs)] [])) τ → Steps p.tables e below (s₁.setTop (entryFrame m #[(.ref a), (.int xs)] 2)) τ := fun τ κ => castTop (own_ef6 m a xs) κ
  have pre579 : ∀ τ, Steps p.tables e below (s₁.setTop (mkF m 1 #[.val (.ref a), .val (.int xs)] [(.ref a)])) τ → Steps p.tables e below (s₁.setTop (entryFrame m #[(.ref a), (.int xs)] 2)) τ := fun τ kt => pre0 τ (by
    show Steps p.tables e below (s₁.setTop (mkF m 0 #[.val (.ref a), .val (.int xs)] [])) τ
    refine XS.aloadN X0.here hx rfl (Jvm.hb hby d6_0) rfl rfl ?_
    exact kt)
  obtain ⟨T580, X580, e580, st580⟩ := getF X0 hx hZ hown (host := "") (Or.inl (hw _ (List.mem_of_getElem? (i := 17) rfl))) Via.refl e0 FT (g := (mkF m 1 #[.val (.ref a), .val (.int xs)] [(.ref a)])) rfl rfl (Jvm.hb hby d6_1)
  have pre581 : ∀ τ, Steps p.tables e below (T580.setTop (mkF m 4 #[.val (.ref a), .val (.int xs)] [(.int (2 : Int32))])) τ → Steps p.tables e below (s₁.setTop (entryFrame m #[(.ref a), (.int xs)] 2)) τ := fun τ kt => pre579 τ (st580 τ kt)
  have pre582 : ∀ τ, Steps p.tables e below (T580.setTop (mkF m 5 #[.val (.ref a), .val (.int xs)] [(.ref a), (.int (2 : Int32))])) τ → Steps p.tables e below (s₁.setTop (entryFrame m #[(.ref a), (.int xs)] 2)) τ := fun τ kt => pre581 τ (by
    show Steps p.tables e below (T580.setTop (mkF m 4 #[.val (.ref a), .val (.int xs)] [(.int (2 : Int32))])) τ
    refine XS.aloadN X580.here hx rfl (Jvm.hb hby d6_4) rfl rfl ?_
    exact kt)
  obtain ⟨T583, X583, e583, st583⟩ := getF X580 hx hZ hown (host := "") (Or.inl (hw _ (List.mem_of_getElem? (i := 15) rfl))) Via.refl e580 FH (g := (mkF m 5 #[.val (.ref a), .val (.int xs)] [(.ref a), (.int (2 : Int32))])) rfl rfl (Jvm.hb hby d6_5)
  have pre584 : ∀ τ, Steps p.tables e below (T583.setTop (mkF m 8 #[.val (.ref a), .val (.int xs)] [(.int (1 : Int32)), (.int (2 : Int32))])) τ → Steps p.tables e below (s₁.setTop (entryFrame m #[(.ref a), (.int xs)] 2)) τ := fun τ kt => pre582 τ (st583 τ kt)
  have pre585 : ∀ τ, Steps p.tables e below (T583.setTop (mkF m 12 #[.val (.ref a), .val (.int xs)] [(.ref a)])) τ → Steps p.tables e below (s₁.setTop (entryFrame m #[(.ref a), (.int xs)] 2)) τ := fun τ kt => pre584 τ (by
    show Steps p.tables e below (T583.setTop (mkF m 8 #[.val (.ref a), .val (.int xs)] [(.int (1 : Int32)), (.int (2 : Int32))])) τ
    refine XS.icmpNo X583.here hx rfl (Jvm.hb hby d6_8) rfl (tlt (by decide)).2.2.2 ?_
    show Steps p.tables e below (T583.setTop (mkF m 11 #[.val (.ref a), .val (.int xs)] [])) τ
    refine XS.aloadN X583.here hx rfl (Jvm.hb hby d6_11) rfl rfl ?_
    exact kt)
  obtain ⟨T586, X586, e586, st586⟩ := getF X583 hx hZ hown (host := "") (Or.inl (hw _ (List.mem_of_getElem? (i := 10) rfl))) Via.refl e583 FS (g := (mkF m 12 #[.val (.ref a), .val (.int xs)] [(.ref a)])) rfl rfl (Jvm.hb hby d6_12)
  have pre587 : ∀ τ, Steps p.tables e below (T586.setTop (mkF m 15 #[.val (.ref a), .val (.int xs)] [(.ref A)])) τ → Steps p.tables e below (s₁.setTop (entryFrame m #[(.ref a), (.int xs)] 2)) τ := fun τ kt => pre585 τ (st586 τ kt)
  have pre588 : ∀ τ, Steps p.tables e below (T586.setTop (mkF m 16 #[.val (.ref a), .val (.int xs)] [(.ref a), (.ref A)])) τ → Steps p.tables e below (s₁.setTop (entryFrame m #[(.ref a), (.int xs)] 2)) τ := fun τ kt => pre587 τ (by
    show Steps p.tables e below (T586.setTop (mkF m 15 #[.val (.ref a), .val (.int xs)] [(.ref A)])) τ
    refine XS.aloadN X586.here hx rfl (Jvm.hb hby d6_15) rfl rfl ?_
    exact kt)
  obtain ⟨T589, X589, e589, st589⟩ := getF X586 hx hZ hown (host := "") (Or.inl (hw _ (List.mem_of_getElem? (i := 17) rfl))) Via.refl e586 FT (g := (mkF m 16 #[.val (.ref a), .val (.int xs)] [(.ref a), (.ref A)])) rfl rfl (Jvm.hb hby d6_16)
  have pre590 : ∀ τ, Steps p.tables e below (T589.setTop (mkF m 19 #[.val (.ref a), .val (.int xs)] [(.int (2 : Int32)), (.ref A)])) τ → Steps p.tables e below (s₁.setTop (entryFrame m #[(.ref a), (.int xs)] 2)) τ := fun τ kt => pre588 τ (st589 τ kt)
  have pre591 : ∀ τ, Steps p.tables e below (T589.setTop (mkF m 21 #[.val (.ref a), .val (.int xs)] [(.int (1 : Int32)), (.ref A)])) τ → Steps p.tables e below (s₁.setTop (entryFrame m #[(.ref a), (.int xs)] 2)) τ := fun τ kt => pre590 τ (by
    show Steps p.tables e below (T589.setTop (mkF m 19 #[.val (.ref a), .val (.int xs)] [(.int (2 : Int32)), (.ref A)])) τ
    refine XS.iconst X589.here hx rfl (Jvm.hb hby d6_19) ?_
    show Steps p.tables e below (T589.setTop (mkF m 20 #[.val (.ref a), .val (.int xs)] [(.int (1 : Int32)), (.int (2 : Int32)), (.ref A)])) τ
    refine XS.isub X589.here hx rfl (Jvm.hb hby d6_20) rfl ?_
    exact kt)
  obtain ⟨cl592, Ar592, q592, S592, M592, H592, U592⟩ := id VS
  have in592 : ¬ ((1 : Int32) < 0 ∨ cl592.slots.size ≤ ((1 : Int32)).toNatClampNeg) := inb_of S592 ⟨by decide, by decide⟩
  have pre593 : ∀ τ, Steps p.tables e below (T589.setTop (mkF m 39 #[.val (.ref a), .val (.int xs)] [])) τ → Steps p.tables e below (s₁.setTop (entryFrame m #[(.ref a), (.int xs)] 2)) τ := fun τ kt => pre591 τ (by
    show Steps p.tables e below (T589.setTop (mkF m 21 #[.val (.ref a), .val (.int xs)] [(.int (1 : Int32)), (.ref A)])) τ
    refine X589.iaload hx (by rw [e589]; exact Ar592.1) (State.isArrayOf_alike hZ.alike Ar592.2.1) Ar592.2.2 in592 (H592.at in592 rfl) (g := (mkF m 21 #[.val (.ref a), .val (.int xs)] [(.int (1 : Int32)), (.ref A)])) rfl rfl (Jvm.hb hby d6_21) _ ?_
    show Steps p.tables e below (T589.setTop (mkF m 22 #[.val (.ref a), .val (.int xs)] [(.int s1)])) τ
    refine XS.iloadN X589.here hx rfl (Jvm.hb hby d6_22) rfl ?_
    show Steps p.tables e below (T589.setTop (mkF m 23 #[.val (.ref a), .val (.int xs)] [(.int xs), (.int s1)])) τ
    refine XS.icmpYes X589.here hx rfl (pc0 := 23) (pc' := 39) rfl (Jvm.hb hby d6_23) rfl (flt pc0).2.2.2 (by decide) (by decide) ?_
    exact kt)
  obtain ⟨fs, hrL, hrun, hended, hW, hsame⟩ := X589.leave (v := none) (fun _ => rfl)
  refine ⟨_, _, pre593 _ ?_, hrun, hended, _, _, rfl, ?_, ⟨_, rfl⟩, hW, hsame.mono (by decide) (by decide)⟩
  · show Steps p.tables e below (T589.setTop (mkF m 39 #[.val (.ref a), .val (.int xs)] [])) _
    exact X589.returnOut hx Bd.returns (Jvm.hb hby d6_39) hrL
  · show QC Z a A B kA kB (1 : Int32) (2 : Int32) [(.int s0), (.int s1), (.int s2)] [(.double v0), (.double v1), (.double v2)] h0 n0 _ T589.heap _
    rw [e589]
    exact ⟨rfl, N0, KK0, FS, FV, FH, FT, VS, VV⟩
set_option maxRecDepth 65536 in
set_option maxHeartbeats 40000000 in
theorem rmAdd_13_cce (l : Launch) (Z : State) (a0 : Array Value) (hw : ∀ d ∈ tables_1, d.before a0 Z = true) (ws : List Jvm.Cond) (a : Addr) (xs : Int32) (xv : UInt64) (A B : Addr) (kA kB : ClassId) (s0 s1 s2 : Int32) (v0 v1 v2 : UInt64) (h0 : Heap) (n0 : Nat) (Z0 : n0 ≤ h0.size) (E7 : Exa Z h0 a "com/example/counterpath/counterpath/core/CappedMaximum") (FS : Fld Z h0 a "com/example/counterpath/counterpath/core/CappedMaximum" "samples" "[I" (.ref A)) (FV : Fld Z h0 a "com/example/counterpath/counterpath/core/CappedMaximum" "values" "[D" (.ref B)) (FH : Fld Z h0 a "com/example/counterpath/counterpath/core/CappedMaximum" "head" "I" (.int (1 : Int32))) (FT : Fld Z h0 a "com/example/counterpath/counterpath/core/CappedMaximum" "tail" "I" (.int (3 : Int32))) (VS : Arv Z h0 A kA .int (3 : Int32) [(.int s0), (.int s1), (.int s2)] (.int (0 : Int32))) (VV : Arv Z h0 B kB .double (3 : Int32) [(.double v0), (.double v1), (.double v2)] (.double (0 : UInt64))) (naA : a ≠ A) (naB : a ≠ B) (nAB : A ≠ B) (ga : n0 ≤ a) (gA : n0 ≤ A) (gB : n0 ≤ B) (pc0 : ¬ ((0 : Int32) < cmpValue (FP.dcmp v1 xv) .g)) (pc1 : ¬ ((0 : Int32) < cmpValue (FP.dcmp v2 xv) .g)) :
    MetFree l (⟨"com/example/counterpath/counterpath/core/CappedMaximum", "addFirst", "(ID)V"⟩ : MethodName) (head1 (Jvm.Cond.code (⟨"com/example/counterpath/counterpath/core/CappedMaximum", "addFirst", "(ID)V"⟩ : MethodName) prog_3_method_2_code 4 none :: ws) ({ frames := 0, cells := 0, slots := 0, locals := 0 } : Room)) (fun α U => α = #[(.ref a), (.int xs), (.double xv)] ∧ Z.Warmed39 U.vm ∧ U.heap = h0) (fun _ _ _ _ _ => True) (fun _ U ω U' => ∃ ν Λ, ω = .returned ν ∧ QC Z a A B kA kB (2 : Int32) (3 : Int32) [(.int s0), (.int s1), (.int xs)] [(.double v0), (.double v1), (.double xv)] h0 n0 ν U'.heap Λ ∧ FrameEnd U ω U' Λ ({ frames := 0, cells := 0, slots := 0, locals := 0 } : Room).cells ({ frames := 0, cells := 0, slots := 0, locals := 0 } : Room).slots) := by
  refine MetFree.of_bodySF (plainFor_of_name own_pn_com_example_counterpath_counterpath_core_CappedMaximum) hisR ?_
  intro p e s m args below meth c s₁ Bd hml0 hP hK
  obtain ⟨rfl, hZ, hh⟩ := hP
  have hx := Bd.exec
  have hby := Bd.bytes
  have hml : c.maxLocals = 4 := hml0
  have hown : s.vm.findClass "com/example/counterpath/counterpath/core/CappedMaximum" = some m.cls := findClass_of_methodNamed Bd.named
  have hnm := (name_of_methodNamed Bd.named Bd.method).1
  have X0 : Stand p l e ({ frames := 0, cells := 0, slots := 0, locals := 0 } : Room) s m #[(.ref a), (.int xs), (.double xv)] below meth c s₁ [] 0 0 := Stand.of_body Bd
  have e0 : s₁.heap = h0 := by rw [← hh, Bd.state]; rfl
  have N0 := Fr.nil n0
  have KK0 : Keep h0 h0 [a, A, B] := Keep.refl h0 [a, A, B]
  have pre0 : ∀ τ, Steps p.tables e below (s₁.setTop (mkF m 0 #[.val (.ref a), .val (.int xs), .val (.double xv), .second] [])) τ → Steps p.tables e below (s₁.setTop (entryFrame m #[(.ref a), (.int xs), (.double xv)] 4)) τ := fun τ κ => castTop (own_ef3 m a xs xv) κ
  have pre602 : ∀ τ, Steps p.tables e below (s₁.setTop (mkF m 1 #[.val (.ref a), .val (.int xs), .val (.double xv), .second] [(.ref a)])) τ → Steps p.tables e below (s₁.setTop (entryFrame m #[(.ref a), (.int xs), (.double xv)] 4)) τ := fun τ kt => pre0 τ (by
    show Steps p.tables e below (s₁.setTop (mkF m 0 #[.val (.ref a), .val (.int xs), .val (.double xv), .second] [])) τ
    refine XS.aloadN X0.here hx rfl (Jvm.hb hby d3_0) rfl rfl ?_
    exact kt)
  obtain ⟨T603, X603, e603, st603⟩ := getF X0 hx hZ hown (host := "") (Or.inl (hw _ (List.mem_of_getElem? (i := 15) rfl))) Via.refl e0 FH (g := (mkF m 1 #[.val (.ref a), .val (.int xs), .val (.double xv), .second] [(.ref a)])) rfl rfl (Jvm.hb hby d3_1)
  have pre604 : ∀ τ, Steps p.tables e below (T603.setTop (mkF m 4 #[.val (.ref a), .val (.int xs), .val (.double xv), .second] [(.int (1 : Int32))])) τ → Steps p.tables e below (s₁.setTop (entryFrame m #[(.ref a), (.int xs), (.double xv)] 4)) τ := fun τ kt => pre602 τ (st603 τ kt)
  have pre605 : ∀ τ, Steps p.tables e below (T603.setTop (mkF m 5 #[.val (.ref a), .val (.int xs), .val (.double xv), .second] [(.ref a), (.int (1 : Int32))])) τ → Steps p.tables e below (s₁.setTop (entryFrame m #[(.ref a), (.int xs), (.double xv)] 4)) τ := fun τ kt => pre604 τ (by
    show Steps p.tables e below (T603.setTop (mkF m 4 #[.val (.ref a), .val (.int xs), .val (.double xv), .second] [(.int (1 : Int32))])) τ
    refine XS.aloadN X603.here hx rfl (Jvm.hb hby d3_4) rfl rfl ?_
    exact kt)
  obtain ⟨T606, X606, e606, st606⟩ := getF X603 hx hZ hown (host := "") (Or.inl (hw _ (List.mem_of_getElem? (i := 17) rfl))) Via.refl e603 FT (g := (mkF m 5 #[.val (.ref a), .val (.int xs), .val (.double xv), .second] [(.ref a), (.int (1 : Int32))])) rfl rfl (Jvm.hb hby d3_5)
  have pre607 : ∀ τ, Steps p.tables e below (T606.setTop (mkF m 8 #[.val (.ref a), .val (.int xs), .val (.double xv), .second] [(.int (3 : Int32)), (.int (1 : Int32))])) τ → Steps p.tables e below (s₁.setTop (entryFrame m #[(.ref a), (.int xs), (.double xv)] 4)) τ := fun τ kt => pre605 τ (st606 τ kt)
  have pre608 : ∀ τ, Steps p.tables e below (T606.setTop (mkF m 12 #[.val (.ref a), .val (.int xs), .val (.double xv), .second] [(.ref a)])) τ → Steps p.tables e below (s₁.setTop (entryFrame m #[(.ref a), (.int xs), (.double xv)] 4)) τ := fun τ kt => pre607 τ (by
    show Steps p.tables e below (T606.setTop (mkF m 8 #[.val (.ref a), .val (.int xs), .val (.double xv), .second] [(.int (3 : Int32)), (.int (1 : Int32))])) τ
    refine XS.icmpNo X606.here hx rfl (Jvm.hb hby d3_8) rfl (tlt (by decide)).2.1 ?_
    show Steps p.tables e below (T606.setTop (mkF m 11 #[.val (.ref a), .val (.int xs), .val (.double xv), .second] [])) τ
    refine XS.aloadN X606.here hx rfl (Jvm.hb hby d3_11) rfl rfl ?_
    exact kt)
  obtain ⟨T609, X609, e609, st609⟩ := getF X606 hx hZ hown (host := "") (Or.inl (hw _ (List.mem_of_getElem? (i := 13) rfl))) Via.refl e606 FV (g := (mkF m 12 #[.val (.ref a), .val (.int xs), .val (.double xv), .second] [(.ref a)])) rfl rfl (Jvm.hb hby d3_12)
  have pre610 : ∀ τ, Steps p.tables e below (T609.setTop (mkF m 15 #[.val (.ref a), .val (.int xs), .val (.double xv), .second] [(.ref B)])) τ → Steps p.tables e below (s₁.setTop (entryFrame m #[(.ref a), (.int xs), (.double xv)] 4)) τ := fun τ kt => pre608 τ (st609 τ kt)
  have pre611 : ∀ τ, Steps p.tables e below (T609.setTop (mkF m 16 #[.val (.ref a), .val (.int xs), .val (.double xv), .second] [(.ref a), (.ref B)])) τ → Steps p.tables e below (s₁.setTop (entryFrame m #[(.ref a), (.int xs), (.double xv)] 4)) τ := fun τ kt => pre610 τ (by
    show Steps p.tables e below (T609.setTop (mkF m 15 #[.val (.ref a), .val (.int xs), .val (.double xv), .second] [(.ref B)])) τ
    refine XS.aloadN X609.here hx rfl (Jvm.hb hby d3_15) rfl rfl ?_
    exact kt)
  obtain ⟨T612, X612, e612, st612⟩ := getF X609 hx hZ hown (host := "") (Or.inl (hw _ (List.mem_of_getElem? (i := 15) rfl))) Via.refl e609 FH (g := (mkF m 16 #[.val (.ref a), .val (.int xs), .val (.double xv), .second] [(.ref a), (.ref B)])) rfl rfl (Jvm.hb hby d3_16)
  have pre613 : ∀ τ, Steps p.tables e below (T612.setTop (mkF m 19 #[.val (.ref a), .val (.int xs), .val (.double xv), .second] [(.int (1 : Int32)), (.ref B)])) τ → Steps p.tables e below (s₁.setTop (entryFrame m #[(.ref a), (.int xs), (.double xv)] 4)) τ := fun τ kt => pre611 τ (st612 τ kt)
  obtain ⟨cl614, Ar614, q614, S614, M614, H614, U614⟩ := id VV
  have in614 : ¬ ((1 : Int32) < 0 ∨ cl614.slots.size ≤ ((1 : Int32)).toNatClampNeg) := inb_of S614 ⟨by decide, by decide⟩
  have pre615 : ∀ τ, Steps p.tables e below (T612.setTop (mkF m 27 #[.val (.ref a), .val (.int xs), .val (.double xv), .second] [(.ref a), (.ref a)])) τ → Steps p.tables e below (s₁.setTop (entryFrame m #[(.ref a), (.int xs), (.double xv)] 4)) τ := fun τ kt => pre613 τ (by
    show Steps p.tables e below (T612.setTop (mkF m 19 #[.val (.ref a), .val (.int xs), .val (.double xv), .second] [(.int (1 : Int32)), (.ref B)])) τ
    refine X612.daload hx (by rw [e612]; exact Ar614.1) (State.isArrayOf_alike hZ.alike Ar614.2.1) Ar614.2.2 in614 (H614.at in614 rfl) (g := (mkF m 19 #[.val (.ref a), .val (.int xs), .val (.double xv), .second] [(.int (1 : Int32)), (.ref B)])) rfl rfl (Jvm.hb hby d3_19) _ ?_
    show Steps p.tables e below (T612.setTop (mkF m 20 #[.val (.ref a), .val (.int xs), .val (.double xv), .second] [(.double v1)])) τ
    refine own_dloadN X612.here hx rfl (Jvm.hb hby d3_20) rfl ?_
    show Steps p.tables e below (T612.setTop (mkF m 21 #[.val (.ref a), .val (.int xs), .val (.double xv), .second] [(.double xv), (.double v1)])) τ
    refine own_dcmp X612.here hx rfl (Jvm.hb hby d3_21) rfl ?_
    show Steps p.tables e below (T612.setTop (mkF m 22 #[.val (.ref a), .val (.int xs), .val (.double xv), .second] [(.int (cmpValue (FP.dcmp v1 xv) .g))])) τ
    refine XS.ifNo X612.here hx rfl (Jvm.hb hby d3_22) rfl ((if0 _ _).trans (flt pc0).2.2.1) ?_
    show Steps p.tables e below (T612.setTop (mkF m 25 #[.val (.ref a), .val (.int xs), .val (.double xv), .second] [])) τ
    refine XS.aloadN X612.here hx rfl (Jvm.hb hby d3_25) rfl rfl ?_
    show Steps p.tables e below (T612.setTop (mkF m 26 #[.val (.ref a), .val (.int xs), .val (.double xv), .second] [(.ref a)])) τ
    refine XS.dup X612.here hx rfl (Jvm.hb hby d3_26) rfl rfl ?_
    exact kt)
  obtain ⟨T616, X616, e616, st616⟩ := getF X612 hx hZ hown (host := "") (Or.inl (hw _ (List.mem_of_getElem? (i := 15) rfl))) Via.refl e612 FH (g := (mkF m 27 #[.val (.ref a), .val (.int xs), .val (.double xv), .second] [(.ref a), (.ref a)])) rfl rfl (Jvm.hb hby d3_27)
  have pre617 : ∀ τ, Steps p.tables e below (T616.setTop (mkF m 30 #[.val (.ref a), .val (.int xs), .val (.double xv), .second] [(.int (1 : Int32)), (.ref a)])) τ → Steps p.tables e below (s₁.setTop (entryFrame m #[(.ref a), (.int xs), (.double xv)] 4)) τ := fun τ kt => pre615 τ (st616 τ kt)
  have pre618 : ∀ τ, Steps p.tables e below (T616.setTop (mkF m 32 #[.val (.ref a), .val (.int xs), .val (.double xv), .second] [(.int (2 : Int32)), (.ref a)])) τ → Steps p.tables e below (s₁.setTop (entryFrame m #[(.ref a), (.int xs), (.double xv)] 4)) τ := fun τ kt => pre617 τ (by
    show Steps p.tables e below (T616.setTop (mkF m 30 #[.val (.ref a), .val (.int xs), .val (.double xv), .second] [(.int (1 : Int32)), (.ref a)])) τ
    refine XS.iconst X616.here hx rfl (Jvm.hb hby d3_30) ?_
    show Steps p.tables e below (T616.setTop (mkF m 31 #[.val (.ref a), .val (.int xs), .val (.double xv), .second] [(.int (1 : Int32)), (.int (1 : Int32)), (.ref a)])) τ
    refine XS.iadd X616.here hx rfl (Jvm.hb hby d3_31) rfl ?_
    exact kt)
  obtain ⟨T619, h619, X619, e619, W619, st619⟩ := putF X616 hx hZ hown (host := "") (Or.inl (hw _ (List.mem_of_getElem? (i := 15) rfl))) Via.refl e616 FH E7 (Or.inl (hw _ (List.mem_of_getElem? (i := 16) rfl))) (hw _ (List.mem_of_getElem? (i := 1) rfl)) (ty := .int) (by decide) rfl rfl (g := (mkF m 32 #[.val (.ref a), .val (.int xs), .val (.double xv), .second] [(.int (2 : Int32)), (.ref a)])) rfl rfl (Jvm.hb hby d3_32)
  have fw619 := Fld.same W619 FH
  have N619 := Fr.snoc X619 N0 ga
  have K619 : Keep h0 h619 [a, A, B] := KK0.wr W619 (Or.inl (by simp))
  have pre620 : ∀ τ, Steps p.tables e below (T619.setTop (mkF m 35 #[.val (.ref a), .val (.int xs), .val (.double xv), .second] [])) τ → Steps p.tables e below (s₁.setTop (entryFrame m #[(.ref a), (.int xs), (.double xv)] 4)) τ := fun τ kt => pre618 τ (st619 τ kt)
  have pre621 : ∀ τ, Steps p.tables e below (T619.setTop (mkF m 1 #[.val (.ref a), .val (.int xs), .val (.double xv), .second] [(.ref a)])) τ → Steps p.tables e below (s₁.setTop (entryFrame m #[(.ref a), (.int xs), (.double xv)] 4)) τ := fun τ kt => pre620 τ (by
    show Steps p.tables e below (T619.setTop (mkF m 35 #[.val (.ref a), .val (.int xs), .val (.double xv), .second] [])) τ
    refine XS.goto X619.here hx rfl (pc0 := 35) (pc' := 0) rfl (Jvm.hb hby d3_35) (by decide) (by decide) ?_
    show Steps p.tables e below (T619.setTop (mkF m 0 #[.val (.ref a), .val (.int xs), .val (.double xv), .second] [])) τ
    refine XS.aloadN X619.here hx rfl (Jvm.hb hby d3_0) rfl rfl ?_
    exact kt)
  obtain ⟨T622, X622, e622, st622⟩ := getF X619 hx hZ hown (host := "") (Or.inl (hw _ (List.mem_of_getElem? (i := 15) rfl))) Via.refl e619 fw619 (g := (mkF m 1 #[.val (.ref a), .val (.int xs), .val (.double xv), .second] [(.ref a)])) rfl rfl (Jvm.hb hby d3_1)
  have pre623 : ∀ τ, Steps p.tables e below (T622.setTop (mkF m 4 #[.val (.ref a), .val (.int xs), .val (.double xv), .second] [(.int (2 : Int32))])) τ → Steps p.tables e below (s₁.setTop (entryFrame m #[(.ref a), (.int xs), (.double xv)] 4)) τ := fun τ kt => pre621 τ (st622 τ kt)
  have pre624 : ∀ τ, Steps p.tables e below (T622.setTop (mkF m 5 #[.val (.ref a), .val (.int xs), .val (.double xv), .second] [(.ref a), (.int (2 : Int32))])) τ → Steps p.tables e below (s₁.setTop (entryFrame m #[(.ref a), (.int xs), (.double xv)] 4)) τ := fun τ kt => pre623 τ (by
    show Steps p.tables e below (T622.setTop (mkF m 4 #[.val (.ref a), .val (.int xs), .val (.double xv), .second] [(.int (2 : Int32))])) τ
    refine XS.aloadN X622.here hx rfl (Jvm.hb hby d3_4) rfl rfl ?_
    exact kt)
  have f626 := (FT.other W619 (Or.inr (slot_ne (Or.inl (hw _ (List.mem_of_getElem? (i := 18) rfl))) (Or.inl (hw _ (List.mem_of_getElem? (i := 16) rfl))) (by decide) (t := .int) (t' := .int) (by decide) (by decide))))
  obtain ⟨T625, X625, e625, st625⟩ := getF X622 hx hZ hown (host := "") (Or.inl (hw _ (List.mem_of_getElem? (i := 17) rfl))) Via.refl e622 f626 (g := (mkF m 5 #[.val (.ref a), .val (.int xs), .val (.double xv), .second] [(.ref a), (.int (2 : Int32))])) rfl rfl (Jvm.hb hby d3_5)
  have pre627 : ∀ τ, Steps p.tables e below (T625.setTop (mkF m 8 #[.val (.ref a), .val (.int xs), .val (.double xv), .second] [(.int (3 : Int32)), (.int (2 : Int32))])) τ → Steps p.tables e below (s₁.setTop (entryFrame m #[(.ref a), (.int xs), (.double xv)] 4)) τ := fun τ kt => pre624 τ (st625 τ kt)
  have pre628 : ∀ τ, Steps p.tables e below (T625.setTop (mkF m 12 #[.val (.ref a), .val (.int xs), .val (.double xv), .second] [(.ref a)])) τ → Steps p.tables e below (s₁.setTop (entryFrame m #[(.ref a), (.int xs), (.double xv)] 4)) τ := fun τ kt => pre627 τ (by
    show Steps p.tables e below (T625.setTop (mkF m 8 #[.val (.ref a), .val (.int xs), .val (.double xv), .second] [(.int (3 : Int32)), (.int (2 : Int32))])) τ
    refine XS.icmpNo X625.here hx rfl (Jvm.hb hby d3_8) rfl (tlt (by decide)).2.1 ?_
    show Steps p.tables e below (T625.setTop (mkF m 11 #[.val (.ref a), .val (.int xs), .val (.double xv), .second] [])) τ
    refine XS.aloadN X625.here hx rfl (Jvm.hb hby d3_11) rfl rfl ?_
    exact kt)
  have f630 := (FV.other W619 (Or.inr (slot_ne (Or.inr (hw _ (List.mem_of_getElem? (i := 14) rfl))) (Or.inl (hw _ (List.mem_of_getElem? (i := 16) rfl))) (by decide) (t := (.array .double)) (t' := .int) (by decide) (by decide))))
  obtain ⟨T629, X629, e629, st629⟩ := getF X625 hx hZ hown (host := "") (Or.inl (hw _ (List.mem_of_getElem? (i := 13) rfl))) Via.refl e625 f630 (g := (mkF m 12 #[.val (.ref a), .val (.int xs), .val (.double xv), .second] [(.ref a)])) rfl rfl (Jvm.hb hby d3_12)
  have pre631 : ∀ τ, Steps p.tables e below (T629.setTop (mkF m 15 #[.val (.ref a), .val (.int xs), .val (.double xv), .second] [(.ref B)])) τ → Steps p.tables e below (s₁.setTop (entryFrame m #[(.ref a), (.int xs), (.double xv)] 4)) τ := fun τ kt => pre628 τ (st629 τ kt)
  have pre632 : ∀ τ, Steps p.tables e below (T629.setTop (mkF m 16 #[.val (.ref a), .val (.int xs), .val (.double xv), .second] [(.ref a), (.ref B)])) τ → Steps p.tables e below (s₁.setTop (entryFrame m #[(.ref a), (.int xs), (.double xv)] 4)) τ := fun τ kt => pre631 τ (by
    show Steps p.tables e below (T629.setTop (mkF m 15 #[.val (.ref a), .val (.int xs), .val (.double xv), .second] [(.ref B)])) τ
    refine XS.aloadN X629.here hx rfl (Jvm.hb hby d3_15) rfl rfl ?_
    exact kt)
  obtain ⟨T633, X633, e633, st633⟩ := getF X629 hx hZ hown (host := "") (Or.inl (hw _ (List.mem_of_getElem? (i := 15) rfl))) Via.refl e629 fw619 (g := (mkF m 16 #[.val (.ref a), .val (.int xs), .val (.double xv), .second] [(.ref a), (.ref B)])) rfl rfl (Jvm.hb hby d3_16)
  have pre634 : ∀ τ, Steps p.tables e below (T633.setTop (mkF m 19 #[.val (.ref a), .val (.int xs), .val (.double xv), .second] [(.int (2 : Int32)), (.ref B)])) τ → Steps p.tables e below (s₁.setTop (entryFrame m #[(.ref a), (.int xs), (.double xv)] 4)) τ := fun τ kt => pre632 τ (st633 τ kt)
  have f635 := VV.other W619 (Ne.symm naB)
  obtain ⟨cl636, Ar636, q636, S636, M636, H636, U636⟩ := id f635
  have in636 : ¬ ((2 : Int32) < 0 ∨ cl636.slots.size ≤ ((2 : Int32)).toNatClampNeg) := inb_of S636 ⟨by decide, by decide⟩
  have pre637 : ∀ τ, Steps p.tables e below (T633.setTop (mkF m 27 #[.val (.ref a), .val (.int xs), .val (.double xv), .second] [(.ref a), (.ref a)])) τ → Steps p.tables e below (s₁.setTop (entryFrame m #[(.ref a), (.int xs), (.double xv)] 4)) τ := fun τ kt => pre634 τ (by
    show Steps p.tables e below (T633.setTop (mkF m 19 #[.val (.ref a), .val (.int xs), .val (.double xv), .second] [(.int (2 : Int32)), (.ref B)])) τ
    refine X633.daload hx (by rw [e633]; exact Ar636.1) (State.isArrayOf_alike hZ.alike Ar636.2.1) Ar636.2.2 in636 (H636.at in636 rfl) (g := (mkF m 19 #[.val (.ref a), .val (.int xs), .val (.double xv), .second] [(.int (2 : Int32)), (.ref B)])) rfl rfl (Jvm.hb hby d3_19) _ ?_
    show Steps p.tables e below (T633.setTop (mkF m 20 #[.val (.ref a), .val (.int xs), .val (.double xv), .second] [(.double v2)])) τ
    refine own_dloadN X633.here hx rfl (Jvm.hb hby d3_20) rfl ?_
    show Steps p.tables e below (T633.setTop (mkF m 21 #[.val (.ref a), .val (.int xs), .val (.double xv), .second] [(.double xv), (.double v2)])) τ
    refine own_dcmp X633.here hx rfl (Jvm.hb hby d3_21) rfl ?_
    show Steps p.tables e below (T633.setTop (mkF m 22 #[.val (.ref a), .val (.int xs), .val (.double xv), .second] [(.int (cmpValue (FP.dcmp v2 xv) .g))])) τ
    refine XS.ifNo X633.here hx rfl (Jvm.hb hby d3_22) rfl ((if0 _ _).trans (flt pc1).2.2.1) ?_
    show Steps p.tables e below (T633.setTop (mkF m 25 #[.val (.ref a), .val (.int xs), .val (.double xv), .second] [])) τ
    refine XS.aloadN X633.here hx rfl (Jvm.hb hby d3_25) rfl rfl ?_
    show Steps p.tables e below (T633.setTop (mkF m 26 #[.val (.ref a), .val (.int xs), .val (.double xv), .second] [(.ref a)])) τ
    refine XS.dup X633.here hx rfl (Jvm.hb hby d3_26) rfl rfl ?_
    exact kt)
  obtain ⟨T638, X638, e638, st638⟩ := getF X633 hx hZ hown (host := "") (Or.inl (hw _ (List.mem_of_getElem? (i := 15) rfl))) Via.refl e633 fw619 (g := (mkF m 27 #[.val (.ref a), .val (.int xs), .val (.double xv), .second] [(.ref a), (.ref a)])) rfl rfl (Jvm.hb hby d3_27)
  have pre639 : ∀ τ, Steps p.tables e below (T638.setTop (mkF m 30 #[.val (.ref a), .val (.int xs), .val (.double xv), .second] [(.int (2 : Int32)), (.ref a)])) τ → Steps p.tables e below (s₁.setTop (entryFrame m #[(.ref a), (.int xs), (.double xv)] 4)) τ := fun τ kt => pre637 τ (st638 τ kt)
  have pre640 : ∀ τ, Steps p.tables e below (T638.setTop (mkF m 32 #[.val (.ref a), .val (.int xs), .val (.double xv), .second] [(.int (3 : Int32)), (.ref a)])) τ → Steps p.tables e below (s₁.setTop (entryFrame m #[(.ref a), (.int xs), (.double xv)] 4)) τ := fun τ kt => pre639 τ (by
    show Steps p.tables e below (T638.setTop (mkF m 30 #[.val (.ref a), .val (.int xs), .val (.double xv), .second] [(.int (2 : Int32)), (.ref a)])) τ
    refine XS.iconst X638.here hx rfl (Jvm.hb hby d3_30) ?_
    show Steps p.tables e below (T638.setTop (mkF m 31 #[.val (.ref a), .val (.int xs), .val (.double xv), .second] [(.int (1 : Int32)), (.int (2 : Int32)), (.ref a)])) τ
    refine XS.iadd X638.here hx rfl (Jvm.hb hby d3_31) rfl ?_
    exact kt)
  have f642 := E7.wr W619
  obtain ⟨T641, h641, X641, e641, W641, st641⟩ := putF X638 hx hZ hown (host := "") (Or.inl (hw _ (List.mem_of_getElem? (i := 15) rfl))) Via.refl e638 fw619 f642 (Or.inl (hw _ (List.mem_of_getElem? (i := 16) rfl))) (hw _ (List.mem_of_getElem? (i := 1) rfl)) (ty := .int) (by decide) rfl rfl (g := (mkF m 32 #[.val (.ref a), .val (.int xs), .val (.double xv), .second] [(.int (3 : Int32)), (.ref a)])) rfl rfl (Jvm.hb hby d3_32)
  have fw641 := Fld.same W641 fw619
  have N641 := Fr.snoc X641 N619 ga
  have K641 : Keep h0 h641 [a, A, B] := K619.wr W641 (Or.inl (by simp))
  have pre643 : ∀ τ, Steps p.tables e below (T641.setTop (mkF m 35 #[.val (.ref a), .val (.int xs), .val (.double xv), .second] [])) τ → Steps p.tables e below (s₁.setTop (entryFrame m #[(.ref a), (.int xs), (.double xv)] 4)) τ := fun τ kt => pre640 τ (st641 τ kt)
  have pre644 : ∀ τ, Steps p.tables e below (T641.setTop (mkF m 1 #[.val (.ref a), .val (.int xs), .val (.double xv), .second] [(.ref a)])) τ → Steps p.tables e below (s₁.setTop (entryFrame m #[(.ref a), (.int xs), (.double xv)] 4)) τ := fun τ kt => pre643 τ (by
    show Steps p.tables e below (T641.setTop (mkF m 35 #[.val (.ref a), .val (.int xs), .val (.double xv), .second] [])) τ
    refine XS.goto X641.here hx rfl (pc0 := 35) (pc' := 0) rfl (Jvm.hb hby d3_35) (by decide) (by decide) ?_
    show Steps p.tables e below (T641.setTop (mkF m 0 #[.val (.ref a), .val (.int xs), .val (.double xv), .second] [])) τ
    refine XS.aloadN X641.here hx rfl (Jvm.hb hby d3_0) rfl rfl ?_
    exact kt)
  obtain ⟨T645, X645, e645, st645⟩ := getF X641 hx hZ hown (host := "") (Or.inl (hw _ (List.mem_of_getElem? (i := 15) rfl))) Via.refl e641 fw641 (g := (mkF m 1 #[.val (.ref a), .val (.int xs), .val (.double xv), .second] [(.ref a)])) rfl rfl (Jvm.hb hby d3_1)
  have pre646 : ∀ τ, Steps p.tables e below (T645.setTop (mkF m 4 #[.val (.ref a), .val (.int xs), .val (.double xv), .second] [(.int (3 : Int32))])) τ → Steps p.tables e below (s₁.setTop (entryFrame m #[(.ref a), (.int xs), (.double xv)] 4)) τ := fun τ kt => pre644 τ (st645 τ kt)
  have pre647 : ∀ τ, Steps p.tables e below (T645.setTop (mkF m 5 #[.val (.ref a), .val (.int xs), .val (.double xv), .second] [(.ref a), (.int (3 : Int32))])) τ → Steps p.tables e below (s₁.setTop (entryFrame m #[(.ref a), (.int xs), (.double xv)] 4)) τ := fun τ kt => pre646 τ (by
    show Steps p.tables e below (T645.setTop (mkF m 4 #[.val (.ref a), .val (.int xs), .val (.double xv), .second] [(.int (3 : Int32))])) τ
    refine XS.aloadN X645.here hx rfl (Jvm.hb hby d3_4) rfl rfl ?_
    exact kt)
  have f649 := (f626.other W641 (Or.inr (slot_ne (Or.inl (hw _ (List.mem_of_getElem? (i := 18) rfl))) (Or.inl (hw _ (List.mem_of_getElem? (i := 16) rfl))) (by decide) (t := .int) (t' := .int) (by decide) (by decide))))
  obtain ⟨T648, X648, e648, st648⟩ := getF X645 hx hZ hown (host := "") (Or.inl (hw _ (List.mem_of_getElem? (i := 17) rfl))) Via.refl e645 f649 (g := (mkF m 5 #[.val (.ref a), .val (.int xs), .val (.double xv), .second] [(.ref a), (.int (3 : Int32))])) rfl rfl (Jvm.hb hby d3_5)
  have pre650 : ∀ τ, Steps p.tables e below (T648.setTop (mkF m 8 #[.val (.ref a), .val (.int xs), .val (.double xv), .second] [(.int (3 : Int32)), (.int (3 : Int32))])) τ → Steps p.tables e below (s₁.setTop (entryFrame m #[(.ref a), (.int xs), (.double xv)] 4)) τ := fun τ kt => pre647 τ (st648 τ kt)
  have pre651 : ∀ τ, Steps p.tables e below (T648.setTop (mkF m 40 #[.val (.ref a), .val (.int xs), .val (.double xv), .second] [(.ref a), (.ref a)])) τ → Steps p.tables e below (s₁.setTop (entryFrame m #[(.ref a), (.int xs), (.double xv)] 4)) τ := fun τ kt => pre650 τ (by
    show Steps p.tables e below (T648.setTop (mkF m 8 #[.val (.ref a), .val (.int xs), .val (.double xv), .second] [(.int (3 : Int32)), (.int (3 : Int32))])) τ
    refine XS.icmpYes X648.here hx rfl (pc0 := 8) (pc' := 38) rfl (Jvm.hb hby d3_8) rfl (flt (by decide)).2.1 (by decide) (by decide) ?_
    show Steps p.tables e below (T648.setTop (mkF m 38 #[.val (.ref a), .val (.int xs), .val (.double xv), .second] [])) τ
    refine XS.aloadN X648.here hx rfl (Jvm.hb hby d3_38) rfl rfl ?_
    show Steps p.tables e below (T648.setTop (mkF m 39 #[.val (.ref a), .val (.int xs), .val (.double xv), .second] [(.ref a)])) τ
    refine XS.dup X648.here hx rfl (Jvm.hb hby d3_39) rfl rfl ?_
    exact kt)
  obtain ⟨T652, X652, e652, st652⟩ := getF X648 hx hZ hown (host := "") (Or.inl (hw _ (List.mem_of_getElem? (i := 15) rfl))) Via.refl e648 fw641 (g := (mkF m 40 #[.val (.ref a), .val (.int xs), .val (.double xv), .second] [(.ref a), (.ref a)])) rfl rfl (Jvm.hb hby d3_40)
  have pre653 : ∀ τ, Steps p.tables e below (T652.setTop (mkF m 43 #[.val (.ref a), .val (.int xs), .val (.double xv), .second] [(.int (3 : Int32)), (.ref a)])) τ → Steps p.tables e below (s₁.setTop (entryFrame m #[(.ref a), (.int xs), (.double xv)] 4)) τ := fun τ kt => pre651 τ (st652 τ kt)
  have pre654 : ∀ τ, Steps p.tables e below (T652.setTop (mkF m 45 #[.val (.ref a), .val (.int xs), .val (.double xv), .second] [(.int (2 : Int32)), (.ref a)])) τ → Steps p.tables e below (s₁.setTop (entryFrame m #[(.ref a), (.int xs), (.double xv)] 4)) τ := fun τ kt => pre653 τ (by
    show Steps p.tables e below (T652.setTop (mkF m 43 #[.val (.ref a), .val (.int xs), .val (.double xv), .second] [(.int (3 : Int32)), (.ref a)])) τ
    refine XS.iconst X652.here hx rfl (Jvm.hb hby d3_43) ?_
    show Steps p.tables e below (T652.setTop (mkF m 44 #[.val (.ref a), .val (.int xs), .val (.double xv), .second] [(.int (1 : Int32)), (.int (3 : Int32)), (.ref a)])) τ
    refine XS.isub X652.here hx rfl (Jvm.hb hby d3_44) rfl ?_
    exact kt)
  have f656 := f642.wr W641
  obtain ⟨T655, h655, X655, e655, W655, st655⟩ := putF X652 hx hZ hown (host := "") (Or.inl (hw _ (List.mem_of_getElem? (i := 15) rfl))) Via.refl e652 fw641 f656 (Or.inl (hw _ (List.mem_of_getElem? (i := 16) rfl))) (hw _ (List.mem_of_getElem? (i := 1) rfl)) (ty := .int) (by decide) rfl rfl (g := (mkF m 45 #[.val (.ref a), .val (.int xs), .val (.double xv), .second] [(.int (2 : Int32)), (.ref a)])) rfl rfl (Jvm.hb hby d3_45)
  have fw655 := Fld.same W655 fw641
  have N655 := Fr.snoc X655 N641 ga
  have K655 : Keep h0 h655 [a, A, B] := K641.wr W655 (Or.inl (by simp))
  have pre657 : ∀ τ, Steps p.tables e below (T655.setTop (mkF m 48 #[.val (.ref a), .val (.int xs), .val (.double xv), .second] [])) τ → Steps p.tables e below (s₁.setTop (entryFrame m #[(.ref a), (.int xs), (.double xv)] 4)) τ := fun τ kt => pre654 τ (st655 τ kt)
  have pre658 : ∀ τ, Steps p.tables e below (T655.setTop (mkF m 49 #[.val (.ref a), .val (.int xs), .val (.double xv), .second] [(.ref a)])) τ → Steps p.tables e below (s₁.setTop (entryFrame m #[(.ref a), (.int xs), (.double xv)] 4)) τ := fun τ kt => pre657 τ (by
    show Steps p.tables e below (T655.setTop (mkF m 48 #[.val (.ref a), .val (.int xs), .val (.double xv), .second] [])) τ
    refine XS.aloadN X655.here hx rfl (Jvm.hb hby d3_48) rfl rfl ?_
    exact kt)
  have f660 := (FS.other W619 (Or.inr (slot_ne (Or.inr (hw _ (List.mem_of_getElem? (i := 11) rfl))) (Or.inl (hw _ (List.mem_of_getElem? (i := 16) rfl))) (by decide) (t := (.array .int)) (t' := .int) (by decide) (by decide))))
  have f661 := (f660.other W641 (Or.inr (slot_ne (Or.inr (hw _ (List.mem_of_getElem? (i := 11) rfl))) (Or.inl (hw _ (List.mem_of_getElem? (i := 16) rfl))) (by decide) (t := (.array .int)) (t' := .int) (by decide) (by decide))))
  have f662 := (f661.other W655 (Or.inr (slot_ne (Or.inr (hw _ (List.mem_of_getElem? (i := 11) rfl))) (Or.inl (hw _ (List.mem_of_getElem? (i := 16) rfl))) (by decide) (t := (.array .int)) (t' := .int) (by decide) (by decide))))
  obtain ⟨T659, X659, e659, st659⟩ := getF X655 hx hZ hown (host := "") (Or.inl (hw _ (List.mem_of_getElem? (i := 10) rfl))) Via.refl e655 f662 (g := (mkF m 49 #[.val (.ref a), .val (.int xs), .val (.double xv), .second] [(.ref a)])) rfl rfl (Jvm.hb hby d3_49)
  have pre663 : ∀ τ, Steps p.tables e below (T659.setTop (mkF m 52 #[.val (.ref a), .val (.int xs), .val (.double xv), .second] [(.ref A)])) τ → Steps p.tables e below (s₁.setTop (entryFrame m #[(.ref a), (.int xs), (.double xv)] 4)) τ := fun τ kt => pre658 τ (st659 τ kt)
  have pre664 : ∀ τ, Steps p.tables e below (T659.setTop (mkF m 53 #[.val (.ref a), .val (.int xs), .val (.double xv), .second] [(.ref a), (.ref A)])) τ → Steps p.tables e below (s₁.setTop (entryFrame m #[(.ref a), (.int xs), (.double xv)] 4)) τ := fun τ kt => pre663 τ (by
    show Steps p.tables e below (T659.setTop (mkF m 52 #[.val (.ref a), .val (.int xs), .val (.double xv), .second] [(.ref A)])) τ
    refine XS.aloadN X659.here hx rfl (Jvm.hb hby d3_52) rfl rfl ?_
    exact kt)
  obtain ⟨T665, X665, e665, st665⟩ := getF X659 hx hZ hown (host := "") (Or.inl (hw _ (List.mem_of_getElem? (i := 15) rfl))) Via.refl e659 fw655 (g := (mkF m 53 #[.val (.ref a), .val (.int xs), .val (.double xv), .second] [(.ref a), (.ref A)])) rfl rfl (Jvm.hb hby d3_53)
  have pre666 : ∀ τ, Steps p.tables e below (T665.setTop (mkF m 56 #[.val (.ref a), .val (.int xs), .val (.double xv), .second] [(.int (2 : Int32)), (.ref A)])) τ → Steps p.tables e below (s₁.setTop (entryFrame m #[(.ref a), (.int xs), (.double xv)] 4)) τ := fun τ kt => pre664 τ (st665 τ kt)
  have pre667 : ∀ τ, Steps p.tables e below (T665.setTop (mkF m 57 #[.val (.ref a), .val (.int xs), .val (.double xv), .second] [(.int xs), (.int (2 : Int32)), (.ref A)])) τ → Steps p.tables e below (s₁.setTop (entryFrame m #[(.ref a), (.int xs), (.double xv)] 4)) τ := fun τ kt => pre666 τ (by
    show Steps p.tables e below (T665.setTop (mkF m 56 #[.val (.ref a), .val (.int xs), .val (.double xv), .second] [(.int (2 : Int32)), (.ref A)])) τ
    refine XS.iloadN X665.here hx rfl (Jvm.hb hby d3_56) rfl ?_
    exact kt)
  have f668 := VS.other W619 (Ne.symm naA)
  have f669 := f668.other W641 (Ne.symm naA)
  have f670 := f669.other W655 (Ne.symm naA)
  obtain ⟨cl671, Ar671, q671, S671, M671, H671, U671⟩ := id f670
  obtain ⟨T672, h672, X672, e672, W672, st672⟩ := stI X665 hx hZ e665 Ar671 (j := (2 : Int32)) (inb_of S671 ⟨by decide, by decide⟩) (g := (mkF m 57 #[.val (.ref a), .val (.int xs), .val (.double xv), .second] [(.int xs), (.int (2 : Int32)), (.ref A)])) rfl rfl (Jvm.hb hby d3_57)
  have V672 : Arv Z h672 A kA .int (3 : Int32) [(.int s0), (.int s1), (.int xs)] (.int (0 : Int32)) := Arv.set Ar671 q671 S671 M671 H671 U671 rfl W672 2 rfl (Nat.le_of_ble_eq_true rfl)
  have N672 := Fr.snoc X672 N655 gA
  have K672 : Keep h0 h672 [a, A, B] := K655.wr W672 (Or.inl (by simp))
  have pre673 : ∀ τ, Steps p.tables e below (T672.setTop (mkF m 58 #[.val (.ref a), .val (.int xs), .val (.double xv), .second] [])) τ → Steps p.tables e below (s₁.setTop (entryFrame m #[(.ref a), (.int xs), (.double xv)] 4)) τ := fun τ kt => pre667 τ (st672 τ kt)
  have pre674 : ∀ τ, Steps p.tables e below (T672.setTop (mkF m 59 #[.val (.ref a), .val (.int xs), .val (.double xv), .second] [(.ref a)])) τ → Steps p.tables e below (s₁.setTop (entryFrame m #[(.ref a), (.int xs), (.double xv)] 4)) τ := fun τ kt => pre673 τ (by
    show Steps p.tables e below (T672.setTop (mkF m 58 #[.val (.ref a), .val (.int xs), .val (.double xv), .second] [])) τ
    refine XS.aloadN X672.here hx rfl (Jvm.hb hby d3_58) rfl rfl ?_
    exact kt)
  have f676 := (f630.other W641 (Or.inr (slot_ne (Or.inr (hw _ (List.mem_of_getElem? (i := 14) rfl))) (Or.inl (hw _ (List.mem_of_getElem? (i := 16) rfl))) (by decide) (t := (.array .double)) (t' := .int) (by decide) (by decide))))
  have f677 := (f676.other W655 (Or.inr (slot_ne (Or.inr (hw _ (List.mem_of_getElem? (i := 14) rfl))) (Or.inl (hw _ (List.mem_of_getElem? (i := 16) rfl))) (by decide) (t := (.array .double)) (t' := .int) (by decide) (by decide))))
  have f678 := (f677.other W672 (Or.inl naA))
  obtain ⟨T675, X675, e675, st675⟩ := getF X672 hx hZ hown (host := "") (Or.inl (hw _ (List.mem_of_getElem? (i := 13) rfl))) Via.refl e672 f678 (g := (mkF m 59 #[.val (.ref a), .val (.int xs), .val (.double xv), .second] [(.ref a)])) rfl rfl (Jvm.hb hby d3_59)
  have pre679 : ∀ τ, Steps p.tables e below (T675.setTop (mkF m 62 #[.val (.ref a), .val (.int xs), .val (.double xv), .second] [(.ref B)])) τ → Steps p.tables e below (s₁.setTop (entryFrame m #[(.ref a), (.int xs), (.double xv)] 4)) τ := fun τ kt => pre674 τ (st675 τ kt)
  have pre680 : ∀ τ, Steps p.tables e below (T675.setTop (mkF m 63 #[.val (.ref a), .val (.int xs), .val (.double xv), .second] [(.ref a), (.ref B)])) τ → Steps p.tables e below (s₁.setTop (entryFrame m #[(.ref a), (.int xs), (.double xv)] 4)) τ := fun τ kt => pre679 τ (by
    show Steps p.tables e below (T675.setTop (mkF m 62 #[.val (.ref a), .val (.int xs), .val (.double xv), .second] [(.ref B)])) τ
    refine XS.aloadN X675.here hx rfl (Jvm.hb hby d3_62) rfl rfl ?_
    exact kt)
  have f682 := (fw655.other W672 (Or.inl naA))
  obtain ⟨T681, X681, e681, st681⟩ := getF X675 hx hZ hown (host := "") (Or.inl (hw _ (List.mem_of_getElem? (i := 15) rfl))) Via.refl e675 f682 (g := (mkF m 63 #[.val (.ref a), .val (.int xs), .val (.double xv), .second] [(.ref a), (.ref B)])) rfl rfl (Jvm.hb hby d3_63)
  have pre683 : ∀ τ, Steps p.tables e below (T681.setTop (mkF m 66 #[.val (.ref a), .val (.int xs), .val (.double xv), .second] [(.int (2 : Int32)), (.ref B)])) τ → Steps p.tables e below (s₁.setTop (entryFrame m #[(.ref a), (.int xs), (.double xv)] 4)) τ := fun τ kt => pre680 τ (st681 τ kt)
  have pre684 : ∀ τ, Steps p.tables e below (T681.setTop (mkF m 67 #[.val (.ref a), .val (.int xs), .val (.double xv), .second] [(.double xv), (.int (2 : Int32)), (.ref B)])) τ → Steps p.tables e below (s₁.setTop (entryFrame m #[(.ref a), (.int xs), (.double xv)] 4)) τ := fun τ kt => pre683 τ (by
    show Steps p.tables e below (T681.setTop (mkF m 66 #[.val (.ref a), .val (.int xs), .val (.double xv), .second] [(.int (2 : Int32)), (.ref B)])) τ
    refine own_dloadN X681.here hx rfl (Jvm.hb hby d3_66) rfl ?_
    exact kt)
  have f685 := f635.other W641 (Ne.symm naB)
  have f686 := f685.other W655 (Ne.symm naB)
  have f687 := f686.other W672 (Ne.symm nAB)
  obtain ⟨cl688, Ar688, q688, S688, M688, H688, U688⟩ := id f687
  obtain ⟨T689, h689, X689, e689, W689, st689⟩ := own_stD X681 hx hZ e681 Ar688 (j := (2 : Int32)) (inb_of S688 ⟨by decide, by decide⟩) (g := (mkF m 67 #[.val (.ref a), .val (.int xs), .val (.double xv), .second] [(.double xv), (.int (2 : Int32)), (.ref B)])) rfl rfl (Jvm.hb hby d3_67)
  have V689 : Arv Z h689 B kB .double (3 : Int32) [(.double v0), (.double v1), (.double xv)] (.double (0 : UInt64)) := Arv.set Ar688 q688 S688 M688 H688 U688 rfl W689 2 rfl (Nat.le_of_ble_eq_true rfl)
  have N689 := Fr.snoc X689 N672 gB
  have K689 : Keep h0 h689 [a, A, B] := K672.wr W689 (Or.inl (by simp))
  have pre690 : ∀ τ, Steps p.tables e below (T689.setTop (mkF m 68 #[.val (.ref a), .val (.int xs), .val (.double xv), .second] [])) τ → Steps p.tables e below (s₁.setTop (entryFrame m #[(.ref a), (.int xs), (.double xv)] 4)) τ := fun τ kt => pre684 τ (st689 τ kt)
  have f691 := (f662.other W672 (Or.inl naA))
  have f692 := (f691.other W689 (Or.inl naB))
  have f693 := (f678.other W689 (Or.inl naB))
  have f694 := (f682.other W689 (Or.inl naB))
  have f695 := (f649.other W655 (Or.inr (slot_ne (Or.inl (hw _ (List.mem_of_getElem? (i := 18) rfl))) (Or.inl (hw _ (List.mem_of_getElem? (i := 16) rfl))) (by decide) (t := .int) (t' := .int) (by decide) (by decide))))
  have f696 := (f695.other W672 (Or.inl naA))
  have f697 := (f696.other W689 (Or.inl naB))
  have f698 := V672.other W689 nAB
  obtain ⟨fs, hrL, hrun, hended, hW, hsame⟩ := X689.leave (v := none) (fun _ => rfl)
  refine ⟨_, _, pre690 _ ?_, hrun, hended, _, _, rfl, ?_, ⟨_, rfl⟩, hW, hsame.mono (by decide) (by decide)⟩
  · show Steps p.tables e below (T689.setTop (mkF m 68 #[.val (.ref a), .val (.int xs), .val (.double xv), .second] [])) _
    exact X689.returnOut hx Bd.returns (Jvm.hb hby d3_68) hrL
  · show QC Z a A B kA kB (2 : Int32) (3 : Int32) [(.int s0), (.int s1), (.int xs)] [(.double v0), (.double v1), (.double xv)] h0 n0 _ T689.heap _
    rw [e689]
    exact ⟨rfl, N689, K689, f692, f693, f694, f697, f698, V689⟩
set_option maxRecDepth 65536 in
set_option maxHeartbeats 40000000 in
theorem rmRem_23_x (l : Launch) (Z : State) (a0 : Array Value) (hw : ∀ d ∈ tables_1, d.before a0 Z = true) (ws : List Jvm.Cond) (a : Addr) (xs : Int32) (A B : Addr) (kA kB : ClassId) (s0 s1 s2 : Int32) (v0 v1 v2 : UInt64) (h0 : Heap) (n0 : Nat) (Z0 : n0 ≤ h0.size) (E7 : Exa Z h0 a "com/example/counterpath/counterpath/core/CappedMaximum") (FS : Fld Z h0 a "com/example/counterpath/counterpath/core/CappedMaximum" "samples" "[I" (.ref A)) (FV : Fld Z h0 a "com/example/counterpath/counterpath/core/CappedMaximum" "values" "[D" (.ref B)) (FH : Fld Z h0 a "com/example/counterpath/counterpath/core/CappedMaximum" "head" "I" (.int (2 : Int32))) (FT : Fld Z h0 a "com/example/counterpath/counterpath/core/CappedMaximum" "tail" "I" (.int (3 : Int32))) (VS : Arv Z h0 A kA .int (3 : Int32) [(.int s0), (.int s1), (.int s2)] (.int (0 : Int32))) (VV : Arv Z h0 B kB .double (3 : Int32) [(.double v0), (.double v1), (.double v2)] (.double (0 : UInt64))) (naA : a ≠ A) (naB : a ≠ B) (nAB : A ≠ B) (ga : n0 ≤ a) (gA : n0 ≤ A) (gB : n0 ≤ B) (pc0 : ¬ (xs < s2)) :
    MetFree l (⟨"com/example/counterpath/counterpath/core/CappedMaximum", "removeAfter", "(I)V"⟩ : MethodName) (head1 (Jvm.Cond.code (⟨"com/example/counterpath/counterpath/core/CappedMaximum", "removeAfter", "(I)V"⟩ : MethodName) prog_3_method_4_code 2 none :: ws) ({ frames := 0, cells := 0, slots := 0, locals := 0 } : Room)) (fun α U => α = #[(.ref a), (.int xs)] ∧ Z.Warmed39 U.vm ∧ U.heap = h0) (fun _ _ _ _ _ => True) (fun _ U ω U' => ∃ ν Λ, ω = .returned ν ∧ QC Z a A B kA kB (2 : Int32) (3 : Int32) [(.int s0), (.int s1), (.int s2)] [(.double v0), (.double v1), (.double v2)] h0 n0 ν U'.heap Λ ∧ FrameEnd U ω U' Λ ({ frames := 0, cells := 0, slots := 0, locals := 0 } : Room).cells ({ frames := 0, cells := 0, slots := 0, locals := 0 } : Room).slots) := by
  refine MetFree.of_bodySF (plainFor_of_name own_pn_com_example_counterpath_counterpath_core_CappedMaximum) hisR ?_
  intro p e s m args below meth c s₁ Bd hml0 hP hK
  obtain ⟨rfl, hZ, hh⟩ := hP
  have hx := Bd.exec
  have hby := Bd.bytes
  have hml : c.maxLocals = 2 := hml0
  have hown : s.vm.findClass "com/example/counterpath/counterpath/core/CappedMaximum" = some m.cls := findClass_of_methodNamed Bd.named
  have hnm := (name_of_methodNamed Bd.named Bd.method).1
  have X0 : Stand p l e ({ frames := 0, cells := 0, slots := 0, locals := 0 } : Room) s m #[(.ref a), (.int xs)] below meth c s₁ [] 0 0 := Stand.of_body Bd
  have e0 : s₁.heap = h0 := by rw [← hh, Bd.state]; rfl
  have N0 := Fr.nil n0
  have KK0 : Keep h0 h0 [a, A, B] := Keep.refl h0 [a, A, B]
  have pre0 : ∀ τ, Steps p.tables e below (s₁.setTop (mkF m 0 #[.val (.ref a), .val (.int xs)] [])) τ → Steps p.tables e below (s₁.setTop (entryFrame m #[(.ref a), (.int xs)] 2)) τ := fun τ κ => castTop (own_ef6 m a xs) κ
  have pre711 : ∀ τ, Steps p.tables e below (s₁.setTop (mkF m 1 #[.val (.ref a), .val (.int xs)] [(.ref a)])) τ → Steps p.tables e below (s₁.setTop (entryFrame m #[(.ref a), (.int xs)] 2)) τ := fun τ kt => pre0 τ (by
    show Steps p.tables e below (s₁.setTop (mkF m 0 #[.val (.ref a), .val (.int xs)] [])) τ
    refine XS.aloadN X0.here hx rfl (Jvm.hb hby d6_0) rfl rfl ?_
    exact kt)
  obtain ⟨T712, X712, e712, st712⟩ := getF X0 hx hZ hown (host := "") (Or.inl (hw _ (List.mem_of_getElem? (i := 17) rfl))) Via.refl e0 FT (g := (mkF m 1 #[.val (.ref a), .val (.int xs)] [(.ref a)])) rfl rfl (Jvm.hb hby d6_1)
  have pre713 : ∀ τ, Steps p.tables e below (T712.setTop (mkF m 4 #[.val (.ref a), .val (.int xs)] [(.int (3 : Int32))])) τ → Steps p.tables e below (s₁.setTop (entryFrame m #[(.ref a), (.int xs)] 2)) τ := fun τ kt => pre711 τ (st712 τ kt)
  have pre714 : ∀ τ, Steps p.tables e below (T712.setTop (mkF m 5 #[.val (.ref a), .val (.int xs)] [(.ref a), (.int (3 : Int32))])) τ → Steps p.tables e below (s₁.setTop (entryFrame m #[(.ref a), (.int xs)] 2)) τ := fun τ kt => pre713 τ (by
    show Steps p.tables e below (T712.setTop (mkF m 4 #[.val (.ref a), .val (.int xs)] [(.int (3 : Int32))])) τ
    refine XS.aloadN X712.here hx rfl (Jvm.hb hby d6_4) rfl rfl ?_
    exact kt)
  obtain ⟨T715, X715, e715, st715⟩ := getF X712 hx hZ hown (host := "") (Or.inl (hw _ (List.mem_of_getElem? (i := 15) rfl))) Via.refl e712 FH (g := (mkF m 5 #[.val (.ref a), .val (.int xs)] [(.ref a), (.int (3 : Int32))])) rfl rfl (Jvm.hb hby d6_5)
  have pre716 : ∀ τ, Steps p.tables e below (T715.setTop (mkF m 8 #[.val (.ref a), .val (.int xs)] [(.int (2 : Int32)), (.int (3 : Int32))])) τ → Steps p.tables e below (s₁.setTop (entryFrame m #[(.ref a), (.int xs)] 2)) τ := fun τ kt => pre714 τ (st715 τ kt)
  have pre717 : ∀ τ, Steps p.tables e below (T715.setTop (mkF m 12 #[.val (.ref a), .val (.int xs)] [(.ref a)])) τ → Steps p.tables e below (s₁.setTop (entryFrame m #[(.ref a), (.int xs)] 2)) τ := fun τ kt => pre716 τ (by
    show Steps p.tables e below (T715.setTop (mkF m 8 #[.val (.ref a), .val (.int xs)] [(.int (2 : Int32)), (.int (3 : Int32))])) τ
    refine XS.icmpNo X715.here hx rfl (Jvm.hb hby d6_8) rfl (tlt (by decide)).2.2.2 ?_
    show Steps p.tables e below (T715.setTop (mkF m 11 #[.val (.ref a), .val (.int xs)] [])) τ
    refine XS.aloadN X715.here hx rfl (Jvm.hb hby d6_11) rfl rfl ?_
    exact kt)
  obtain ⟨T718, X718, e718, st718⟩ := getF X715 hx hZ hown (host := "") (Or.inl (hw _ (List.mem_of_getElem? (i := 10) rfl))) Via.refl e715 FS (g := (mkF m 12 #[.val (.ref a), .val (.int xs)] [(.ref a)])) rfl rfl (Jvm.hb hby d6_12)
  have pre719 : ∀ τ, Steps p.tables e below (T718.setTop (mkF m 15 #[.val (.ref a), .val (.int xs)] [(.ref A)])) τ → Steps p.tables e below (s₁.setTop (entryFrame m #[(.ref a), (.int xs)] 2)) τ := fun τ kt => pre717 τ (st718 τ kt)
  have pre720 : ∀ τ, Steps p.tables e below (T718.setTop (mkF m 16 #[.val (.ref a), .val (.int xs)] [(.ref a), (.ref A)])) τ → Steps p.tables e below (s₁.setTop (entryFrame m #[(.ref a), (.int xs)] 2)) τ := fun τ kt => pre719 τ (by
    show Steps p.tables e below (T718.setTop (mkF m 15 #[.val (.ref a), .val (.int xs)] [(.ref A)])) τ
    refine XS.aloadN X718.here hx rfl (Jvm.hb hby d6_15) rfl rfl ?_
    exact kt)
  obtain ⟨T721, X721, e721, st721⟩ := getF X718 hx hZ hown (host := "") (Or.inl (hw _ (List.mem_of_getElem? (i := 17) rfl))) Via.refl e718 FT (g := (mkF m 16 #[.val (.ref a), .val (.int xs)] [(.ref a), (.ref A)])) rfl rfl (Jvm.hb hby d6_16)
  have pre722 : ∀ τ, Steps p.tables e below (T721.setTop (mkF m 19 #[.val (.ref a), .val (.int xs)] [(.int (3 : Int32)), (.ref A)])) τ → Steps p.tables e below (s₁.setTop (entryFrame m #[(.ref a), (.int xs)] 2)) τ := fun τ kt => pre720 τ (st721 τ kt)
  have pre723 : ∀ τ, Steps p.tables e below (T721.setTop (mkF m 21 #[.val (.ref a), .val (.int xs)] [(.int (2 : Int32)), (.ref A)])) τ → Steps p.tables e below (s₁.setTop (entryFrame m #[(.ref a), (.int xs)] 2)) τ := fun τ kt => pre722 τ (by
    show Steps p.tables e below (T721.setTop (mkF m 19 #[.val (.ref a), .val (.int xs)] [(.int (3 : Int32)), (.ref A)])) τ
    refine XS.iconst X721.here hx rfl (Jvm.hb hby d6_19) ?_
    show Steps p.tables e below (T721.setTop (mkF m 20 #[.val (.ref a), .val (.int xs)] [(.int (1 : Int32)), (.int (3 : Int32)), (.ref A)])) τ
    refine XS.isub X721.here hx rfl (Jvm.hb hby d6_20) rfl ?_
    exact kt)
  obtain ⟨cl724, Ar724, q724, S724, M724, H724, U724⟩ := id VS
  have in724 : ¬ ((2 : Int32) < 0 ∨ cl724.slots.size ≤ ((2 : Int32)).toNatClampNeg) := inb_of S724 ⟨by decide, by decide⟩
  have pre725 : ∀ τ, Steps p.tables e below (T721.setTop (mkF m 39 #[.val (.ref a), .val (.int xs)] [])) τ → Steps p.tables e below (s₁.setTop (entryFrame m #[(.ref a), (.int xs)] 2)) τ := fun τ kt => pre723 τ (by
    show Steps p.tables e below (T721.setTop (mkF m 21 #[.val (.ref a), .val (.int xs)] [(.int (2 : Int32)), (.ref A)])) τ
    refine X721.iaload hx (by rw [e721]; exact Ar724.1) (State.isArrayOf_alike hZ.alike Ar724.2.1) Ar724.2.2 in724 (H724.at in724 rfl) (g := (mkF m 21 #[.val (.ref a), .val (.int xs)] [(.int (2 : Int32)), (.ref A)])) rfl rfl (Jvm.hb hby d6_21) _ ?_
    show Steps p.tables e below (T721.setTop (mkF m 22 #[.val (.ref a), .val (.int xs)] [(.int s2)])) τ
    refine XS.iloadN X721.here hx rfl (Jvm.hb hby d6_22) rfl ?_
    show Steps p.tables e below (T721.setTop (mkF m 23 #[.val (.ref a), .val (.int xs)] [(.int xs), (.int s2)])) τ
    refine XS.icmpYes X721.here hx rfl (pc0 := 23) (pc' := 39) rfl (Jvm.hb hby d6_23) rfl (flt pc0).2.2.2 (by decide) (by decide) ?_
    exact kt)
  obtain ⟨fs, hrL, hrun, hended, hW, hsame⟩ := X721.leave (v := none) (fun _ => rfl)
  refine ⟨_, _, pre725 _ ?_, hrun, hended, _, _, rfl, ?_, ⟨_, rfl⟩, hW, hsame.mono (by decide) (by decide)⟩
  · show Steps p.tables e below (T721.setTop (mkF m 39 #[.val (.ref a), .val (.int xs)] [])) _
    exact X721.returnOut hx Bd.returns (Jvm.hb hby d6_39) hrL
  · show QC Z a A B kA kB (2 : Int32) (3 : Int32) [(.int s0), (.int s1), (.int s2)] [(.double v0), (.double v1), (.double v2)] h0 n0 _ T721.heap _
    rw [e721]
    exact ⟨rfl, N0, KK0, FS, FV, FH, FT, VS, VV⟩
set_option maxRecDepth 65536 in
set_option maxHeartbeats 40000000 in
theorem rmAdd_23_ce (l : Launch) (Z : State) (a0 : Array Value) (hw : ∀ d ∈ tables_1, d.before a0 Z = true) (ws : List Jvm.Cond) (a : Addr) (xs : Int32) (xv : UInt64) (A B : Addr) (kA kB : ClassId) (s0 s1 s2 : Int32) (v0 v1 v2 : UInt64) (h0 : Heap) (n0 : Nat) (Z0 : n0 ≤ h0.size) (E7 : Exa Z h0 a "com/example/counterpath/counterpath/core/CappedMaximum") (FS : Fld Z h0 a "com/example/counterpath/counterpath/core/CappedMaximum" "samples" "[I" (.ref A)) (FV : Fld Z h0 a "com/example/counterpath/counterpath/core/CappedMaximum" "values" "[D" (.ref B)) (FH : Fld Z h0 a "com/example/counterpath/counterpath/core/CappedMaximum" "head" "I" (.int (2 : Int32))) (FT : Fld Z h0 a "com/example/counterpath/counterpath/core/CappedMaximum" "tail" "I" (.int (3 : Int32))) (VS : Arv Z h0 A kA .int (3 : Int32) [(.int s0), (.int s1), (.int s2)] (.int (0 : Int32))) (VV : Arv Z h0 B kB .double (3 : Int32) [(.double v0), (.double v1), (.double v2)] (.double (0 : UInt64))) (naA : a ≠ A) (naB : a ≠ B) (nAB : A ≠ B) (ga : n0 ≤ a) (gA : n0 ≤ A) (gB : n0 ≤ B) (pc0 : ¬ ((0 : Int32) < cmpValue (FP.dcmp v2 xv) .g)) :
    MetFree l (⟨"com/example/counterpath/counterpath/core/CappedMaximum", "addFirst", "(ID)V"⟩ : MethodName) (head1 (Jvm.Cond.code (⟨"com/example/counterpath/counterpath/core/CappedMaximum", "addFirst", "(ID)V"⟩ : MethodName) prog_3_method_2_code 4 none :: ws) ({ frames := 0, cells := 0, slots := 0, locals := 0 } : Room)) (fun α U => α = #[(.ref a), (.int xs), (.double xv)] ∧ Z.Warmed39 U.vm ∧ U.heap = h0) (fun _ _ _ _ _ => True) (fun _ U ω U' => ∃ ν Λ, ω = .returned ν ∧ QC Z a A B kA kB (2 : Int32) (3 : Int32) [(.int s0), (.int s1), (.int xs)] [(.double v0), (.double v1), (.double xv)] h0 n0 ν U'.heap Λ ∧ FrameEnd U ω U' Λ ({ frames := 0, cells := 0, slots := 0, locals := 0 } : Room).cells ({ frames := 0, cells := 0, slots := 0, locals := 0 } : Room).slots) := by
  refine MetFree.of_bodySF (plainFor_of_name own_pn_com_example_counterpath_counterpath_core_CappedMaximum) hisR ?_
  intro p e s m args below meth c s₁ Bd hml0 hP hK
  obtain ⟨rfl, hZ, hh⟩ := hP
  have hx := Bd.exec
  have hby := Bd.bytes
  have hml : c.maxLocals = 4 := hml0
  have hown : s.vm.findClass "com/example/counterpath/counterpath/core/CappedMaximum" = some m.cls := findClass_of_methodNamed Bd.named
  have hnm := (name_of_methodNamed Bd.named Bd.method).1
  have X0 : Stand p l e ({ frames := 0, cells := 0, slots := 0, locals := 0 } : Room) s m #[(.ref a), (.int xs), (.double xv)] below meth c s₁ [] 0 0 := Stand.of_body Bd
  have e0 : s₁.heap = h0 := by rw [← hh, Bd.state]; rfl
  have N0 := Fr.nil n0
  have KK0 : Keep h0 h0 [a, A, B] := Keep.refl h0 [a, A, B]
  have pre0 : ∀ τ, Steps p.tables e below (s₁.setTop (mkF m 0 #[.val (.ref a), .val (.int xs), .val (.double xv), .second] [])) τ → Steps p.tables e below (s₁.setTop (entryFrame m #[(.ref a), (.int xs), (.double xv)] 4)) τ := fun τ κ => castTop (own_ef3 m a xs xv) κ
  have pre744 : ∀ τ, Steps p.tables e below (s₁.setTop (mkF m 1 #[.val (.ref a), .val (.int xs), .val (.double xv), .second] [(.ref a)])) τ → Steps p.tables e below (s₁.setTop (entryFrame m #[(.ref a), (.int xs), (.double xv)] 4)) τ := fun τ kt => pre0 τ (by
    show Steps p.tables e below (s₁.setTop (mkF m 0 #[.val (.ref a), .val (.int xs), .val (.double xv), .second] [])) τ
    refine XS.aloadN X0.here hx rfl (Jvm.hb hby d3_0) rfl rfl ?_
    exact kt)
  obtain ⟨T745, X745, e745, st745⟩ := getF X0 hx hZ hown (host := "") (Or.inl (hw _ (List.mem_of_getElem? (i := 15) rfl))) Via.refl e0 FH (g := (mkF m 1 #[.val (.ref a), .val (.int xs), .val (.double xv), .second] [(.ref a)])) rfl rfl (Jvm.hb hby d3_1)
  have pre746 : ∀ τ, Steps p.tables e below (T745.setTop (mkF m 4 #[.val (.ref a), .val (.int xs), .val (.double xv), .second] [(.int (2 : Int32))])) τ → Steps p.tables e below (s₁.setTop (entryFrame m #[(.ref a), (.int xs), (.double xv)] 4)) τ := fun τ kt => pre744 τ (st745 τ kt)
  have pre747 : ∀ τ, Steps p.tables e below (T745.setTop (mkF m 5 #[.val (.ref a), .val (.int xs), .val (.double xv), .second] [(.ref a), (.int (2 : Int32))])) τ → Steps p.tables e below (s₁.setTop (entryFrame m #[(.ref a), (.int xs), (.double xv)] 4)) τ := fun τ kt => pre746 τ (by
    show Steps p.tables e below (T745.setTop (mkF m 4 #[.val (.ref a), .val (.int xs), .val (.double xv), .second] [(.int (2 : Int32))])) τ
    refine XS.aloadN X745.here hx rfl (Jvm.hb hby d3_4) rfl rfl ?_
    exact kt)
  obtain ⟨T748, X748, e748, st748⟩ := getF X745 hx hZ hown (host := "") (Or.inl (hw _ (List.mem_of_getElem? (i := 17) rfl))) Via.refl e745 FT (g := (mkF m 5 #[.val (.ref a), .val (.int xs), .val (.double xv), .second] [(.ref a), (.int (2 : Int32))])) rfl rfl (Jvm.hb hby d3_5)
  have pre749 : ∀ τ, Steps p.tables e below (T748.setTop (mkF m 8 #[.val (.ref a), .val (.int xs), .val (.double xv), .second] [(.int (3 : Int32)), (.int (2 : Int32))])) τ → Steps p.tables e below (s₁.setTop (entryFrame m #[(.ref a), (.int xs), (.double xv)] 4)) τ := fun τ kt => pre747 τ (st748 τ kt)
  have pre750 : ∀ τ, Steps p.tables e below (T748.setTop (mkF m 12 #[.val (.ref a), .val (.int xs), .val (.double xv), .second] [(.ref a)])) τ → Steps p.tables e below (s₁.setTop (entryFrame m #[(.ref a), (.int xs), (.double xv)] 4)) τ := fun τ kt => pre749 τ (by
    show Steps p.tables e below (T748.setTop (mkF m 8 #[.val (.ref a), .val (.int xs), .val (.double xv), .second] [(.int (3 : Int32)), (.int (2 : Int32))])) τ
    refine XS.icmpNo X748.here hx rfl (Jvm.hb hby d3_8) rfl (tlt (by decide)).2.1 ?_
    show Steps p.tables e below (T748.setTop (mkF m 11 #[.val (.ref a), .val (.int xs), .val (.double xv), .second] [])) τ
    refine XS.aloadN X748.here hx rfl (Jvm.hb hby d3_11) rfl rfl ?_
    exact kt)
  obtain ⟨T751, X751, e751, st751⟩ := getF X748 hx hZ hown (host := "") (Or.inl (hw _ (List.mem_of_getElem? (i := 13) rfl))) Via.refl e748 FV (g := (mkF m 12 #[.val (.ref a), .val (.int xs), .val (.double xv), .second] [(.ref a)])) rfl rfl (Jvm.hb hby d3_12)
  have pre752 : ∀ τ, Steps p.tables e below (T751.setTop (mkF m 15 #[.val (.ref a), .val (.int xs), .val (.double xv), .second] [(.ref B)])) τ → Steps p.tables e below (s₁.setTop (entryFrame m #[(.ref a), (.int xs), (.double xv)] 4)) τ := fun τ kt => pre750 τ (st751 τ kt)
  have pre753 : ∀ τ, Steps p.tables e below (T751.setTop (mkF m 16 #[.val (.ref a), .val (.int xs), .val (.double xv), .second] [(.ref a), (.ref B)])) τ → Steps p.tables e below (s₁.setTop (entryFrame m #[(.ref a), (.int xs), (.double xv)] 4)) τ := fun τ kt => pre752 τ (by
    show Steps p.tables e below (T751.setTop (mkF m 15 #[.val (.ref a), .val (.int xs), .val (.double xv), .second] [(.ref B)])) τ
    refine XS.aloadN X751.here hx rfl (Jvm.hb hby d3_15) rfl rfl ?_
    exact kt)
  obtain ⟨T754, X754, e754, st754⟩ := getF X751 hx hZ hown (host := "") (Or.inl (hw _ (List.mem_of_getElem? (i := 15) rfl))) Via.refl e751 FH (g := (mkF m 16 #[.val (.ref a), .val (.int xs), .val (.double xv), .second] [(.ref a), (.ref B)])) rfl rfl (Jvm.hb hby d3_16)
  have pre755 : ∀ τ, Steps p.tables e below (T754.setTop (mkF m 19 #[.val (.ref a), .val (.int xs), .val (.double xv), .second] [(.int (2 : Int32)), (.ref B)])) τ → Steps p.tables e below (s₁.setTop (entryFrame m #[(.ref a), (.int xs), (.double xv)] 4)) τ := fun τ kt => pre753 τ (st754 τ kt)
  obtain ⟨cl756, Ar756, q756, S756, M756, H756, U756⟩ := id VV
  have in756 : ¬ ((2 : Int32) < 0 ∨ cl756.slots.size ≤ ((2 : Int32)).toNatClampNeg) := inb_of S756 ⟨by decide, by decide⟩
  have pre757 : ∀ τ, Steps p.tables e below (T754.setTop (mkF m 27 #[.val (.ref a), .val (.int xs), .val (.double xv), .second] [(.ref a), (.ref a)])) τ → Steps p.tables e below (s₁.setTop (entryFrame m #[(.ref a), (.int xs), (.double xv)] 4)) τ := fun τ kt => pre755 τ (by
    show Steps p.tables e below (T754.setTop (mkF m 19 #[.val (.ref a), .val (.int xs), .val (.double xv), .second] [(.int (2 : Int32)), (.ref B)])) τ
    refine X754.daload hx (by rw [e754]; exact Ar756.1) (State.isArrayOf_alike hZ.alike Ar756.2.1) Ar756.2.2 in756 (H756.at in756 rfl) (g := (mkF m 19 #[.val (.ref a), .val (.int xs), .val (.double xv), .second] [(.int (2 : Int32)), (.ref B)])) rfl rfl (Jvm.hb hby d3_19) _ ?_
    show Steps p.tables e below (T754.setTop (mkF m 20 #[.val (.ref a), .val (.int xs), .val (.double xv), .second] [(.double v2)])) τ
    refine own_dloadN X754.here hx rfl (Jvm.hb hby d3_20) rfl ?_
    show Steps p.tables e below (T754.setTop (mkF m 21 #[.val (.ref a), .val (.int xs), .val (.double xv), .second] [(.double xv), (.double v2)])) τ
    refine own_dcmp X754.here hx rfl (Jvm.hb hby d3_21) rfl ?_
    show Steps p.tables e below (T754.setTop (mkF m 22 #[.val (.ref a), .val (.int xs), .val (.double xv), .second] [(.int (cmpValue (FP.dcmp v2 xv) .g))])) τ
    refine XS.ifNo X754.here hx rfl (Jvm.hb hby d3_22) rfl ((if0 _ _).trans (flt pc0).2.2.1) ?_
    show Steps p.tables e below (T754.setTop (mkF m 25 #[.val (.ref a), .val (.int xs), .val (.double xv), .second] [])) τ
    refine XS.aloadN X754.here hx rfl (Jvm.hb hby d3_25) rfl rfl ?_
    show Steps p.tables e below (T754.setTop (mkF m 26 #[.val (.ref a), .val (.int xs), .val (.double xv), .second] [(.ref a)])) τ
    refine XS.dup X754.here hx rfl (Jvm.hb hby d3_26) rfl rfl ?_
    exact kt)
  obtain ⟨T758, X758, e758, st758⟩ := getF X754 hx hZ hown (host := "") (Or.inl (hw _ (List.mem_of_getElem? (i := 15) rfl))) Via.refl e754 FH (g := (mkF m 27 #[.val (.ref a), .val (.int xs), .val (.double xv), .second] [(.ref a), (.ref a)])) rfl rfl (Jvm.hb hby d3_27)
  have pre759 : ∀ τ, Steps p.tables e below (T758.setTop (mkF m 30 #[.val (.ref a), .val (.int xs), .val (.double xv), .second] [(.int (2 : Int32)), (.ref a)])) τ → Steps p.tables e below (s₁.setTop (entryFrame m #[(.ref a), (.int xs), (.double xv)] 4)) τ := fun τ kt => pre757 τ (st758 τ kt)
  have pre760 : ∀ τ, Steps p.tables e below (T758.setTop (mkF m 32 #[.val (.ref a), .val (.int xs), .val (.double xv), .second] [(.int (3 : Int32)), (.ref a)])) τ → Steps p.tables e below (s₁.setTop (entryFrame m #[(.ref a), (.int xs), (.double xv)] 4)) τ := fun τ kt => pre759 τ (by
    show Steps p.tables e below (T758.setTop (mkF m 30 #[.val (.ref a), .val (.int xs), .val (.double xv), .second] [(.int (2 : Int32)), (.ref a)])) τ
    refine XS.iconst X758.here hx rfl (Jvm.hb hby d3_30) ?_
    show Steps p.tables e below (T758.setTop (mkF m 31 #[.val (.ref a), .val (.int xs), .val (.double xv), .second] [(.int (1 : Int32)), (.int (2 : Int32)), (.ref a)])) τ
    refine XS.iadd X758.here hx rfl (Jvm.hb hby d3_31) rfl ?_
    exact kt)
  obtain ⟨T761, h761, X761, e761, W761, st761⟩ := putF X758 hx hZ hown (host := "") (Or.inl (hw _ (List.mem_of_getElem? (i := 15) rfl))) Via.refl e758 FH E7 (Or.inl (hw _ (List.mem_of_getElem? (i := 16) rfl))) (hw _ (List.mem_of_getElem? (i := 1) rfl)) (ty := .int) (by decide) rfl rfl (g := (mkF m 32 #[.val (.ref a), .val (.int xs), .val (.double xv), .second] [(.int (3 : Int32)), (.ref a)])) rfl rfl (Jvm.hb hby d3_32)
  have fw761 := Fld.same W761 FH
  have N761 := Fr.snoc X761 N0 ga
  have K761 : Keep h0 h761 [a, A, B] := KK0.wr W761 (Or.inl (by simp))
  have pre762 : ∀ τ, Steps p.tables e below (T761.setTop (mkF m 35 #[.val (.ref a), .val (.int xs), .val (.double xv), .second] [])) τ → Steps p.tables e below (s₁.setTop (entryFrame m #[(.ref a), (.int xs), (.double xv)] 4)) τ := fun τ kt => pre760 τ (st761 τ kt)
  have pre763 : ∀ τ, Steps p.tables e below (T761.setTop (mkF m 1 #[.val (.ref a), .val (.int xs), .val (.double xv), .second] [(.ref a)])) τ → Steps p.tables e below (s₁.setTop (entryFrame m #[(.ref a), (.int xs), (.double xv)] 4)) τ := fun τ kt => pre762 τ (by
    show Steps p.tables e below (T761.setTop (mkF m 35 #[.val (.ref a), .val (.int xs), .val (.double xv), .second] [])) τ
    refine XS.goto X761.here hx rfl (pc0 := 35) (pc' := 0) rfl (Jvm.hb hby d3_35) (by decide) (by decide) ?_
    show Steps p.tables e below (T761.setTop (mkF m 0 #[.val (.ref a), .val (.int xs), .val (.double xv), .second] [])) τ
    refine XS.aloadN X761.here hx rfl (Jvm.hb hby d3_0) rfl rfl ?_
    exact kt)
  obtain ⟨T764, X764, e764, st764⟩ := getF X761 hx hZ hown (host := "") (Or.inl (hw _ (List.mem_of_getElem? (i := 15) rfl))) Via.refl e761 fw761 (g := (mkF m 1 #[.val (.ref a), .val (.int xs), .val (.double xv), .second] [(.ref a)])) rfl rfl (Jvm.hb hby d3_1)
  have pre765 : ∀ τ, Steps p.tables e below (T764.setTop (mkF m 4 #[.val (.ref a), .val (.int xs), .val (.double xv), .second] [(.int (3 : Int32))])) τ → Steps p.tables e below (s₁.setTop (entryFrame m #[(.ref a), (.int xs), (.double xv)] 4)) τ := fun τ kt => pre763 τ (st764 τ kt)
  have pre766 : ∀ τ, Steps p.tables e below (T764.setTop (mkF m 5 #[.val (.ref a), .val (.int xs), .val (.double xv), .second] [(.ref a), (.int (3 : Int32))])) τ → Steps p.tables e below (s₁.setTop (entryFrame m #[(.ref a), (.int xs), (.double xv)] 4)) τ := fun τ kt => pre765 τ (by
    show Steps p.tables e below (T764.setTop (mkF m 4 #[.val (.ref a), .val (.int xs), .val (.double xv), .second] [(.int (3 : Int32))])) τ
    refine XS.aloadN X764.here hx rfl (Jvm.hb hby d3_4) rfl rfl ?_
    exact kt)
  have f768 := (FT.other W761 (Or.inr (slot_ne (Or.inl (hw _ (List.mem_of_getElem? (i := 18) rfl))) (Or.inl (hw _ (List.mem_of_getElem? (i := 16) rfl))) (by decide) (t := .int) (t' := .int) (by decide) (by decide))))
  obtain ⟨T767, X767, e767, st767⟩ := getF X764 hx hZ hown (host := "") (Or.inl (hw _ (List.mem_of_getElem? (i := 17) rfl))) Via.refl e764 f768 (g := (mkF m 5 #[.val (.ref a), .val (.int xs), .val (.double xv), .second] [(.ref a), (.int (3 : Int32))])) rfl rfl (Jvm.hb hby d3_5)
  have pre769 : ∀ τ, Steps p.tables e below (T767.setTop (mkF m 8 #[.val (.ref a), .val (.int xs), .val (.double xv), .second] [(.int (3 : Int32)), (.int (3 : Int32))])) τ → Steps p.tables e below (s₁.setTop (entryFrame m #[(.ref a), (.int xs), (.double xv)] 4)) τ := fun τ kt => pre766 τ (st767 τ kt)
  have pre770 : ∀ τ, Steps p.tables e below (T767.setTop (mkF m 40 #[.val (.ref a), .val (.int xs), .val (.double xv), .second] [(.ref a), (.ref a)])) τ → Steps p.tables e below (s₁.setTop (entryFrame m #[(.ref a), (.int xs), (.double xv)] 4)) τ := fun τ kt => pre769 τ (by
    show Steps p.tables e below (T767.setTop (mkF m 8 #[.val (.ref a), .val (.int xs), .val (.double xv), .second] [(.int (3 : Int32)), (.int (3 : Int32))])) τ
    refine XS.icmpYes X767.here hx rfl (pc0 := 8) (pc' := 38) rfl (Jvm.hb hby d3_8) rfl (flt (by decide)).2.1 (by decide) (by decide) ?_
    show Steps p.tables e below (T767.setTop (mkF m 38 #[.val (.ref a), .val (.int xs), .val (.double xv), .second] [])) τ
    refine XS.aloadN X767.here hx rfl (Jvm.hb hby d3_38) rfl rfl ?_
    show Steps p.tables e below (T767.setTop (mkF m 39 #[.val (.ref a), .val (.int xs), .val (.double xv), .second] [(.ref a)])) τ
    refine XS.dup X767.here hx rfl (Jvm.hb hby d3_39) rfl rfl ?_
    exact kt)
  obtain ⟨T771, X771, e771, st771⟩ := getF X767 hx hZ hown (host := "") (Or.inl (hw _ (List.mem_of_getElem? (i := 15) rfl))) Via.refl e767 fw761 (g := (mkF m 40 #[.val (.ref a), .val (.int xs), .val (.double xv), .second] [(.ref a), (.ref a)])) rfl rfl (Jvm.hb hby d3_40)
  have pre772 : ∀ τ, Steps p.tables e below (T771.setTop (mkF m 43 #[.val (.ref a), .val (.int xs), .val (.double xv), .second] [(.int (3 : Int32)), (.ref a)])) τ → Steps p.tables e below (s₁.setTop (entryFrame m #[(.ref a), (.int xs), (.double xv)] 4)) τ := fun τ kt => pre770 τ (st771 τ kt)
  have pre773 : ∀ τ, Steps p.tables e below (T771.setTop (mkF m 45 #[.val (.ref a), .val (.int xs), .val (.double xv), .second] [(.int (2 : Int32)), (.ref a)])) τ → Steps p.tables e below (s₁.setTop (entryFrame m #[(.ref a), (.int xs), (.double xv)] 4)) τ := fun τ kt => pre772 τ (by
    show Steps p.tables e below (T771.setTop (mkF m 43 #[.val (.ref a), .val (.int xs), .val (.double xv), .second] [(.int (3 : Int32)), (.ref a)])) τ
    refine XS.iconst X771.here hx rfl (Jvm.hb hby d3_43) ?_
    show Steps p.tables e below (T771.setTop (mkF m 44 #[.val (.ref a), .val (.int xs), .val (.double xv), .second] [(.int (1 : Int32)), (.int (3 : Int32)), (.ref a)])) τ
    refine XS.isub X771.here hx rfl (Jvm.hb hby d3_44) rfl ?_
    exact kt)
  have f775 := E7.wr W761
  obtain ⟨T774, h774, X774, e774, W774, st774⟩ := putF X771 hx hZ hown (host := "") (Or.inl (hw _ (List.mem_of_getElem? (i := 15) rfl))) Via.refl e771 fw761 f775 (Or.inl (hw _ (List.mem_of_getElem? (i := 16) rfl))) (hw _ (List.mem_of_getElem? (i := 1) rfl)) (ty := .int) (by decide) rfl rfl (g := (mkF m 45 #[.val (.ref a), .val (.int xs), .val (.double xv), .second] [(.int (2 : Int32)), (.ref a)])) rfl rfl (Jvm.hb hby d3_45)
  have fw774 := Fld.same W774 fw761
  have N774 := Fr.snoc X774 N761 ga
  have K774 : Keep h0 h774 [a, A, B] := K761.wr W774 (Or.inl (by simp))
  have pre776 : ∀ τ, Steps p.tables e below (T774.setTop (mkF m 48 #[.val (.ref a), .val (.int xs), .val (.double xv), .second] [])) τ → Steps p.tables e below (s₁.setTop (entryFrame m #[(.ref a), (.int xs), (.double xv)] 4)) τ := fun τ kt => pre773 τ (st774 τ kt)
  have pre777 : ∀ τ, Steps p.tables e below (T774.setTop (mkF m 49 #[.val (.ref a), .val (.int xs), .val (.double xv), .second] [(.ref a)])) τ → Steps p.tables e below (s₁.setTop (entryFrame m #[(.ref a), (.int xs), (.double xv)] 4)) τ := fun τ kt => pre776 τ (by
    show Steps p.tables e below (T774.setTop (mkF m 48 #[.val (.ref a), .val (.int xs), .val (.double xv), .second] [])) τ
    refine XS.aloadN X774.here hx rfl (Jvm.hb hby d3_48) rfl rfl ?_
    exact kt)
  have f779 := (FS.other W761 (Or.inr (slot_ne (Or.inr (hw _ (List.mem_of_getElem? (i := 11) rfl))) (Or.inl (hw _ (List.mem_of_getElem? (i := 16) rfl))) (by decide) (t := (.array .int)) (t' := .int) (by decide) (by decide))))
  have f780 := (f779.other W774 (Or.inr (slot_ne (Or.inr (hw _ (List.mem_of_getElem? (i := 11) rfl))) (Or.inl (hw _ (List.mem_of_getElem? (i := 16) rfl))) (by decide) (t := (.array .int)) (t' := .int) (by decide) (by decide))))
  obtain ⟨T778, X778, e778, st778⟩ := getF X774 hx hZ hown (host := "") (Or.inl (hw _ (List.mem_of_getElem? (i := 10) rfl))) Via.refl e774 f780 (g := (mkF m 49 #[.val (.ref a), .val (.int xs), .val (.double xv), .second] [(.ref a)])) rfl rfl (Jvm.hb hby d3_49)
  have pre781 : ∀ τ, Steps p.tables e below (T778.setTop (mkF m 52 #[.val (.ref a), .val (.int xs), .val (.double xv), .second] [(.ref A)])) τ → Steps p.tables e below (s₁.setTop (entryFrame m #[(.ref a), (.int xs), (.double xv)] 4)) τ := fun τ kt => pre777 τ (st778 τ kt)
  have pre782 : ∀ τ, Steps p.tables e below (T778.setTop (mkF m 53 #[.val (.ref a), .val (.int xs), .val (.double xv), .second] [(.ref a), (.ref A)])) τ → Steps p.tables e below (s₁.setTop (entryFrame m #[(.ref a), (.int xs), (.double xv)] 4)) τ := fun τ kt => pre781 τ (by
    show Steps p.tables e below (T778.setTop (mkF m 52 #[.val (.ref a), .val (.int xs), .val (.double xv), .second] [(.ref A)])) τ
    refine XS.aloadN X778.here hx rfl (Jvm.hb hby d3_52) rfl rfl ?_
    exact kt)
  obtain ⟨T783, X783, e783, st783⟩ := getF X778 hx hZ hown (host := "") (Or.inl (hw _ (List.mem_of_getElem? (i := 15) rfl))) Via.refl e778 fw774 (g := (mkF m 53 #[.val (.ref a), .val (.int xs), .val (.double xv), .second] [(.ref a), (.ref A)])) rfl rfl (Jvm.hb hby d3_53)
  have pre784 : ∀ τ, Steps p.tables e below (T783.setTop (mkF m 56 #[.val (.ref a), .val (.int xs), .val (.double xv), .second] [(.int (2 : Int32)), (.ref A)])) τ → Steps p.tables e below (s₁.setTop (entryFrame m #[(.ref a), (.int xs), (.double xv)] 4)) τ := fun τ kt => pre782 τ (st783 τ kt)
  have pre785 : ∀ τ, Steps p.tables e below (T783.setTop (mkF m 57 #[.val (.ref a), .val (.int xs), .val (.double xv), .second] [(.int xs), (.int (2 : Int32)), (.ref A)])) τ → Steps p.tables e below (s₁.setTop (entryFrame m #[(.ref a), (.int xs), (.double xv)] 4)) τ := fun τ kt => pre784 τ (by
    show Steps p.tables e below (T783.setTop (mkF m 56 #[.val (.ref a), .val (.int xs), .val (.double xv), .second] [(.int (2 : Int32)), (.ref A)])) τ
    refine XS.iloadN X783.here hx rfl (Jvm.hb hby d3_56) rfl ?_
    exact kt)
  have f786 := VS.other W761 (Ne.symm naA)
  have f787 := f786.other W774 (Ne.symm naA)
  obtain ⟨cl788, Ar788, q788, S788, M788, H788, U788⟩ := id f787
  obtain ⟨T789, h789, X789, e789, W789, st789⟩ := stI X783 hx hZ e783 Ar788 (j := (2 : Int32)) (inb_of S788 ⟨by decide, by decide⟩) (g := (mkF m 57 #[.val (.ref a), .val (.int xs), .val (.double xv), .second] [(.int xs), (.int (2 : Int32)), (.ref A)])) rfl rfl (Jvm.hb hby d3_57)
  have V789 : Arv Z h789 A kA .int (3 : Int32) [(.int s0), (.int s1), (.int xs)] (.int (0 : Int32)) := Arv.set Ar788 q788 S788 M788 H788 U788 rfl W789 2 rfl (Nat.le_of_ble_eq_true rfl)
  have N789 := Fr.snoc X789 N774 gA
  have K789 : Keep h0 h789 [a, A, B] := K774.wr W789 (Or.inl (by simp))
  have pre790 : ∀ τ, Steps p.tables e below (T789.setTop (mkF m 58 #[.val (.ref a), .val (.int xs), .val (.double xv), .second] [])) τ → Steps p.tables e below (s₁.setTop (entryFrame m #[(.ref a), (.int xs), (.double xv)] 4)) τ := fun τ kt => pre785 τ (st789 τ kt)
  have pre791 : ∀ τ, Steps p.tables e below (T789.setTop (mkF m 59 #[.val (.ref a), .val (.int xs), .val (.double xv), .second] [(.ref a)])) τ → Steps p.tables e below (s₁.setTop (entryFrame m #[(.ref a), (.int xs), (.double xv)] 4)) τ := fun τ kt => pre790 τ (by
    show Steps p.tables e below (T789.setTop (mkF m 58 #[.val (.ref a), .val (.int xs), .val (.double xv), .second] [])) τ
    refine XS.aloadN X789.here hx rfl (Jvm.hb hby d3_58) rfl rfl ?_
    exact kt)
  have f793 := (FV.other W761 (Or.inr (slot_ne (Or.inr (hw _ (List.mem_of_getElem? (i := 14) rfl))) (Or.inl (hw _ (List.mem_of_getElem? (i := 16) rfl))) (by decide) (t := (.array .double)) (t' := .int) (by decide) (by decide))))
  have f794 := (f793.other W774 (Or.inr (slot_ne (Or.inr (hw _ (List.mem_of_getElem? (i := 14) rfl))) (Or.inl (hw _ (List.mem_of_getElem? (i := 16) rfl))) (by decide) (t := (.array .double)) (t' := .int) (by decide) (by decide))))
  have f795 := (f794.other W789 (Or.inl naA))
  obtain ⟨T792, X792, e792, st792⟩ := getF X789 hx hZ hown (host := "") (Or.inl (hw _ (List.mem_of_getElem? (i := 13) rfl))) Via.refl e789 f795 (g := (mkF m 59 #[.val (.ref a), .val (.int xs), .val (.double xv), .second] [(.ref a)])) rfl rfl (Jvm.hb hby d3_59)
  have pre796 : ∀ τ, Steps p.tables e below (T792.setTop (mkF m 62 #[.val (.ref a), .val (.int xs), .val (.double xv), .second] [(.ref B)])) τ → Steps p.tables e below (s₁.setTop (entryFrame m #[(.ref a), (.int xs), (.double xv)] 4)) τ := fun τ kt => pre791 τ (st792 τ kt)
  have pre797 : ∀ τ, Steps p.tables e below (T792.setTop (mkF m 63 #[.val (.ref a), .val (.int xs), .val (.double xv), .second] [(.ref a), (.ref B)])) τ → Steps p.tables e below (s₁.setTop (entryFrame m #[(.ref a), (.int xs), (.double xv)] 4)) τ := fun τ kt => pre796 τ (by
    show Steps p.tables e below (T792.setTop (mkF m 62 #[.val (.ref a), .val (.int xs), .val (.double xv), .second] [(.ref B)])) τ
    refine XS.aloadN X792.here hx rfl (Jvm.hb hby d3_62) rfl rfl ?_
    exact kt)
  have f799 := (fw774.other W789 (Or.inl naA))
  obtain ⟨T798, X798, e798, st798⟩ := getF X792 hx hZ hown (host := "") (Or.inl (hw _ (List.mem_of_getElem? (i := 15) rfl))) Via.refl e792 f799 (g := (mkF m 63 #[.val (.ref a), .val (.int xs), .val (.double xv), .second] [(.ref a), (.ref B)])) rfl rfl (Jvm.hb hby d3_63)
  have pre800 : ∀ τ, Steps p.tables e below (T798.setTop (mkF m 66 #[.val (.ref a), .val (.int xs), .val (.double xv), .second] [(.int (2 : Int32)), (.ref B)])) τ → Steps p.tables e below (s₁.setTop (entryFrame m #[(.ref a), (.int xs), (.double xv)] 4)) τ := fun τ kt => pre797 τ (st798 τ kt)
  have pre801 : ∀ τ, Steps p.tables e below (T798.setTop (mkF m 67 #[.val (.ref a), .val (.int xs), .val (.double xv), .second] [(.double xv), (.int (2 : Int32)), (.ref B)])) τ → Steps p.tables e below (s₁.setTop (entryFrame m #[(.ref a), (.int xs), (.double xv)] 4)) τ := fun τ kt => pre800 τ (by
    show Steps p.tables e below (T798.setTop (mkF m 66 #[.val (.ref a), .val (.int xs), .val (.double xv), .second] [(.int (2 : Int32)), (.ref B)])) τ
    refine own_dloadN X798.here hx rfl (Jvm.hb hby d3_66) rfl ?_
    exact kt)
  have f802 := VV.other W761 (Ne.symm naB)
  have f803 := f802.other W774 (Ne.symm naB)
  have f804 := f803.other W789 (Ne.symm nAB)
  obtain ⟨cl805, Ar805, q805, S805, M805, H805, U805⟩ := id f804
  obtain ⟨T806, h806, X806, e806, W806, st806⟩ := own_stD X798 hx hZ e798 Ar805 (j := (2 : Int32)) (inb_of S805 ⟨by decide, by decide⟩) (g := (mkF m 67 #[.val (.ref a), .val (.int xs), .val (.double xv), .second] [(.double xv), (.int (2 : Int32)), (.ref B)])) rfl rfl (Jvm.hb hby d3_67)
  have V806 : Arv Z h806 B kB .double (3 : Int32) [(.double v0), (.double v1), (.double xv)] (.double (0 : UInt64)) := Arv.set Ar805 q805 S805 M805 H805 U805 rfl W806 2 rfl (Nat.le_of_ble_eq_true rfl)
  have N806 := Fr.snoc X806 N789 gB
  have K806 : Keep h0 h806 [a, A, B] := K789.wr W806 (Or.inl (by simp))
  have pre807 : ∀ τ, Steps p.tables e below (T806.setTop (mkF m 68 #[.val (.ref a), .val (.int xs), .val (.double xv), .second] [])) τ → Steps p.tables e below (s₁.setTop (entryFrame m #[(.ref a), (.int xs), (.double xv)] 4)) τ := fun τ kt => pre801 τ (st806 τ kt)
  have f808 := (f780.other W789 (Or.inl naA))
  have f809 := (f808.other W806 (Or.inl naB))
  have f810 := (f795.other W806 (Or.inl naB))
  have f811 := (f799.other W806 (Or.inl naB))
  have f812 := (f768.other W774 (Or.inr (slot_ne (Or.inl (hw _ (List.mem_of_getElem? (i := 18) rfl))) (Or.inl (hw _ (List.mem_of_getElem? (i := 16) rfl))) (by decide) (t := .int) (t' := .int) (by decide) (by decide))))
  have f813 := (f812.other W789 (Or.inl naA))
  have f814 := (f813.other W806 (Or.inl naB))
  have f815 := V789.other W806 nAB
  obtain ⟨fs, hrL, hrun, hended, hW, hsame⟩ := X806.leave (v := none) (fun _ => rfl)
  refine ⟨_, _, pre807 _ ?_, hrun, hended, _, _, rfl, ?_, ⟨_, rfl⟩, hW, hsame.mono (by decide) (by decide)⟩
  · show Steps p.tables e below (T806.setTop (mkF m 68 #[.val (.ref a), .val (.int xs), .val (.double xv), .second] [])) _
    exact X806.returnOut hx Bd.returns (Jvm.hb hby d3_68) hrL
  · show QC Z a A B kA kB (2 : Int32) (3 : Int32) [(.int s0), (.int s1), (.int xs)] [(.double v0), (.double v1), (.double xv)] h0 n0 _ T806.heap _
    rw [e806]
    exact ⟨rfl, N806, K806, f809, f810, f811, f814, f815, V806⟩
set_option maxRecDepth 65536 in
set_option maxHeartbeats 40000000 in
theorem rmRem_13_x (l : Launch) (Z : State) (a0 : Array Value) (hw : ∀ d ∈ tables_1, d.before a0 Z = true) (ws : List Jvm.Cond) (a : Addr) (xs : Int32) (A B : Addr) (kA kB : ClassId) (s0 s1 s2 : Int32) (v0 v1 v2 : UInt64) (h0 : Heap) (n0 : Nat) (Z0 : n0 ≤ h0.size) (E7 : Exa Z h0 a "com/example/counterpath/counterpath/core/CappedMaximum") (FS : Fld Z h0 a "com/example/counterpath/counterpath/core/CappedMaximum" "samples" "[I" (.ref A)) (FV : Fld Z h0 a "com/example/counterpath/counterpath/core/CappedMaximum" "values" "[D" (.ref B)) (FH : Fld Z h0 a "com/example/counterpath/counterpath/core/CappedMaximum" "head" "I" (.int (1 : Int32))) (FT : Fld Z h0 a "com/example/counterpath/counterpath/core/CappedMaximum" "tail" "I" (.int (3 : Int32))) (VS : Arv Z h0 A kA .int (3 : Int32) [(.int s0), (.int s1), (.int s2)] (.int (0 : Int32))) (VV : Arv Z h0 B kB .double (3 : Int32) [(.double v0), (.double v1), (.double v2)] (.double (0 : UInt64))) (naA : a ≠ A) (naB : a ≠ B) (nAB : A ≠ B) (ga : n0 ≤ a) (gA : n0 ≤ A) (gB : n0 ≤ B) (pc0 : ¬ (xs < s2)) :
    MetFree l (⟨"com/example/counterpath/counterpath/core/CappedMaximum", "removeAfter", "(I)V"⟩ : MethodName) (head1 (Jvm.Cond.code (⟨"com/example/counterpath/counterpath/core/CappedMaximum", "removeAfter", "(I)V"⟩ : MethodName) prog_3_method_4_code 2 none :: ws) ({ frames := 0, cells := 0, slots := 0, locals := 0 } : Room)) (fun α U => α = #[(.ref a), (.int xs)] ∧ Z.Warmed39 U.vm ∧ U.heap = h0) (fun _ _ _ _ _ => True) (fun _ U ω U' => ∃ ν Λ, ω = .returned ν ∧ QC Z a A B kA kB (1 : Int32) (3 : Int32) [(.int s0), (.int s1), (.int s2)] [(.double v0), (.double v1), (.double v2)] h0 n0 ν U'.heap Λ ∧ FrameEnd U ω U' Λ ({ frames := 0, cells := 0, slots := 0, locals := 0 } : Room).cells ({ frames := 0, cells := 0, slots := 0, locals := 0 } : Room).slots) := by
  refine MetFree.of_bodySF (plainFor_of_name own_pn_com_example_counterpath_counterpath_core_CappedMaximum) hisR ?_
  intro p e s m args below meth c s₁ Bd hml0 hP hK
  obtain ⟨rfl, hZ, hh⟩ := hP
  have hx := Bd.exec
  have hby := Bd.bytes
  have hml : c.maxLocals = 2 := hml0
  have hown : s.vm.findClass "com/example/counterpath/counterpath/core/CappedMaximum" = some m.cls := findClass_of_methodNamed Bd.named
  have hnm := (name_of_methodNamed Bd.named Bd.method).1
  have X0 : Stand p l e ({ frames := 0, cells := 0, slots := 0, locals := 0 } : Room) s m #[(.ref a), (.int xs)] below meth c s₁ [] 0 0 := Stand.of_body Bd
  have e0 : s₁.heap = h0 := by rw [← hh, Bd.state]; rfl
  have N0 := Fr.nil n0
  have KK0 : Keep h0 h0 [a, A, B] := Keep.refl h0 [a, A, B]
  have pre0 : ∀ τ, Steps p.tables e below (s₁.setTop (mkF m 0 #[.val (.ref a), .val (.int xs)] [])) τ → Steps p.tables e below (s₁.setTop (entryFrame m #[(.ref a), (.int xs)] 2)) τ := fun τ κ => castTop (own_ef6 m a xs) κ
  have pre832 : ∀ τ, Steps p.tables e below (s₁.setTop (mkF m 1 #[.val (.ref a), .val (.int xs)] [(.ref a)])) τ → Steps p.tables e below (s₁.setTop (entryFrame m #[(.ref a), (.int xs)] 2)) τ := fun τ kt => pre0 τ (by
    show Steps p.tables e below (s₁.setTop (mkF m 0 #[.val (.ref a), .val (.int xs)] [])) τ
    refine XS.aloadN X0.here hx rfl (Jvm.hb hby d6_0) rfl rfl ?_
    exact kt)
  obtain ⟨T833, X833, e833, st833⟩ := getF X0 hx hZ hown (host := "") (Or.inl (hw _ (List.mem_of_getElem? (i := 17) rfl))) Via.refl e0 FT (g := (mkF m 1 #[.val (.ref a), .val (.int xs)] [(.ref a)])) rfl rfl (Jvm.hb hby d6_1)
  have pre834 : ∀ τ, Steps p.tables e below (T833.setTop (mkF m 4 #[.val (.ref a), .val (.int xs)] [(.int (3 : Int32))])) τ → Steps p.tables e below (s₁.setTop (entryFrame m #[(.ref a), (.int xs)] 2)) τ := fun τ kt => pre832 τ (st833 τ kt)
  have pre835 : ∀ τ, Steps p.tables e below (T833.setTop (mkF m 5 #[.val (.ref a), .val (.int xs)] [(.ref a), (.int (3 : Int32))])) τ → Steps p.tables e below (s₁.setTop (entryFrame m #[(.ref a), (.int xs)] 2)) τ := fun τ kt => pre834 τ (by
    show Steps p.tables e below (T833.setTop (mkF m 4 #[.val (.ref a), .val (.int xs)] [(.int (3 : Int32))])) τ
    refine XS.aloadN X833.here hx rfl (Jvm.hb hby d6_4) rfl rfl ?_
    exact kt)
  obtain ⟨T836, X836, e836, st836⟩ := getF X833 hx hZ hown (host := "") (Or.inl (hw _ (List.mem_of_getElem? (i := 15) rfl))) Via.refl e833 FH (g := (mkF m 5 #[.val (.ref a), .val (.int xs)] [(.ref a), (.int (3 : Int32))])) rfl rfl (Jvm.hb hby d6_5)
  have pre837 : ∀ τ, Steps p.tables e below (T836.setTop (mkF m 8 #[.val (.ref a), .val (.int xs)] [(.int (1 : Int32)), (.int (3 : Int32))])) τ → Steps p.tables e below (s₁.setTop (entryFrame m #[(.ref a), (.int xs)] 2)) τ := fun τ kt => pre835 τ (st836 τ kt)
  have pre838 : ∀ τ, Steps p.tables e below (T836.setTop (mkF m 12 #[.val (.ref a), .val (.int xs)] [(.ref a)])) τ → Steps p.tables e below (s₁.setTop (entryFrame m #[(.ref a), (.int xs)] 2)) τ := fun τ kt => pre837 τ (by
    show Steps p.tables e below (T836.setTop (mkF m 8 #[.val (.ref a), .val (.int xs)] [(.int (1 : Int32)), (.int (3 : Int32))])) τ
    refine XS.icmpNo X836.here hx rfl (Jvm.hb hby d6_8) rfl (tlt (by decide)).2.2.2 ?_
    show Steps p.tables e below (T836.setTop (mkF m 11 #[.val (.ref a), .val (.int xs)] [])) τ
    refine XS.aloadN X836.here hx rfl (Jvm.hb hby d6_11) rfl rfl ?_
    exact kt)
  obtain ⟨T839, X839, e839, st839⟩ := getF X836 hx hZ hown (host := "") (Or.inl (hw _ (List.mem_of_getElem? (i := 10) rfl))) Via.refl e836 FS (g := (mkF m 12 #[.val (.ref a), .val (.int xs)] [(.ref a)])) rfl rfl (Jvm.hb hby d6_12)
  have pre840 : ∀ τ, Steps p.tables e below (T839.setTop (mkF m 15 #[.val (.ref a), .val (.int xs)] [(.ref A)])) τ → Steps p.tables e below (s₁.setTop (entryFrame m #[(.ref a), (.int xs)] 2)) τ := fun τ kt => pre838 τ (st839 τ kt)
  have pre841 : ∀ τ, Steps p.tables e below (T839.setTop (mkF m 16 #[.val (.ref a), .val (.int xs)] [(.ref a), (.ref A)])) τ → Steps p.tables e below (s₁.setTop (entryFrame m #[(.ref a), (.int xs)] 2)) τ := fun τ kt => pre840 τ (by
    show Steps p.tables e below (T839.setTop (mkF m 15 #[.val (.ref a), .val (.int xs)] [(.ref A)])) τ
    refine XS.aloadN X839.here hx rfl (Jvm.hb hby d6_15) rfl rfl ?_
    exact kt)
  obtain ⟨T842, X842, e842, st842⟩ := getF X839 hx hZ hown (host := "") (Or.inl (hw _ (List.mem_of_getElem? (i := 17) rfl))) Via.refl e839 FT (g := (mkF m 16 #[.val (.ref a), .val (.int xs)] [(.ref a), (.ref A)])) rfl rfl (Jvm.hb hby d6_16)
  have pre843 : ∀ τ, Steps p.tables e below (T842.setTop (mkF m 19 #[.val (.ref a), .val (.int xs)] [(.int (3 : Int32)), (.ref A)])) τ → Steps p.tables e below (s₁.setTop (entryFrame m #[(.ref a), (.int xs)] 2)) τ := fun τ kt => pre841 τ (st842 τ kt)
  have pre844 : ∀ τ, Steps p.tables e below (T842.setTop (mkF m 21 #[.val (.ref a), .val (.int xs)] [(.int (2 : Int32)), (.ref A)])) τ → Steps p.tables e below (s₁.setTop (entryFrame m #[(.ref a), (.int xs)] 2)) τ := fun τ kt => pre843 τ (by
    show Steps p.tables e below (T842.setTop (mkF m 19 #[.val (.ref a), .val (.int xs)] [(.int (3 : Int32)), (.ref A)])) τ
    refine XS.iconst X842.here hx rfl (Jvm.hb hby d6_19) ?_
    show Steps p.tables e below (T842.setTop (mkF m 20 #[.val (.ref a), .val (.int xs)] [(.int (1 : Int32)), (.int (3 : Int32)), (.ref A)])) τ
    refine XS.isub X842.here hx rfl (Jvm.hb hby d6_20) rfl ?_
    exact kt)
  obtain ⟨cl845, Ar845, q845, S845, M845, H845, U845⟩ := id VS
  have in845 : ¬ ((2 : Int32) < 0 ∨ cl845.slots.size ≤ ((2 : Int32)).toNatClampNeg) := inb_of S845 ⟨by decide, by decide⟩
  have pre846 : ∀ τ, Steps p.tables e below (T842.setTop (mkF m 39 #[.val (.ref a), .val (.int xs)] [])) τ → Steps p.tables e below (s₁.setTop (entryFrame m #[(.ref a), (.int xs)] 2)) τ := fun τ kt => pre844 τ (by
    show Steps p.tables e below (T842.setTop (mkF m 21 #[.val (.ref a), .val (.int xs)] [(.int (2 : Int32)), (.ref A)])) τ
    refine X842.iaload hx (by rw [e842]; exact Ar845.1) (State.isArrayOf_alike hZ.alike Ar845.2.1) Ar845.2.2 in845 (H845.at in845 rfl) (g := (mkF m 21 #[.val (.ref a), .val (.int xs)] [(.int (2 : Int32)), (.ref A)])) rfl rfl (Jvm.hb hby d6_21) _ ?_
    show Steps p.tables e below (T842.setTop (mkF m 22 #[.val (.ref a), .val (.int xs)] [(.int s2)])) τ
    refine XS.iloadN X842.here hx rfl (Jvm.hb hby d6_22) rfl ?_
    show Steps p.tables e below (T842.setTop (mkF m 23 #[.val (.ref a), .val (.int xs)] [(.int xs), (.int s2)])) τ
    refine XS.icmpYes X842.here hx rfl (pc0 := 23) (pc' := 39) rfl (Jvm.hb hby d6_23) rfl (flt pc0).2.2.2 (by decide) (by decide) ?_
    exact kt)
  obtain ⟨fs, hrL, hrun, hended, hW, hsame⟩ := X842.leave (v := none) (fun _ => rfl)
  refine ⟨_, _, pre846 _ ?_, hrun, hended, _, _, rfl, ?_, ⟨_, rfl⟩, hW, hsame.mono (by decide) (by decide)⟩
  · show Steps p.tables e below (T842.setTop (mkF m 39 #[.val (.ref a), .val (.int xs)] [])) _
    exact X842.returnOut hx Bd.returns (Jvm.hb hby d6_39) hrL
  · show QC Z a A B kA kB (1 : Int32) (3 : Int32) [(.int s0), (.int s1), (.int s2)] [(.double v0), (.double v1), (.double v2)] h0 n0 _ T842.heap _
    rw [e842]
    exact ⟨rfl, N0, KK0, FS, FV, FH, FT, VS, VV⟩
theorem own_pn_com_example_counterpath_counterpath_core_CappedMaximumAddFirstPinLaw : plainName "com/example/counterpath/counterpath/core/CappedMaximumAddFirstPinLaw" = true := by first | (simp [plainName, overriddenIn]; done) | decide +kernel
theorem own_ef0 (m : MethodId) (x0 : Int32) (x1 : Int32) (x2 : Int32) : entryFrame m #[(.int x0), (.int x1), (.int x2)] maxLocals = mkF m 0 #[.val (.int x0), .val (.int x1), .val (.int x2), .unset, .unset, .unset, .unset, .unset, .unset, .unset, .unset, .unset, .unset, .unset, .unset, .unset, .unset, .unset, .unset, .unset] [] := by first | (simp [entryFrame, mkF, argsToLocals, Value.category, maxLocals]; done) | rfl
def Q0 (n0 : Nat) (v : Option Value) (h : Heap) (L : List Loc) : Prop := v = some (.int 1) ∧ Fr n0 L
set_option maxRecDepth 65536 in
set_option maxHeartbeats 40000000 in
theorem rm0 (l : Launch) (Z : State) (a0 : Array Value) (hw : ∀ d ∈ tables_1, d.before a0 Z = true) (ws : List Jvm.Cond) (p1 : Int32) (p2 : Int32) (p3 : Int32)  (h0 : Heap) (n0 : Nat) (Z0 : n0 ≤ h0.size)  :
    MetFree l x (head1 (Jvm.Cond.code x code maxLocals ret :: ws) room_1) (fun α U => α = #[(.int p1), (.int p2), (.int p3)] ∧ Z.Warmed39 U.vm ∧ U.heap = h0) (fun _ _ _ _ _ => True) (fun _ U ω U' => ∃ ν Λ, ω = .returned ν ∧ Q0 n0 ν U'.heap Λ ∧ FrameEnd U ω U' Λ room_1.cells room_1.slots) := by
  refine MetFree.of_bodySF (plainFor_of_name own_pn_com_example_counterpath_counterpath_core_CappedMaximumAddFirstPinLaw) hisR ?_
  intro p e s m args below meth c s₁ Bd hml0 hP hK
  obtain ⟨rfl, hZ, hh⟩ := hP
  have hx := Bd.exec
  have hby := Bd.bytes
  have hml : c.maxLocals = 20 := hml0
  have hown : s.vm.findClass "com/example/counterpath/counterpath/core/CappedMaximumAddFirstPinLaw" = some m.cls := findClass_of_methodNamed Bd.named
  have hnm := (name_of_methodNamed Bd.named Bd.method).1
  have X0 : Stand p l e room_1 s m #[(.int p1), (.int p2), (.int p3)] below meth c s₁ [] 0 0 := Stand.of_body Bd
  have e0 : s₁.heap = h0 := by rw [← hh, Bd.state]; rfl
  have N0 := Fr.nil n0
  have KK0 : Keep h0 h0 [] := Keep.refl h0 []
  have pre0 : ∀ τ, Steps p.tables e below (s₁.setTop (mkF m 0 #[.val (.int p1), .val (.int p2), .val (.int p3), .unset, .unset, .unset, .unset, .unset, .unset, .unset, .unset, .unset, .unset, .unset, .unset, .unset, .unset, .unset, .unset, .unset] [])) τ → Steps p.tables e below (s₁.setTop (entryFrame m #[(.int p1), (.int p2), (.int p3)] maxLocals)) τ := fun τ κ => castTop (own_ef0 m p1 p2 p3) κ
  have r1 := p1.toInt_lt
  have r2 := p1.le_toInt
  have hsh := c_ishr p1 2 2 (by decide)
  have hb1 := c_and p2 255 (by decide)
  have hb2 := c_and (XT.ushr p2 (8 : Int32)) 255 (by decide)
  rw [show (255 : Int32).toInt = 255 by decide] at hb1 hb2
  rw [show ((2 ^ 2 : Nat) : Int) = 4 by decide] at hsh
  have pre56 : ∀ τ, Steps p.tables e below (s₁.setTop (mkF m 74 #[.val (.int p1), .val (.int p2), .val (.int p3), .val (.int (p1 >>> ((2 : Int32) &&& 31))), .val (.int (((p1 >>> ((2 : Int32) &&& 31)) + (1 : Int32)) + (p2 &&& (255 : Int32)))), .val (.int (((((p1 >>> ((2 : Int32) &&& 31)) + (1 : Int32)) + (p2 &&& (255 : Int32))) + (1 : Int32)) + ((XT.ushr p2 (8 : Int32)) &&& (255 : Int32)))), .val (.int ((p3 &&& (7 : Int32)) - (4 : Int32))), .val (.int (((XT.ushr p3 (3 : Int32)) &&& (7 : Int32)) - (4 : Int32))), .val (.int (((XT.ushr p3 (6 : Int32)) &&& (7 : Int32)) - (4 : Int32))), .val (.double (FP.i2d ((p3 &&& (7 : Int32)) - (4 : Int32)))), .second, .val (.double (FP.i2d (((XT.ushr p3 (3 : Int32)) &&& (7 : Int32)) - (4 : Int32)))), .second, .val (.double (FP.i2d (((XT.ushr p3 (6 : Int32)) &&& (7 : Int32)) - (4 : Int32)))), .second, .unset, .unset, .unset, .unset, .unset] [])) τ → Steps p.tables e below (s₁.setTop (entryFrame m #[(.int p1), (.int p2), (.int p3)] maxLocals)) τ := fun τ kt => pre0 τ (by
    show Steps p.tables e below (s₁.setTop (mkF m 0 #[.val (.int p1), .val (.int p2), .val (.int p3), .unset, .unset, .unset, .unset, .unset, .unset, .unset, .unset, .unset, .unset, .unset, .unset, .unset, .unset, .unset, .unset, .unset] [])) τ
    refine XS.iloadN X0.here hx rfl (Jvm.hb hby at_0) rfl ?_
    show Steps p.tables e below (s₁.setTop (mkF m 1 #[.val (.int p1), .val (.int p2), .val (.int p3), .unset, .unset, .unset, .unset, .unset, .unset, .unset, .unset, .unset, .unset, .unset, .unset, .unset, .unset, .unset, .unset, .unset] [(.int p1)])) τ
    refine XS.iconst X0.here hx rfl (Jvm.hb hby at_1) ?_
    show Steps p.tables e below (s₁.setTop (mkF m 2 #[.val (.int p1), .val (.int p2), .val (.int p3), .unset, .unset, .unset, .unset, .unset, .unset, .unset, .unset, .unset, .unset, .unset, .unset, .unset, .unset, .unset, .unset, .unset] [(.int (2 : Int32)), (.int p1)])) τ
    refine XT.ishr X0.here hx rfl (Jvm.hb hby at_2) rfl ?_
    show Steps p.tables e below (s₁.setTop (mkF m 3 #[.val (.int p1), .val (.int p2), .val (.int p3), .unset, .unset, .unset, .unset, .unset, .unset, .unset, .unset, .unset, .unset, .unset, .unset, .unset, .unset, .unset, .unset, .unset] [(.int (p1 >>> ((2 : Int32) &&& 31)))])) τ
    refine XS.istoreN X0.here hx rfl (Jvm.hb hby at_3) rfl (l' := #[.val (.int p1), .val (.int p2), .val (.int p3), .val (.int (p1 >>> ((2 : Int32) &&& 31))), .unset, .unset, .unset, .unset, .unset, .unset, .unset, .unset, .unset, .unset, .unset, .unset, .unset, .unset, .unset, .unset]) rfl ?_
    show Steps p.tables e below (s₁.setTop (mkF m 4 #[.val (.int p1), .val (.int p2), .val (.int p3), .val (.int (p1 >>> ((2 : Int32) &&& 31))), .unset, .unset, .unset, .unset, .unset, .unset, .unset, .unset, .unset, .unset, .unset, .unset, .unset, .unset, .unset, .unset] [])) τ
    refine XS.iloadN X0.here hx rfl (Jvm.hb hby at_4) rfl ?_
    show Steps p.tables e below (s₁.setTop (mkF m 5 #[.val (.int p1), .val (.int p2), .val (.int p3), .val (.int (p1 >>> ((2 : Int32) &&& 31))), .unset, .unset, .unset, .unset, .unset, .unset, .unset, .unset, .unset, .unset, .unset, .unset, .unset, .unset, .unset, .unset] [(.int (p1 >>> ((2 : Int32) &&& 31)))])) τ
    refine XS.iconst X0.here hx rfl (Jvm.hb hby at_5) ?_
    show Steps p.tables e below (s₁.setTop (mkF m 6 #[.val (.int p1), .val (.int p2), .val (.int p3), .val (.int (p1 >>> ((2 : Int32) &&& 31))), .unset, .unset, .unset, .unset, .unset, .unset, .unset, .unset, .unset, .unset, .unset, .unset, .unset, .unset, .unset, .unset] [(.int (1 : Int32)), (.int (p1 >>> ((2 : Int32) &&& 31)))])) τ
    refine XS.iadd X0.here hx rfl (Jvm.hb hby at_6) rfl ?_
    show Steps p.tables e below (s₁.setTop (mkF m 7 #[.val (.int p1), .val (.int p2), .val (.int p3), .val (.int (p1 >>> ((2 : Int32) &&& 31))), .unset, .unset, .unset, .unset, .unset, .unset, .unset, .unset, .unset, .unset, .unset, .unset, .unset, .unset, .unset, .unset] [(.int ((p1 >>> ((2 : Int32) &&& 31)) + (1 : Int32)))])) τ
    refine XS.iloadN X0.here hx rfl (Jvm.hb hby at_7) rfl ?_
    show Steps p.tables e below (s₁.setTop (mkF m 8 #[.val (.int p1), .val (.int p2), .val (.int p3), .val (.int (p1 >>> ((2 : Int32) &&& 31))), .unset, .unset, .unset, .unset, .unset, .unset, .unset, .unset, .unset, .unset, .unset, .unset, .unset, .unset, .unset, .unset] [(.int p2), (.int ((p1 >>> ((2 : Int32) &&& 31)) + (1 : Int32)))])) τ
    refine XS.sipush X0.here hx rfl (Jvm.hb hby at_8) ?_
    show Steps p.tables e below (s₁.setTop (mkF m 11 #[.val (.int p1), .val (.int p2), .val (.int p3), .val (.int (p1 >>> ((2 : Int32) &&& 31))), .unset, .unset, .unset, .unset, .unset, .unset, .unset, .unset, .unset, .unset, .unset, .unset, .unset, .unset, .unset, .unset] [(.int (255 : Int32)), (.int p2), (.int ((p1 >>> ((2 : Int32) &&& 31)) + (1 : Int32)))])) τ
    refine XS.iand X0.here hx rfl (Jvm.hb hby at_11) rfl ?_
    show Steps p.tables e below (s₁.setTop (mkF m 12 #[.val (.int p1), .val (.int p2), .val (.int p3), .val (.int (p1 >>> ((2 : Int32) &&& 31))), .unset, .unset, .unset, .unset, .unset, .unset, .unset, .unset, .unset, .unset, .unset, .unset, .unset, .unset, .unset, .unset] [(.int (p2 &&& (255 : Int32))), (.int ((p1 >>> ((2 : Int32) &&& 31)) + (1 : Int32)))])) τ
    refine XS.iadd X0.here hx rfl (Jvm.hb hby at_12) rfl ?_
    show Steps p.tables e below (s₁.setTop (mkF m 13 #[.val (.int p1), .val (.int p2), .val (.int p3), .val (.int (p1 >>> ((2 : Int32) &&& 31))), .unset, .unset, .unset, .unset, .unset, .unset, .unset, .unset, .unset, .unset, .unset, .unset, .unset, .unset, .unset, .unset] [(.int (((p1 >>> ((2 : Int32) &&& 31)) + (1 : Int32)) + (p2 &&& (255 : Int32))))])) τ
    refine XS.istore X0.here hx rfl (Jvm.hb hby at_13) rfl (l' := #[.val (.int p1), .val (.int p2), .val (.int p3), .val (.int (p1 >>> ((2 : Int32) &&& 31))), .val (.int (((p1 >>> ((2 : Int32) &&& 31)) + (1 : Int32)) + (p2 &&& (255 : Int32)))), .unset, .unset, .unset, .unset, .unset, .unset, .unset, .unset, .unset, .unset, .unset, .unset, .unset, .unset, .unset]) rfl ?_
    show Steps p.tables e below (s₁.setTop (mkF m 15 #[.val (.int p1), .val (.int p2), .val (.int p3), .val (.int (p1 >>> ((2 : Int32) &&& 31))), .val (.int (((p1 >>> ((2 : Int32) &&& 31)) + (1 : Int32)) + (p2 &&& (255 : Int32)))), .unset, .unset, .unset, .unset, .unset, .unset, .unset, .unset, .unset, .unset, .unset, .unset, .unset, .unset, .unset] [])) τ
    refine XS.iload X0.here hx rfl (Jvm.hb hby at_15) rfl ?_
    show Steps p.tables e below (s₁.setTop (mkF m 17 #[.val (.int p1), .val (.int p2), .val (.int p3), .val (.int (p1 >>> ((2 : Int32) &&& 31))), .val (.int (((p1 >>> ((2 : Int32) &&& 31)) + (1 : Int32)) + (p2 &&& (255 : Int32)))), .unset, .unset, .unset, .unset, .unset, .unset, .unset, .unset, .unset, .unset, .unset, .unset, .unset, .unset, .unset] [(.int (((p1 >>> ((2 : Int32) &&& 31)) + (1 : Int32)) + (p2 &&& (255 : Int32))))])) τ
    refine XS.iconst X0.here hx rfl (Jvm.hb hby at_17) ?_
    show Steps p.tables e below (s₁.setTop (mkF m 18 #[.val (.int p1), .val (.int p2), .val (.int p3), .val (.int (p1 >>> ((2 : Int32) &&& 31))), .val (.int (((p1 >>> ((2 : Int32) &&& 31)) + (1 : Int32)) + (p2 &&& (255 : Int32)))), .unset, .unset, .unset, .unset, .unset, .unset, .unset, .unset, .unset, .unset, .unset, .unset, .unset, .unset, .unset] [(.int (1 : Int32)), (.int (((p1 >>> ((2 : Int32) &&& 31)) + (1 : Int32)) + (p2 &&& (255 : Int32))))])) τ
    refine XS.iadd X0.here hx rfl (Jvm.hb hby at_18) rfl ?_
    show Steps p.tables e below (s₁.setTop (mkF m 19 #[.val (.int p1), .val (.int p2), .val (.int p3), .val (.int (p1 >>> ((2 : Int32) &&& 31))), .val (.int (((p1 >>> ((2 : Int32) &&& 31)) + (1 : Int32)) + (p2 &&& (255 : Int32)))), .unset, .unset, .unset, .unset, .unset, .unset, .unset, .unset, .unset, .unset, .unset, .unset, .unset, .unset, .unset] [(.int ((((p1 >>> ((2 : Int32) &&& 31)) + (1 : Int32)) + (p2 &&& (255 : Int32))) + (1 : Int32)))])) τ
    refine XS.iloadN X0.here hx rfl (Jvm.hb hby at_19) rfl ?_
    show Steps p.tables e below (s₁.setTop (mkF m 20 #[.val (.int p1), .val (.int p2), .val (.int p3), .val (.int (p1 >>> ((2 : Int32) &&& 31))), .val (.int (((p1 >>> ((2 : Int32) &&& 31)) + (1 : Int32)) + (p2 &&& (255 : Int32)))), .unset, .unset, .unset, .unset, .unset, .unset, .unset, .unset, .unset, .unset, .unset, .unset, .unset, .unset, .unset] [(.int p2), (.int ((((p1 >>> ((2 : Int32) &&& 31)) + (1 : Int32)) + (p2 &&& (255 : Int32))) + (1 : Int32)))])) τ
    refine XS.bipush X0.here hx rfl (Jvm.hb hby at_20) ?_
    show Steps p.tables e below (s₁.setTop (mkF m 22 #[.val (.int p1), .val (.int p2), .val (.int p3), .val (.int (p1 >>> ((2 : Int32) &&& 31))), .val (.int (((p1 >>> ((2 : Int32) &&& 31)) + (1 : Int32)) + (p2 &&& (255 : Int32)))), .unset, .unset, .unset, .unset, .unset, .unset, .unset, .unset, .unset, .unset, .unset, .unset, .unset, .unset, .unset] [(.int (8 : Int32)), (.int p2), (.int ((((p1 >>> ((2 : Int32) &&& 31)) + (1 : Int32)) + (p2 &&& (255 : Int32))) + (1 : Int32)))])) τ
    refine XT.iushr X0.here hx rfl (Jvm.hb hby at_22) rfl ?_
    show Steps p.tables e below (s₁.setTop (mkF m 23 #[.val (.int p1), .val (.int p2), .val (.int p3), .val (.int (p1 >>> ((2 : Int32) &&& 31))), .val (.int (((p1 >>> ((2 : Int32) &&& 31)) + (1 : Int32)) + (p2 &&& (255 : Int32)))), .unset, .unset, .unset, .unset, .unset, .unset, .unset, .unset, .unset, .unset, .unset, .unset, .unset, .unset, .unset] [(.int (XT.ushr p2 (8 : Int32))), (.int ((((p1 >>> ((2 : Int32) &&& 31)) + (1 : Int32)) + (p2 &&& (255 : Int32))) + (1 : Int32)))])) τ
    refine XS.sipush X0.here hx rfl (Jvm.hb hby at_23) ?_
    show Steps p.tables e below (s₁.setTop (mkF m 26 #[.val (.int p1), .val (.int p2), .val (.int p3), .val (.int (p1 >>> ((2 : Int32) &&& 31))), .val (.int (((p1 >>> ((2 : Int32) &&& 31)) + (1 : Int32)) + (p2 &&& (255 : Int32)))), .unset, .unset, .unset, .unset, .unset, .unset, .unset, .unset, .unset, .unset, .unset, .unset, .unset, .unset, .unset] [(.int (255 : Int32)), (.int (XT.ushr p2 (8 : Int32))), (.int ((((p1 >>> ((2 : Int32) &&& 31)) + (1 : Int32)) + (p2 &&& (255 : Int32))) + (1 : Int32)))])) τ
    refine XS.iand X0.here hx rfl (Jvm.hb hby at_26) rfl ?_
    show Steps p.tables e below (s₁.setTop (mkF m 27 #[.val (.int p1), .val (.int p2), .val (.int p3), .val (.int (p1 >>> ((2 : Int32) &&& 31))), .val (.int (((p1 >>> ((2 : Int32) &&& 31)) + (1 : Int32)) + (p2 &&& (255 : Int32)))), .unset, .unset, .unset, .unset, .unset, .unset, .unset, .unset, .unset, .unset, .unset, .unset, .unset, .unset, .unset] [(.int ((XT.ushr p2 (8 : Int32)) &&& (255 : Int32))), (.int ((((p1 >>> ((2 : Int32) &&& 31)) + (1 : Int32)) + (p2 &&& (255 : Int32))) + (1 : Int32)))])) τ
    refine XS.iadd X0.here hx rfl (Jvm.hb hby at_27) rfl ?_
    show Steps p.tables e below (s₁.setTop (mkF m 28 #[.val (.int p1), .val (.int p2), .val (.int p3), .val (.int (p1 >>> ((2 : Int32) &&& 31))), .val (.int (((p1 >>> ((2 : Int32) &&& 31)) + (1 : Int32)) + (p2 &&& (255 : Int32)))), .unset, .unset, .unset, .unset, .unset, .unset, .unset, .unset, .unset, .unset, .unset, .unset, .unset, .unset, .unset] [(.int (((((p1 >>> ((2 : Int32) &&& 31)) + (1 : Int32)) + (p2 &&& (255 : Int32))) + (1 : Int32)) + ((XT.ushr p2 (8 : Int32)) &&& (255 : Int32))))])) τ
    refine XS.istore X0.here hx rfl (Jvm.hb hby at_28) rfl (l' := #[.val (.int p1), .val (.int p2), .val (.int p3), .val (.int (p1 >>> ((2 : Int32) &&& 31))), .val (.int (((p1 >>> ((2 : Int32) &&& 31)) + (1 : Int32)) + (p2 &&& (255 : Int32)))), .val (.int (((((p1 >>> ((2 : Int32) &&& 31)) + (1 : Int32)) + (p2 &&& (255 : Int32))) + (1 : Int32)) + ((XT.ushr p2 (8 : Int32)) &&& (255 : Int32)))), .unset, .unset, .unset, .unset, .unset, .unset, .unset, .unset, .unset, .unset, .unset, .unset, .unset, .unset]) rfl ?_
    show Steps p.tables e below (s₁.setTop (mkF m 30 #[.val (.int p1), .val (.int p2), .val (.int p3), .val (.int (p1 >>> ((2 : Int32) &&& 31))), .val (.int (((p1 >>> ((2 : Int32) &&& 31)) + (1 : Int32)) + (p2 &&& (255 : Int32)))), .val (.int (((((p1 >>> ((2 : Int32) &&& 31)) + (1 : Int32)) + (p2 &&& (255 : Int32))) + (1 : Int32)) + ((XT.ushr p2 (8 : Int32)) &&& (255 : Int32)))), .unset, .unset, .unset, .unset, .unset, .unset, .unset, .unset, .unset, .unset, .unset, .unset, .unset, .unset] [])) τ
    refine XS.iloadN X0.here hx rfl (Jvm.hb hby at_30) rfl ?_
    show Steps p.tables e below (s₁.setTop (mkF m 31 #[.val (.int p1), .val (.int p2), .val (.int p3), .val (.int (p1 >>> ((2 : Int32) &&& 31))), .val (.int (((p1 >>> ((2 : Int32) &&& 31)) + (1 : Int32)) + (p2 &&& (255 : Int32)))), .val (.int (((((p1 >>> ((2 : Int32) &&& 31)) + (1 : Int32)) + (p2 &&& (255 : Int32))) + (1 : Int32)) + ((XT.ushr p2 (8 : Int32)) &&& (255 : Int32)))), .unset, .unset, .unset, .unset, .unset, .unset, .unset, .unset, .unset, .unset, .unset, .unset, .unset, .unset] [(.int p3)])) τ
    refine XS.bipush X0.here hx rfl (Jvm.hb hby at_31) ?_
    show Steps p.tables e below (s₁.setTop (mkF m 33 #[.val (.int p1), .val (.int p2), .val (.int p3), .val (.int (p1 >>> ((2 : Int32) &&& 31))), .val (.int (((p1 >>> ((2 : Int32) &&& 31)) + (1 : Int32)) + (p2 &&& (255 : Int32)))), .val (.int (((((p1 >>> ((2 : Int32) &&& 31)) + (1 : Int32)) + (p2 &&& (255 : Int32))) + (1 : Int32)) + ((XT.ushr p2 (8 : Int32)) &&& (255 : Int32)))), .unset, .unset, .unset, .unset, .unset, .unset, .unset, .unset, .unset, .unset, .unset, .unset, .unset, .unset] [(.int (7 : Int32)), (.int p3)])) τ
    refine XS.iand X0.here hx rfl (Jvm.hb hby at_33) rfl ?_
    show Steps p.tables e below (s₁.setTop (mkF m 34 #[.val (.int p1), .val (.int p2), .val (.int p3), .val (.int (p1 >>> ((2 : Int32) &&& 31))), .val (.int (((p1 >>> ((2 : Int32) &&& 31)) + (1 : Int32)) + (p2 &&& (255 : Int32)))), .val (.int (((((p1 >>> ((2 : Int32) &&& 31)) + (1 : Int32)) + (p2 &&& (255 : Int32))) + (1 : Int32)) + ((XT.ushr p2 (8 : Int32)) &&& (255 : Int32)))), .unset, .unset, .unset, .unset, .unset, .unset, .unset, .unset, .unset, .unset, .unset, .unset, .unset, .unset] [(.int (p3 &&& (7 : Int32)))])) τ
    refine XS.iconst X0.here hx rfl (Jvm.hb hby at_34) ?_
    show Steps p.tables e below (s₁.setTop (mkF m 35 #[.val (.int p1), .val (.int p2), .val (.int p3), .val (.int (p1 >>> ((2 : Int32) &&& 31))), .val (.int (((p1 >>> ((2 : Int32) &&& 31)) + (1 : Int32)) + (p2 &&& (255 : Int32)))), .val (.int (((((p1 >>> ((2 : Int32) &&& 31)) + (1 : Int32)) + (p2 &&& (255 : Int32))) + (1 : Int32)) + ((XT.ushr p2 (8 : Int32)) &&& (255 : Int32)))), .unset, .unset, .unset, .unset, .unset, .unset, .unset, .unset, .unset, .unset, .unset, .unset, .unset, .unset] [(.int (4 : Int32)), (.int (p3 &&& (7 : Int32)))])) τ
    refine XS.isub X0.here hx rfl (Jvm.hb hby at_35) rfl ?_
    show Steps p.tables e below (s₁.setTop (mkF m 36 #[.val (.int p1), .val (.int p2), .val (.int p3), .val (.int (p1 >>> ((2 : Int32) &&& 31))), .val (.int (((p1 >>> ((2 : Int32) &&& 31)) + (1 : Int32)) + (p2 &&& (255 : Int32)))), .val (.int (((((p1 >>> ((2 : Int32) &&& 31)) + (1 : Int32)) + (p2 &&& (255 : Int32))) + (1 : Int32)) + ((XT.ushr p2 (8 : Int32)) &&& (255 : Int32)))), .unset, .unset, .unset, .unset, .unset, .unset, .unset, .unset, .unset, .unset, .unset, .unset, .unset, .unset] [(.int ((p3 &&& (7 : Int32)) - (4 : Int32)))])) τ
    refine XS.istore X0.here hx rfl (Jvm.hb hby at_36) rfl (l' := #[.val (.int p1), .val (.int p2), .val (.int p3), .val (.int (p1 >>> ((2 : Int32) &&& 31))), .val (.int (((p1 >>> ((2 : Int32) &&& 31)) + (1 : Int32)) + (p2 &&& (255 : Int32)))), .val (.int (((((p1 >>> ((2 : Int32) &&& 31)) + (1 : Int32)) + (p2 &&& (255 : Int32))) + (1 : Int32)) + ((XT.ushr p2 (8 : Int32)) &&& (255 : Int32)))), .val (.int ((p3 &&& (7 : Int32)) - (4 : Int32))), .unset, .unset, .unset, .unset, .unset, .unset, .unset, .unset, .unset, .unset, .unset, .unset, .unset]) rfl ?_
    show Steps p.tables e below (s₁.setTop (mkF m 38 #[.val (.int p1), .val (.int p2), .val (.int p3), .val (.int (p1 >>> ((2 : Int32) &&& 31))), .val (.int (((p1 >>> ((2 : Int32) &&& 31)) + (1 : Int32)) + (p2 &&& (255 : Int32)))), .val (.int (((((p1 >>> ((2 : Int32) &&& 31)) + (1 : Int32)) + (p2 &&& (255 : Int32))) + (1 : Int32)) + ((XT.ushr p2 (8 : Int32)) &&& (255 : Int32)))), .val (.int ((p3 &&& (7 : Int32)) - (4 : Int32))), .unset, .unset, .unset, .unset, .unset, .unset, .unset, .unset, .unset, .unset, .unset, .unset, .unset] [])) τ
    refine XS.iloadN X0.here hx rfl (Jvm.hb hby at_38) rfl ?_
    show Steps p.tables e below (s₁.setTop (mkF m 39 #[.val (.int p1), .val (.int p2), .val (.int p3), .val (.int (p1 >>> ((2 : Int32) &&& 31))), .val (.int (((p1 >>> ((2 : Int32) &&& 31)) + (1 : Int32)) + (p2 &&& (255 : Int32)))), .val (.int (((((p1 >>> ((2 : Int32) &&& 31)) + (1 : Int32)) + (p2 &&& (255 : Int32))) + (1 : Int32)) + ((XT.ushr p2 (8 : Int32)) &&& (255 : Int32)))), .val (.int ((p3 &&& (7 : Int32)) - (4 : Int32))), .unset, .unset, .unset, .unset, .unset, .unset, .unset, .unset, .unset, .unset, .unset, .unset, .unset] [(.int p3)])) τ
    refine XS.iconst X0.here hx rfl (Jvm.hb hby at_39) ?_
    show Steps p.tables e below (s₁.setTop (mkF m 40 #[.val (.int p1), .val (.int p2), .val (.int p3), .val (.int (p1 >>> ((2 : Int32) &&& 31))), .val (.int (((p1 >>> ((2 : Int32) &&& 31)) + (1 : Int32)) + (p2 &&& (255 : Int32)))), .val (.int (((((p1 >>> ((2 : Int32) &&& 31)) + (1 : Int32)) + (p2 &&& (255 : Int32))) + (1 : Int32)) + ((XT.ushr p2 (8 : Int32)) &&& (255 : Int32)))), .val (.int ((p3 &&& (7 : Int32)) - (4 : Int32))), .unset, .unset, .unset, .unset, .unset, .unset, .unset, .unset, .unset, .unset, .unset, .unset, .unset] [(.int (3 : Int32)), (.int p3)])) τ
    refine XT.iushr X0.here hx rfl (Jvm.hb hby at_40) rfl ?_
    show Steps p.tables e below (s₁.setTop (mkF m 41 #[.val (.int p1), .val (.int p2), .val (.int p3), .val (.int (p1 >>> ((2 : Int32) &&& 31))), .val (.int (((p1 >>> ((2 : Int32) &&& 31)) + (1 : Int32)) + (p2 &&& (255 : Int32)))), .val (.int (((((p1 >>> ((2 : Int32) &&& 31)) + (1 : Int32)) + (p2 &&& (255 : Int32))) + (1 : Int32)) + ((XT.ushr p2 (8 : Int32)) &&& (255 : Int32)))), .val (.int ((p3 &&& (7 : Int32)) - (4 : Int32))), .unset, .unset, .unset, .unset, .unset, .unset, .unset, .unset, .unset, .unset, .unset, .unset, .unset] [(.int (XT.ushr p3 (3 : Int32)))])) τ
    refine XS.bipush X0.here hx rfl (Jvm.hb hby at_41) ?_
    show Steps p.tables e below (s₁.setTop (mkF m 43 #[.val (.int p1), .val (.int p2), .val (.int p3), .val (.int (p1 >>> ((2 : Int32) &&& 31))), .val (.int (((p1 >>> ((2 : Int32) &&& 31)) + (1 : Int32)) + (p2 &&& (255 : Int32)))), .val (.int (((((p1 >>> ((2 : Int32) &&& 31)) + (1 : Int32)) + (p2 &&& (255 : Int32))) + (1 : Int32)) + ((XT.ushr p2 (8 : Int32)) &&& (255 : Int32)))), .val (.int ((p3 &&& (7 : Int32)) - (4 : Int32))), .unset, .unset, .unset, .unset, .unset, .unset, .unset, .unset, .unset, .unset, .unset, .unset, .unset] [(.int (7 : Int32)), (.int (XT.ushr p3 (3 : Int32)))])) τ
    refine XS.iand X0.here hx rfl (Jvm.hb hby at_43) rfl ?_
    show Steps p.tables e below (s₁.setTop (mkF m 44 #[.val (.int p1), .val (.int p2), .val (.int p3), .val (.int (p1 >>> ((2 : Int32) &&& 31))), .val (.int (((p1 >>> ((2 : Int32) &&& 31)) + (1 : Int32)) + (p2 &&& (255 : Int32)))), .val (.int (((((p1 >>> ((2 : Int32) &&& 31)) + (1 : Int32)) + (p2 &&& (255 : Int32))) + (1 : Int32)) + ((XT.ushr p2 (8 : Int32)) &&& (255 : Int32)))), .val (.int ((p3 &&& (7 : Int32)) - (4 : Int32))), .unset, .unset, .unset, .unset, .unset, .unset, .unset, .unset, .unset, .unset, .unset, .unset, .unset] [(.int ((XT.ushr p3 (3 : Int32)) &&& (7 : Int32)))])) τ
    refine XS.iconst X0.here hx rfl (Jvm.hb hby at_44) ?_
    show Steps p.tables e below (s₁.setTop (mkF m 45 #[.val (.int p1), .val (.int p2), .val (.int p3), .val (.int (p1 >>> ((2 : Int32) &&& 31))), .val (.int (((p1 >>> ((2 : Int32) &&& 31)) + (1 : Int32)) + (p2 &&& (255 : Int32)))), .val (.int (((((p1 >>> ((2 : Int32) &&& 31)) + (1 : Int32)) + (p2 &&& (255 : Int32))) + (1 : Int32)) + ((XT.ushr p2 (8 : Int32)) &&& (255 : Int32)))), .val (.int ((p3 &&& (7 : Int32)) - (4 : Int32))), .unset, .unset, .unset, .unset, .unset, .unset, .unset, .unset, .unset, .unset, .unset, .unset, .unset] [(.int (4 : Int32)), (.int ((XT.ushr p3 (3 : Int32)) &&& (7 : Int32)))])) τ
    refine XS.isub X0.here hx rfl (Jvm.hb hby at_45) rfl ?_
    show Steps p.tables e below (s₁.setTop (mkF m 46 #[.val (.int p1), .val (.int p2), .val (.int p3), .val (.int (p1 >>> ((2 : Int32) &&& 31))), .val (.int (((p1 >>> ((2 : Int32) &&& 31)) + (1 : Int32)) + (p2 &&& (255 : Int32)))), .val (.int (((((p1 >>> ((2 : Int32) &&& 31)) + (1 : Int32)) + (p2 &&& (255 : Int32))) + (1 : Int32)) + ((XT.ushr p2 (8 : Int32)) &&& (255 : Int32)))), .val (.int ((p3 &&& (7 : Int32)) - (4 : Int32))), .unset, .unset, .unset, .unset, .unset, .unset, .unset, .unset, .unset, .unset, .unset, .unset, .unset] [(.int (((XT.ushr p3 (3 : Int32)) &&& (7 : Int32)) - (4 : Int32)))])) τ
    refine XS.istore X0.here hx rfl (Jvm.hb hby at_46) rfl (l' := #[.val (.int p1), .val (.int p2), .val (.int p3), .val (.int (p1 >>> ((2 : Int32) &&& 31))), .val (.int (((p1 >>> ((2 : Int32) &&& 31)) + (1 : Int32)) + (p2 &&& (255 : Int32)))), .val (.int (((((p1 >>> ((2 : Int32) &&& 31)) + (1 : Int32)) + (p2 &&& (255 : Int32))) + (1 : Int32)) + ((XT.ushr p2 (8 : Int32)) &&& (255 : Int32)))), .val (.int ((p3 &&& (7 : Int32)) - (4 : Int32))), .val (.int (((XT.ushr p3 (3 : Int32)) &&& (7 : Int32)) - (4 : Int32))), .unset, .unset, .unset, .unset, .unset, .unset, .unset, .unset, .unset, .unset, .unset, .unset]) rfl ?_
    show Steps p.tables e below (s₁.setTop (mkF m 48 #[.val (.int p1), .val (.int p2), .val (.int p3), .val (.int (p1 >>> ((2 : Int32) &&& 31))), .val (.int (((p1 >>> ((2 : Int32) &&& 31)) + (1 : Int32)) + (p2 &&& (255 : Int32)))), .val (.int (((((p1 >>> ((2 : Int32) &&& 31)) + (1 : Int32)) + (p2 &&& (255 : Int32))) + (1 : Int32)) + ((XT.ushr p2 (8 : Int32)) &&& (255 : Int32)))), .val (.int ((p3 &&& (7 : Int32)) - (4 : Int32))), .val (.int (((XT.ushr p3 (3 : Int32)) &&& (7 : Int32)) - (4 : Int32))), .unset, .unset, .unset, .unset, .unset, .unset, .unset, .unset, .unset, .unset, .unset, .unset] [])) τ
    refine XS.iloadN X0.here hx rfl (Jvm.hb hby at_48) rfl ?_
    show Steps p.tables e below (s₁.setTop (mkF m 49 #[.val (.int p1), .val (.int p2), .val (.int p3), .val (.int (p1 >>> ((2 : Int32) &&& 31))), .val (.int (((p1 >>> ((2 : Int32) &&& 31)) + (1 : Int32)) + (p2 &&& (255 : Int32)))), .val (.int (((((p1 >>> ((2 : Int32) &&& 31)) + (1 : Int32)) + (p2 &&& (255 : Int32))) + (1 : Int32)) + ((XT.ushr p2 (8 : Int32)) &&& (255 : Int32)))), .val (.int ((p3 &&& (7 : Int32)) - (4 : Int32))), .val (.int (((XT.ushr p3 (3 : Int32)) &&& (7 : Int32)) - (4 : Int32))), .unset, .unset, .unset, .unset, .unset, .unset, .unset, .unset, .unset, .unset, .unset, .unset] [(.int p3)])) τ
    refine XS.bipush X0.here hx rfl (Jvm.hb hby at_49) ?_
    show Steps p.tables e below (s₁.setTop (mkF m 51 #[.val (.int p1), .val (.int p2), .val (.int p3), .val (.int (p1 >>> ((2 : Int32) &&& 31))), .val (.int (((p1 >>> ((2 : Int32) &&& 31)) + (1 : Int32)) + (p2 &&& (255 : Int32)))), .val (.int (((((p1 >>> ((2 : Int32) &&& 31)) + (1 : Int32)) + (p2 &&& (255 : Int32))) + (1 : Int32)) + ((XT.ushr p2 (8 : Int32)) &&& (255 : Int32)))), .val (.int ((p3 &&& (7 : Int32)) - (4 : Int32))), .val (.int (((XT.ushr p3 (3 : Int32)) &&& (7 : Int32)) - (4 : Int32))), .unset, .unset, .unset, .unset, .unset, .unset, .unset, .unset, .unset, .unset, .unset, .unset] [(.int (6 : Int32)), (.int p3)])) τ
    refine XT.iushr X0.here hx rfl (Jvm.hb hby at_51) rfl ?_
    show Steps p.tables e below (s₁.setTop (mkF m 52 #[.val (.int p1), .val (.int p2), .val (.int p3), .val (.int (p1 >>> ((2 : Int32) &&& 31))), .val (.int (((p1 >>> ((2 : Int32) &&& 31)) + (1 : Int32)) + (p2 &&& (255 : Int32)))), .val (.int (((((p1 >>> ((2 : Int32) &&& 31)) + (1 : Int32)) + (p2 &&& (255 : Int32))) + (1 : Int32)) + ((XT.ushr p2 (8 : Int32)) &&& (255 : Int32)))), .val (.int ((p3 &&& (7 : Int32)) - (4 : Int32))), .val (.int (((XT.ushr p3 (3 : Int32)) &&& (7 : Int32)) - (4 : Int32))), .unset, .unset, .unset, .unset, .unset, .unset, .unset, .unset, .unset, .unset, .unset, .unset] [(.int (XT.ushr p3 (6 : Int32)))])) τ
    refine XS.bipush X0.here hx rfl (Jvm.hb hby at_52) ?_
    show Steps p.tables e below (s₁.setTop (mkF m 54 #[.val (.int p1), .val (.int p2), .val (.int p3), .val (.int (p1 >>> ((2 : Int32) &&& 31))), .val (.int (((p1 >>> ((2 : Int32) &&& 31)) + (1 : Int32)) + (p2 &&& (255 : Int32)))), .val (.int (((((p1 >>> ((2 : Int32) &&& 31)) + (1 : Int32)) + (p2 &&& (255 : Int32))) + (1 : Int32)) + ((XT.ushr p2 (8 : Int32)) &&& (255 : Int32)))), .val (.int ((p3 &&& (7 : Int32)) - (4 : Int32))), .val (.int (((XT.ushr p3 (3 : Int32)) &&& (7 : Int32)) - (4 : Int32))), .unset, .unset, .unset, .unset, .unset, .unset, .unset, .unset, .unset, .unset, .unset, .unset] [(.int (7 : Int32)), (.int (XT.ushr p3 (6 : Int32)))])) τ
    refine XS.iand X0.here hx rfl (Jvm.hb hby at_54) rfl ?_
    show Steps p.tables e below (s₁.setTop (mkF m 55 #[.val (.int p1), .val (.int p2), .val (.int p3), .val (.int (p1 >>> ((2 : Int32) &&& 31))), .val (.int (((p1 >>> ((2 : Int32) &&& 31)) + (1 : Int32)) + (p2 &&& (255 : Int32)))), .val (.int (((((p1 >>> ((2 : Int32) &&& 31)) + (1 : Int32)) + (p2 &&& (255 : Int32))) + (1 : Int32)) + ((XT.ushr p2 (8 : Int32)) &&& (255 : Int32)))), .val (.int ((p3 &&& (7 : Int32)) - (4 : Int32))), .val (.int (((XT.ushr p3 (3 : Int32)) &&& (7 : Int32)) - (4 : Int32))), .unset, .unset, .unset, .unset, .unset, .unset, .unset, .unset, .unset, .unset, .unset, .unset] [(.int ((XT.ushr p3 (6 : Int32)) &&& (7 : Int32)))])) τ
    refine XS.iconst X0.here hx rfl (Jvm.hb hby at_55) ?_
    show Steps p.tables e below (s₁.setTop (mkF m 56 #[.val (.int p1), .val (.int p2), .val (.int p3), .val (.int (p1 >>> ((2 : Int32) &&& 31))), .val (.int (((p1 >>> ((2 : Int32) &&& 31)) + (1 : Int32)) + (p2 &&& (255 : Int32)))), .val (.int (((((p1 >>> ((2 : Int32) &&& 31)) + (1 : Int32)) + (p2 &&& (255 : Int32))) + (1 : Int32)) + ((XT.ushr p2 (8 : Int32)) &&& (255 : Int32)))), .val (.int ((p3 &&& (7 : Int32)) - (4 : Int32))), .val (.int (((XT.ushr p3 (3 : Int32)) &&& (7 : Int32)) - (4 : Int32))), .unset, .unset, .unset, .unset, .unset, .unset, .unset, .unset, .unset, .unset, .unset, .unset] [(.int (4 : Int32)), (.int ((XT.ushr p3 (6 : Int32)) &&& (7 : Int32)))])) τ
    refine XS.isub X0.here hx rfl (Jvm.hb hby at_56) rfl ?_
    show Steps p.tables e below (s₁.setTop (mkF m 57 #[.val (.int p1), .val (.int p2), .val (.int p3), .val (.int (p1 >>> ((2 : Int32) &&& 31))), .val (.int (((p1 >>> ((2 : Int32) &&& 31)) + (1 : Int32)) + (p2 &&& (255 : Int32)))), .val (.int (((((p1 >>> ((2 : Int32) &&& 31)) + (1 : Int32)) + (p2 &&& (255 : Int32))) + (1 : Int32)) + ((XT.ushr p2 (8 : Int32)) &&& (255 : Int32)))), .val (.int ((p3 &&& (7 : Int32)) - (4 : Int32))), .val (.int (((XT.ushr p3 (3 : Int32)) &&& (7 : Int32)) - (4 : Int32))), .unset, .unset, .unset, .unset, .unset, .unset, .unset, .unset, .unset, .unset, .unset, .unset] [(.int (((XT.ushr p3 (6 : Int32)) &&& (7 : Int32)) - (4 : Int32)))])) τ
    refine XS.istore X0.here hx rfl (Jvm.hb hby at_57) rfl (l' := #[.val (.int p1), .val (.int p2), .val (.int p3), .val (.int (p1 >>> ((2 : Int32) &&& 31))), .val (.int (((p1 >>> ((2 : Int32) &&& 31)) + (1 : Int32)) + (p2 &&& (255 : Int32)))), .val (.int (((((p1 >>> ((2 : Int32) &&& 31)) + (1 : Int32)) + (p2 &&& (255 : Int32))) + (1 : Int32)) + ((XT.ushr p2 (8 : Int32)) &&& (255 : Int32)))), .val (.int ((p3 &&& (7 : Int32)) - (4 : Int32))), .val (.int (((XT.ushr p3 (3 : Int32)) &&& (7 : Int32)) - (4 : Int32))), .val (.int (((XT.ushr p3 (6 : Int32)) &&& (7 : Int32)) - (4 : Int32))), .unset, .unset, .unset, .unset, .unset, .unset, .unset, .unset, .unset, .unset, .unset]) rfl ?_
    show Steps p.tables e below (s₁.setTop (mkF m 59 #[.val (.int p1), .val (.int p2), .val (.int p3), .val (.int (p1 >>> ((2 : Int32) &&& 31))), .val (.int (((p1 >>> ((2 : Int32) &&& 31)) + (1 : Int32)) + (p2 &&& (255 : Int32)))), .val (.int (((((p1 >>> ((2 : Int32) &&& 31)) + (1 : Int32)) + (p2 &&& (255 : Int32))) + (1 : Int32)) + ((XT.ushr p2 (8 : Int32)) &&& (255 : Int32)))), .val (.int ((p3 &&& (7 : Int32)) - (4 : Int32))), .val (.int (((XT.ushr p3 (3 : Int32)) &&& (7 : Int32)) - (4 : Int32))), .val (.int (((XT.ushr p3 (6 : Int32)) &&& (7 : Int32)) - (4 : Int32))), .unset, .unset, .unset, .unset, .unset, .unset, .unset, .unset, .unset, .unset, .unset] [])) τ
    refine XS.iload X0.here hx rfl (Jvm.hb hby at_59) rfl ?_
    show Steps p.tables e below (s₁.setTop (mkF m 61 #[.val (.int p1), .val (.int p2), .val (.int p3), .val (.int (p1 >>> ((2 : Int32) &&& 31))), .val (.int (((p1 >>> ((2 : Int32) &&& 31)) + (1 : Int32)) + (p2 &&& (255 : Int32)))), .val (.int (((((p1 >>> ((2 : Int32) &&& 31)) + (1 : Int32)) + (p2 &&& (255 : Int32))) + (1 : Int32)) + ((XT.ushr p2 (8 : Int32)) &&& (255 : Int32)))), .val (.int ((p3 &&& (7 : Int32)) - (4 : Int32))), .val (.int (((XT.ushr p3 (3 : Int32)) &&& (7 : Int32)) - (4 : Int32))), .val (.int (((XT.ushr p3 (6 : Int32)) &&& (7 : Int32)) - (4 : Int32))), .unset, .unset, .unset, .unset, .unset, .unset, .unset, .unset, .unset, .unset, .unset] [(.int ((p3 &&& (7 : Int32)) - (4 : Int32)))])) τ
    refine own_i2d X0.here hx rfl (Jvm.hb hby at_61) rfl ?_
    show Steps p.tables e below (s₁.setTop (mkF m 62 #[.val (.int p1), .val (.int p2), .val (.int p3), .val (.int (p1 >>> ((2 : Int32) &&& 31))), .val (.int (((p1 >>> ((2 : Int32) &&& 31)) + (1 : Int32)) + (p2 &&& (255 : Int32)))), .val (.int (((((p1 >>> ((2 : Int32) &&& 31)) + (1 : Int32)) + (p2 &&& (255 : Int32))) + (1 : Int32)) + ((XT.ushr p2 (8 : Int32)) &&& (255 : Int32)))), .val (.int ((p3 &&& (7 : Int32)) - (4 : Int32))), .val (.int (((XT.ushr p3 (3 : Int32)) &&& (7 : Int32)) - (4 : Int32))), .val (.int (((XT.ushr p3 (6 : Int32)) &&& (7 : Int32)) - (4 : Int32))), .unset, .unset, .unset, .unset, .unset, .unset, .unset, .unset, .unset, .unset, .unset] [(.double (FP.i2d ((p3 &&& (7 : Int32)) - (4 : Int32))))])) τ
    refine own_dstore X0.here hx rfl (Jvm.hb hby at_62) rfl (l' := #[.val (.int p1), .val (.int p2), .val (.int p3), .val (.int (p1 >>> ((2 : Int32) &&& 31))), .val (.int (((p1 >>> ((2 : Int32) &&& 31)) + (1 : Int32)) + (p2 &&& (255 : Int32)))), .val (.int (((((p1 >>> ((2 : Int32) &&& 31)) + (1 : Int32)) + (p2 &&& (255 : Int32))) + (1 : Int32)) + ((XT.ushr p2 (8 : Int32)) &&& (255 : Int32)))), .val (.int ((p3 &&& (7 : Int32)) - (4 : Int32))), .val (.int (((XT.ushr p3 (3 : Int32)) &&& (7 : Int32)) - (4 : Int32))), .val (.int (((XT.ushr p3 (6 : Int32)) &&& (7 : Int32)) - (4 : Int32))), .val (.double (FP.i2d ((p3 &&& (7 : Int32)) - (4 : Int32)))), .second, .unset, .unset, .unset, .unset, .unset, .unset, .unset, .unset, .unset]) rfl ?_
    show Steps p.tables e below (s₁.setTop (mkF m 64 #[.val (.int p1), .val (.int p2), .val (.int p3), .val (.int (p1 >>> ((2 : Int32) &&& 31))), .val (.int (((p1 >>> ((2 : Int32) &&& 31)) + (1 : Int32)) + (p2 &&& (255 : Int32)))), .val (.int (((((p1 >>> ((2 : Int32) &&& 31)) + (1 : Int32)) + (p2 &&& (255 : Int32))) + (1 : Int32)) + ((XT.ushr p2 (8 : Int32)) &&& (255 : Int32)))), .val (.int ((p3 &&& (7 : Int32)) - (4 : Int32))), .val (.int (((XT.ushr p3 (3 : Int32)) &&& (7 : Int32)) - (4 : Int32))), .val (.int (((XT.ushr p3 (6 : Int32)) &&& (7 : Int32)) - (4 : Int32))), .val (.double (FP.i2d ((p3 &&& (7 : Int32)) - (4 : Int32)))), .second, .unset, .unset, .unset, .unset, .unset, .unset, .unset, .unset, .unset] [])) τ
    refine XS.iload X0.here hx rfl (Jvm.hb hby at_64) rfl ?_
    show Steps p.tables e below (s₁.setTop (mkF m 66 #[.val (.int p1), .val (.int p2), .val (.int p3), .val (.int (p1 >>> ((2 : Int32) &&& 31))), .val (.int (((p1 >>> ((2 : Int32) &&& 31)) + (1 : Int32)) + (p2 &&& (255 : Int32)))), .val (.int (((((p1 >>> ((2 : Int32) &&& 31)) + (1 : Int32)) + (p2 &&& (255 : Int32))) + (1 : Int32)) + ((XT.ushr p2 (8 : Int32)) &&& (255 : Int32)))), .val (.int ((p3 &&& (7 : Int32)) - (4 : Int32))), .val (.int (((XT.ushr p3 (3 : Int32)) &&& (7 : Int32)) - (4 : Int32))), .val (.int (((XT.ushr p3 (6 : Int32)) &&& (7 : Int32)) - (4 : Int32))), .val (.double (FP.i2d ((p3 &&& (7 : Int32)) - (4 : Int32)))), .second, .unset, .unset, .unset, .unset, .unset, .unset, .unset, .unset, .unset] [(.int (((XT.ushr p3 (3 : Int32)) &&& (7 : Int32)) - (4 : Int32)))])) τ
    refine own_i2d X0.here hx rfl (Jvm.hb hby at_66) rfl ?_
    show Steps p.tables e below (s₁.setTop (mkF m 67 #[.val (.int p1), .val (.int p2), .val (.int p3), .val (.int (p1 >>> ((2 : Int32) &&& 31))), .val (.int (((p1 >>> ((2 : Int32) &&& 31)) + (1 : Int32)) + (p2 &&& (255 : Int32)))), .val (.int (((((p1 >>> ((2 : Int32) &&& 31)) + (1 : Int32)) + (p2 &&& (255 : Int32))) + (1 : Int32)) + ((XT.ushr p2 (8 : Int32)) &&& (255 : Int32)))), .val (.int ((p3 &&& (7 : Int32)) - (4 : Int32))), .val (.int (((XT.ushr p3 (3 : Int32)) &&& (7 : Int32)) - (4 : Int32))), .val (.int (((XT.ushr p3 (6 : Int32)) &&& (7 : Int32)) - (4 : Int32))), .val (.double (FP.i2d ((p3 &&& (7 : Int32)) - (4 : Int32)))), .second, .unset, .unset, .unset, .unset, .unset, .unset, .unset, .unset, .unset] [(.double (FP.i2d (((XT.ushr p3 (3 : Int32)) &&& (7 : Int32)) - (4 : Int32))))])) τ
    refine own_dstore X0.here hx rfl (Jvm.hb hby at_67) rfl (l' := #[.val (.int p1), .val (.int p2), .val (.int p3), .val (.int (p1 >>> ((2 : Int32) &&& 31))), .val (.int (((p1 >>> ((2 : Int32) &&& 31)) + (1 : Int32)) + (p2 &&& (255 : Int32)))), .val (.int (((((p1 >>> ((2 : Int32) &&& 31)) + (1 : Int32)) + (p2 &&& (255 : Int32))) + (1 : Int32)) + ((XT.ushr p2 (8 : Int32)) &&& (255 : Int32)))), .val (.int ((p3 &&& (7 : Int32)) - (4 : Int32))), .val (.int (((XT.ushr p3 (3 : Int32)) &&& (7 : Int32)) - (4 : Int32))), .val (.int (((XT.ushr p3 (6 : Int32)) &&& (7 : Int32)) - (4 : Int32))), .val (.double (FP.i2d ((p3 &&& (7 : Int32)) - (4 : Int32)))), .second, .val (.double (FP.i2d (((XT.ushr p3 (3 : Int32)) &&& (7 : Int32)) - (4 : Int32)))), .second, .unset, .unset, .unset, .unset, .unset, .unset, .unset]) rfl ?_
    show Steps p.tables e below (s₁.setTop (mkF m 69 #[.val (.int p1), .val (.int p2), .val (.int p3), .val (.int (p1 >>> ((2 : Int32) &&& 31))), .val (.int (((p1 >>> ((2 : Int32) &&& 31)) + (1 : Int32)) + (p2 &&& (255 : Int32)))), .val (.int (((((p1 >>> ((2 : Int32) &&& 31)) + (1 : Int32)) + (p2 &&& (255 : Int32))) + (1 : Int32)) + ((XT.ushr p2 (8 : Int32)) &&& (255 : Int32)))), .val (.int ((p3 &&& (7 : Int32)) - (4 : Int32))), .val (.int (((XT.ushr p3 (3 : Int32)) &&& (7 : Int32)) - (4 : Int32))), .val (.int (((XT.ushr p3 (6 : Int32)) &&& (7 : Int32)) - (4 : Int32))), .val (.double (FP.i2d ((p3 &&& (7 : Int32)) - (4 : Int32)))), .second, .val (.double (FP.i2d (((XT.ushr p3 (3 : Int32)) &&& (7 : Int32)) - (4 : Int32)))), .second, .unset, .unset, .unset, .unset, .unset, .unset, .unset] [])) τ
    refine XS.iload X0.here hx rfl (Jvm.hb hby at_69) rfl ?_
    show Steps p.tables e below (s₁.setTop (mkF m 71 #[.val (.int p1), .val (.int p2), .val (.int p3), .val (.int (p1 >>> ((2 : Int32) &&& 31))), .val (.int (((p1 >>> ((2 : Int32) &&& 31)) + (1 : Int32)) + (p2 &&& (255 : Int32)))), .val (.int (((((p1 >>> ((2 : Int32) &&& 31)) + (1 : Int32)) + (p2 &&& (255 : Int32))) + (1 : Int32)) + ((XT.ushr p2 (8 : Int32)) &&& (255 : Int32)))), .val (.int ((p3 &&& (7 : Int32)) - (4 : Int32))), .val (.int (((XT.ushr p3 (3 : Int32)) &&& (7 : Int32)) - (4 : Int32))), .val (.int (((XT.ushr p3 (6 : Int32)) &&& (7 : Int32)) - (4 : Int32))), .val (.double (FP.i2d ((p3 &&& (7 : Int32)) - (4 : Int32)))), .second, .val (.double (FP.i2d (((XT.ushr p3 (3 : Int32)) &&& (7 : Int32)) - (4 : Int32)))), .second, .unset, .unset, .unset, .unset, .unset, .unset, .unset] [(.int (((XT.ushr p3 (6 : Int32)) &&& (7 : Int32)) - (4 : Int32)))])) τ
    refine own_i2d X0.here hx rfl (Jvm.hb hby at_71) rfl ?_
    show Steps p.tables e below (s₁.setTop (mkF m 72 #[.val (.int p1), .val (.int p2), .val (.int p3), .val (.int (p1 >>> ((2 : Int32) &&& 31))), .val (.int (((p1 >>> ((2 : Int32) &&& 31)) + (1 : Int32)) + (p2 &&& (255 : Int32)))), .val (.int (((((p1 >>> ((2 : Int32) &&& 31)) + (1 : Int32)) + (p2 &&& (255 : Int32))) + (1 : Int32)) + ((XT.ushr p2 (8 : Int32)) &&& (255 : Int32)))), .val (.int ((p3 &&& (7 : Int32)) - (4 : Int32))), .val (.int (((XT.ushr p3 (3 : Int32)) &&& (7 : Int32)) - (4 : Int32))), .val (.int (((XT.ushr p3 (6 : Int32)) &&& (7 : Int32)) - (4 : Int32))), .val (.double (FP.i2d ((p3 &&& (7 : Int32)) - (4 : Int32)))), .second, .val (.double (FP.i2d (((XT.ushr p3 (3 : Int32)) &&& (7 : Int32)) - (4 : Int32)))), .second, .unset, .unset, .unset, .unset, .unset, .unset, .unset] [(.double (FP.i2d (((XT.ushr p3 (6 : Int32)) &&& (7 : Int32)) - (4 : Int32))))])) τ
    refine own_dstore X0.here hx rfl (Jvm.hb hby at_72) rfl (l' := #[.val (.int p1), .val (.int p2), .val (.int p3), .val (.int (p1 >>> ((2 : Int32) &&& 31))), .val (.int (((p1 >>> ((2 : Int32) &&& 31)) + (1 : Int32)) + (p2 &&& (255 : Int32)))), .val (.int (((((p1 >>> ((2 : Int32) &&& 31)) + (1 : Int32)) + (p2 &&& (255 : Int32))) + (1 : Int32)) + ((XT.ushr p2 (8 : Int32)) &&& (255 : Int32)))), .val (.int ((p3 &&& (7 : Int32)) - (4 : Int32))), .val (.int (((XT.ushr p3 (3 : Int32)) &&& (7 : Int32)) - (4 : Int32))), .val (.int (((XT.ushr p3 (6 : Int32)) &&& (7 : Int32)) - (4 : Int32))), .val (.double (FP.i2d ((p3 &&& (7 : Int32)) - (4 : Int32)))), .second, .val (.double (FP.i2d (((XT.ushr p3 (3 : Int32)) &&& (7 : Int32)) - (4 : Int32)))), .second, .val (.double (FP.i2d (((XT.ushr p3 (6 : Int32)) &&& (7 : Int32)) - (4 : Int32)))), .second, .unset, .unset, .unset, .unset, .unset]) rfl ?_
    exact kt)
  obtain ⟨t2, e_t2⟩ : ∃ z : Int32, z = (p1 >>> ((2 : Int32) &&& 31)) := ⟨_, rfl⟩
  have pre57 : ∀ τ, Steps p.tables e below (s₁.setTop (mkF m 74 #[.val (.int p1), .val (.int p2), .val (.int p3), .val (.int t2), .val (.int (((p1 >>> ((2 : Int32) &&& 31)) + (1 : Int32)) + (p2 &&& (255 : Int32)))), .val (.int (((((p1 >>> ((2 : Int32) &&& 31)) + (1 : Int32)) + (p2 &&& (255 : Int32))) + (1 : Int32)) + ((XT.ushr p2 (8 : Int32)) &&& (255 : Int32)))), .val (.int ((p3 &&& (7 : Int32)) - (4 : Int32))), .val (.int (((XT.ushr p3 (3 : Int32)) &&& (7 : Int32)) - (4 : Int32))), .val (.int (((XT.ushr p3 (6 : Int32)) &&& (7 : Int32)) - (4 : Int32))), .val (.double (FP.i2d ((p3 &&& (7 : Int32)) - (4 : Int32)))), .second, .val (.double (FP.i2d (((XT.ushr p3 (3 : Int32)) &&& (7 : Int32)) - (4 : Int32)))), .second, .val (.double (FP.i2d (((XT.ushr p3 (6 : Int32)) &&& (7 : Int32)) - (4 : Int32)))), .second, .unset, .unset, .unset, .unset, .unset] [])) τ → Steps p.tables e below (s₁.setTop (entryFrame m #[(.int p1), (.int p2), (.int p3)] maxLocals)) τ := by rw [e_t2]; exact pre56
  rw [← e_t2] at hsh
  have b2 : -1000000000 ≤ t2.toInt ∧ t2.toInt ≤ 1000000 * 600 := by omega
  have pret : ∀ τ, Steps p.tables e below (s₁.setTop (mkF m 74 #[.val (.int p1), .val (.int p2), .val (.int p3), .val (.int t2), .val (.int ((t2 + (1 : Int32)) + (p2 &&& (255 : Int32)))), .val (.int ((((t2 + (1 : Int32)) + (p2 &&& (255 : Int32))) + (1 : Int32)) + ((XT.ushr p2 (8 : Int32)) &&& (255 : Int32)))), .val (.int ((p3 &&& (7 : Int32)) - (4 : Int32))), .val (.int (((XT.ushr p3 (3 : Int32)) &&& (7 : Int32)) - (4 : Int32))), .val (.int (((XT.ushr p3 (6 : Int32)) &&& (7 : Int32)) - (4 : Int32))), .val (.double (FP.i2d ((p3 &&& (7 : Int32)) - (4 : Int32)))), .second, .val (.double (FP.i2d (((XT.ushr p3 (3 : Int32)) &&& (7 : Int32)) - (4 : Int32)))), .second, .val (.double (FP.i2d (((XT.ushr p3 (6 : Int32)) &&& (7 : Int32)) - (4 : Int32)))), .second, .unset, .unset, .unset, .unset, .unset] [])) τ → Steps p.tables e below (s₁.setTop (entryFrame m #[(.int p1), (.int p2), (.int p3)] maxLocals)) τ := by rw [e_t2]; rw [e_t2] at pre57; exact pre57
  have g1 := own_rise (a := t2) (b := p2 &&& 255) (by omega) (by omega) hb1
  obtain ⟨t1, e_t1⟩ : ∃ z : Int32, z = ((t2 + (1 : Int32)) + (p2 &&& (255 : Int32))) := ⟨_, rfl⟩
  have pre58 : ∀ τ, Steps p.tables e below (s₁.setTop (mkF m 74 #[.val (.int p1), .val (.int p2), .val (.int p3), .val (.int t2), .val (.int t1), .val (.int ((((t2 + (1 : Int32)) + (p2 &&& (255 : Int32))) + (1 : Int32)) + ((XT.ushr p2 (8 : Int32)) &&& (255 : Int32)))), .val (.int ((p3 &&& (7 : Int32)) - (4 : Int32))), .val (.int (((XT.ushr p3 (3 : Int32)) &&& (7 : Int32)) - (4 : Int32))), .val (.int (((XT.ushr p3 (6 : Int32)) &&& (7 : Int32)) - (4 : Int32))), .val (.double (FP.i2d ((p3 &&& (7 : Int32)) - (4 : Int32)))), .second, .val (.double (FP.i2d (((XT.ushr p3 (3 : Int32)) &&& (7 : Int32)) - (4 : Int32)))), .second, .val (.double (FP.i2d (((XT.ushr p3 (6 : Int32)) &&& (7 : Int32)) - (4 : Int32)))), .second, .unset, .unset, .unset, .unset, .unset] [])) τ → Steps p.tables e below (s₁.setTop (entryFrame m #[(.int p1), (.int p2), (.int p3)] maxLocals)) τ := by rw [e_t1]; exact pret
  have pret1 : ∀ τ, Steps p.tables e below (s₁.setTop (mkF m 74 #[.val (.int p1), .val (.int p2), .val (.int p3), .val (.int t2), .val (.int t1), .val (.int ((t1 + (1 : Int32)) + ((XT.ushr p2 (8 : Int32)) &&& (255 : Int32)))), .val (.int ((p3 &&& (7 : Int32)) - (4 : Int32))), .val (.int (((XT.ushr p3 (3 : Int32)) &&& (7 : Int32)) - (4 : Int32))), .val (.int (((XT.ushr p3 (6 : Int32)) &&& (7 : Int32)) - (4 : Int32))), .val (.double (FP.i2d ((p3 &&& (7 : Int32)) - (4 : Int32)))), .second, .val (.double (FP.i2d (((XT.ushr p3 (3 : Int32)) &&& (7 : Int32)) - (4 : Int32)))), .second, .val (.double (FP.i2d (((XT.ushr p3 (6 : Int32)) &&& (7 : Int32)) - (4 : Int32)))), .second, .unset, .unset, .unset, .unset, .unset] [])) τ → Steps p.tables e below (s₁.setTop (entryFrame m #[(.int p1), (.int p2), (.int p3)] maxLocals)) τ := by rw [e_t1]; rw [e_t1] at pre58; exact pre58
  rw [← e_t1] at g1
  have g0 := own_rise (a := t1) (b := (XT.ushr p2 (8 : Int32)) &&& 255) (by omega) (by omega) hb2
  obtain ⟨t0, e_t0⟩ : ∃ z : Int32, z = ((t1 + (1 : Int32)) + ((XT.ushr p2 (8 : Int32)) &&& (255 : Int32))) := ⟨_, rfl⟩
  have pre59 : ∀ τ, Steps p.tables e below (s₁.setTop (mkF m 74 #[.val (.int p1), .val (.int p2), .val (.int p3), .val (.int t2), .val (.int t1), .val (.int t0), .val (.int ((p3 &&& (7 : Int32)) - (4 : Int32))), .val (.int (((XT.ushr p3 (3 : Int32)) &&& (7 : Int32)) - (4 : Int32))), .val (.int (((XT.ushr p3 (6 : Int32)) &&& (7 : Int32)) - (4 : Int32))), .val (.double (FP.i2d ((p3 &&& (7 : Int32)) - (4 : Int32)))), .second, .val (.double (FP.i2d (((XT.ushr p3 (3 : Int32)) &&& (7 : Int32)) - (4 : Int32)))), .second, .val (.double (FP.i2d (((XT.ushr p3 (6 : Int32)) &&& (7 : Int32)) - (4 : Int32)))), .second, .unset, .unset, .unset, .unset, .unset] [])) τ → Steps p.tables e below (s₁.setTop (entryFrame m #[(.int p1), (.int p2), (.int p3)] maxLocals)) τ := by rw [e_t0]; exact pret1
  rw [← e_t0] at g0
  obtain ⟨j0, e_j0⟩ : ∃ z : Int32, z = ((p3 &&& (7 : Int32)) - (4 : Int32)) := ⟨_, rfl⟩
  have pre60 : ∀ τ, Steps p.tables e below (s₁.setTop (mkF m 74 #[.val (.int p1), .val (.int p2), .val (.int p3), .val (.int t2), .val (.int t1), .val (.int t0), .val (.int j0), .val (.int (((XT.ushr p3 (3 : Int32)) &&& (7 : Int32)) - (4 : Int32))), .val (.int (((XT.ushr p3 (6 : Int32)) &&& (7 : Int32)) - (4 : Int32))), .val (.double (FP.i2d ((p3 &&& (7 : Int32)) - (4 : Int32)))), .second, .val (.double (FP.i2d (((XT.ushr p3 (3 : Int32)) &&& (7 : Int32)) - (4 : Int32)))), .second, .val (.double (FP.i2d (((XT.ushr p3 (6 : Int32)) &&& (7 : Int32)) - (4 : Int32)))), .second, .unset, .unset, .unset, .unset, .unset] [])) τ → Steps p.tables e below (s₁.setTop (entryFrame m #[(.int p1), (.int p2), (.int p3)] maxLocals)) τ := by rw [e_j0]; exact pre59
  have pre_j0 : ∀ τ, Steps p.tables e below (s₁.setTop (mkF m 74 #[.val (.int p1), .val (.int p2), .val (.int p3), .val (.int t2), .val (.int t1), .val (.int t0), .val (.int j0), .val (.int (((XT.ushr p3 (3 : Int32)) &&& (7 : Int32)) - (4 : Int32))), .val (.int (((XT.ushr p3 (6 : Int32)) &&& (7 : Int32)) - (4 : Int32))), .val (.double (FP.i2d j0)), .second, .val (.double (FP.i2d (((XT.ushr p3 (3 : Int32)) &&& (7 : Int32)) - (4 : Int32)))), .second, .val (.double (FP.i2d (((XT.ushr p3 (6 : Int32)) &&& (7 : Int32)) - (4 : Int32)))), .second, .unset, .unset, .unset, .unset, .unset] [])) τ → Steps p.tables e below (s₁.setTop (entryFrame m #[(.int p1), (.int p2), (.int p3)] maxLocals)) τ := by rw [e_j0]; rw [e_j0] at pre60; exact pre60
  obtain ⟨j1, e_j1⟩ : ∃ z : Int32, z = (((XT.ushr p3 (3 : Int32)) &&& (7 : Int32)) - (4 : Int32)) := ⟨_, rfl⟩
  have pre61 : ∀ τ, Steps p.tables e below (s₁.setTop (mkF m 74 #[.val (.int p1), .val (.int p2), .val (.int p3), .val (.int t2), .val (.int t1), .val (.int t0), .val (.int j0), .val (.int j1), .val (.int (((XT.ushr p3 (6 : Int32)) &&& (7 : Int32)) - (4 : Int32))), .val (.double (FP.i2d j0)), .second, .val (.double (FP.i2d (((XT.ushr p3 (3 : Int32)) &&& (7 : Int32)) - (4 : Int32)))), .second, .val (.double (FP.i2d (((XT.ushr p3 (6 : Int32)) &&& (7 : Int32)) - (4 : Int32)))), .second, .unset, .unset, .unset, .unset, .unset] [])) τ → Steps p.tables e below (s₁.setTop (entryFrame m #[(.int p1), (.int p2), (.int p3)] maxLocals)) τ := by rw [e_j1]; exact pre_j0
  have pre_j1 : ∀ τ, Steps p.tables e below (s₁.setTop (mkF m 74 #[.val (.int p1), .val (.int p2), .val (.int p3), .val (.int t2), .val (.int t1), .val (.int t0), .val (.int j0), .val (.int j1), .val (.int (((XT.ushr p3 (6 : Int32)) &&& (7 : Int32)) - (4 : Int32))), .val (.double (FP.i2d j0)), .second, .val (.double (FP.i2d j1)), .second, .val (.double (FP.i2d (((XT.ushr p3 (6 : Int32)) &&& (7 : Int32)) - (4 : Int32)))), .second, .unset, .unset, .unset, .unset, .unset] [])) τ → Steps p.tables e below (s₁.setTop (entryFrame m #[(.int p1), (.int p2), (.int p3)] maxLocals)) τ := by rw [e_j1]; rw [e_j1] at pre61; exact pre61
  obtain ⟨j2, e_j2⟩ : ∃ z : Int32, z = (((XT.ushr p3 (6 : Int32)) &&& (7 : Int32)) - (4 : Int32)) := ⟨_, rfl⟩
  have pre62 : ∀ τ, Steps p.tables e below (s₁.setTop (mkF m 74 #[.val (.int p1), .val (.int p2), .val (.int p3), .val (.int t2), .val (.int t1), .val (.int t0), .val (.int j0), .val (.int j1), .val (.int j2), .val (.double (FP.i2d j0)), .second, .val (.double (FP.i2d j1)), .second, .val (.double (FP.i2d (((XT.ushr p3 (6 : Int32)) &&& (7 : Int32)) - (4 : Int32)))), .second, .unset, .unset, .unset, .unset, .unset] [])) τ → Steps p.tables e below (s₁.setTop (entryFrame m #[(.int p1), (.int p2), (.int p3)] maxLocals)) τ := by rw [e_j2]; exact pre_j1
  have pre_j2 : ∀ τ, Steps p.tables e below (s₁.setTop (mkF m 74 #[.val (.int p1), .val (.int p2), .val (.int p3), .val (.int t2), .val (.int t1), .val (.int t0), .val (.int j0), .val (.int j1), .val (.int j2), .val (.double (FP.i2d j0)), .second, .val (.double (FP.i2d j1)), .second, .val (.double (FP.i2d j2)), .second, .unset, .unset, .unset, .unset, .unset] [])) τ → Steps p.tables e below (s₁.setTop (entryFrame m #[(.int p1), (.int p2), (.int p3)] maxLocals)) τ := by rw [e_j2]; rw [e_j2] at pre62; exact pre62
  have l21 : t2 < t1 := Int32.lt_iff_toInt_lt.mpr (by omega)
  have l10 : t1 < t0 := Int32.lt_iff_toInt_lt.mpr (by omega)
  have l20 : t2 < t0 := Int32.lt_iff_toInt_lt.mpr (by omega)
  obtain ⟨T63, h63, X63, e63, E63, A63, D63, -, st63⟩ := newO X0 hx hZ hown (hw _ (List.mem_of_getElem? (i := 0) rfl)) (hw _ (List.mem_of_getElem? (i := 1) rfl)) (hw _ (List.mem_of_getElem? (i := 2) rfl)) e0 (g := (mkF m 74 #[.val (.int p1), .val (.int p2), .val (.int p3), .val (.int t2), .val (.int t1), .val (.int t0), .val (.int j0), .val (.int j1), .val (.int j2), .val (.double (FP.i2d j0)), .second, .val (.double (FP.i2d j1)), .second, .val (.double (FP.i2d j2)), .second, .unset, .unset, .unset, .unset, .unset] [])) rfl (Jvm.hb hby at_74) (by decide) (by decide)
  obtain ⟨q, g63⟩ : ∃ z, z = h0.size := ⟨_, rfl⟩
  rw [← g63] at A63 D63 st63
  have g_q : n0 ≤ q := Nat.le_trans (Nat.le_trans Z0 KK0.1) (Nat.le_of_eq g63.symm)
  have sz_q : h0.size ≤ q := Nat.le_trans KK0.1 (Nat.le_of_eq g63.symm)
  have K63 : Keep h0 h63 [] := KK0.ext E63
  have F_samples_q : Fld Z h63 q "com/example/counterpath/counterpath/core/CappedMaximum" "samples" "[I" .null := D63 (Or.inr (hw _ (List.mem_of_getElem? (i := 11) rfl))) (ty := (.array .int)) (by decide)
  have F_values_q : Fld Z h63 q "com/example/counterpath/counterpath/core/CappedMaximum" "values" "[D" .null := D63 (Or.inr (hw _ (List.mem_of_getElem? (i := 14) rfl))) (ty := (.array .double)) (by decide)
  have F_head_q : Fld Z h63 q "com/example/counterpath/counterpath/core/CappedMaximum" "head" "I" (.int (0 : Int32)) := D63 (Or.inl (hw _ (List.mem_of_getElem? (i := 16) rfl))) (ty := .int) (by decide)
  have F_tail_q : Fld Z h63 q "com/example/counterpath/counterpath/core/CappedMaximum" "tail" "I" (.int (0 : Int32)) := D63 (Or.inl (hw _ (List.mem_of_getElem? (i := 18) rfl))) (ty := .int) (by decide)
  have pre64 : ∀ τ, Steps p.tables e below (T63.setTop (mkF m 77 #[.val (.int p1), .val (.int p2), .val (.int p3), .val (.int t2), .val (.int t1), .val (.int t0), .val (.int j0), .val (.int j1), .val (.int j2), .val (.double (FP.i2d j0)), .second, .val (.double (FP.i2d j1)), .second, .val (.double (FP.i2d j2)), .second, .unset, .unset, .unset, .unset, .unset] [(.ref q)])) τ → Steps p.tables e below (s₁.setTop (entryFrame m #[(.int p1), (.int p2), (.int p3)] maxLocals)) τ := fun τ kt => pre_j2 τ (st63 τ kt)
  have pre65 : ∀ τ, Steps p.tables e below (T63.setTop (mkF m 79 #[.val (.int p1), .val (.int p2), .val (.int p3), .val (.int t2), .val (.int t1), .val (.int t0), .val (.int j0), .val (.int j1), .val (.int j2), .val (.double (FP.i2d j0)), .second, .val (.double (FP.i2d j1)), .second, .val (.double (FP.i2d j2)), .second, .unset, .unset, .unset, .unset, .unset] [(.int (3 : Int32)), (.ref q), (.ref q)])) τ → Steps p.tables e below (s₁.setTop (entryFrame m #[(.int p1), (.int p2), (.int p3)] maxLocals)) τ := fun τ kt => pre64 τ (by
    show Steps p.tables e below (T63.setTop (mkF m 77 #[.val (.int p1), .val (.int p2), .val (.int p3), .val (.int t2), .val (.int t1), .val (.int t0), .val (.int j0), .val (.int j1), .val (.int j2), .val (.double (FP.i2d j0)), .second, .val (.double (FP.i2d j1)), .second, .val (.double (FP.i2d j2)), .second, .unset, .unset, .unset, .unset, .unset] [(.ref q)])) τ
    refine XS.dup X63.here hx rfl (Jvm.hb hby at_77) rfl rfl ?_
    show Steps p.tables e below (T63.setTop (mkF m 78 #[.val (.int p1), .val (.int p2), .val (.int p3), .val (.int t2), .val (.int t1), .val (.int t0), .val (.int j0), .val (.int j1), .val (.int j2), .val (.double (FP.i2d j0)), .second, .val (.double (FP.i2d j1)), .second, .val (.double (FP.i2d j2)), .second, .unset, .unset, .unset, .unset, .unset] [(.ref q), (.ref q)])) τ
    refine XS.iconst X63.here hx rfl (Jvm.hb hby at_78) ?_
    exact kt)
  obtain ⟨_, _, ⟨T66, L66, k66, n66⟩, -, X66, ⟨Lc66, hQ66, l66, y66, z66⟩, st66⟩ := X63.specialBack hx (y := (⟨"com/example/counterpath/counterpath/core/CappedMaximum", "<init>", "(I)V"⟩ : MethodName)) rfl hown (mvT hZ (hw _ (List.mem_of_getElem? (i := 3) rfl))) (mvT hZ (hw _ (List.mem_of_getElem? (i := 4) rfl))) (mvT hZ (hw _ (List.mem_of_getElem? (i := 5) rfl))) (by decide) (backOf (W := 1) (rmI l Z a0 hw [] q (3 : Int32) h63 n0 (Nat.le_trans Z0 K63.1) rfl A63 F_samples_q F_values_q F_head_q F_tail_q g_q) hZ (hw _ (List.mem_of_getElem? (i := 5) rfl)) (hw _ (List.mem_of_getElem? (i := 2) rfl)) (by decide) (by decide)) (g := (mkF m 79 #[.val (.int p1), .val (.int p2), .val (.int p3), .val (.int t2), .val (.int t1), .val (.int t0), .val (.int j0), .val (.int j1), .val (.int j2), .val (.double (FP.i2d j0)), .second, .val (.double (FP.i2d j1)), .second, .val (.double (FP.i2d j2)), .second, .unset, .unset, .unset, .unset, .unset] [(.int (3 : Int32)), (.ref q), (.ref q)])) rfl (by rw [hml]; rfl) (Steps.refl _) (a := q) (argsL := [(.int (3 : Int32))]) (rest := [(.ref q)]) (lenOf own_pd__I_V rfl) rfl (by show 2 * 0 + _ ≤ _; exact Nat.le_of_eq rfl) (Jvm.hb hby at_79) (fun _ _ => ⟨rfl, e63, (by decide : 1 + 2 ≤ _), (by decide : 4 + 6 ≤ _)⟩)
  dsimp only [Pt.U, Pt.locs, Pt.cells, Pt.slots] at X66 l66 y66 z66 st66 hQ66
  subst l66 y66 z66
  obtain ⟨rfl, Nq66, Kq66, A, B, kA, kB, gA, gB, zA, zB, naA, naB, nAB, f1_66, f2_66, f3_66, f4_66, f5_66, f6_66⟩ := hQ66
  have N66 := Fr.app N0 Nq66
  have K66 : Keep h0 T66.heap [] := K63.trans Kq66 (allS (Or.inr sz_q) (all0))
  have pre67 : ∀ τ, Steps p.tables e below (T66.setTop (mkF m 82 #[.val (.int p1), .val (.int p2), .val (.int p3), .val (.int t2), .val (.int t1), .val (.int t0), .val (.int j0), .val (.int j1), .val (.int j2), .val (.double (FP.i2d j0)), .second, .val (.double (FP.i2d j1)), .second, .val (.double (FP.i2d j2)), .second, .unset, .unset, .unset, .unset, .unset] [(.ref q)])) τ → Steps p.tables e below (s₁.setTop (entryFrame m #[(.int p1), (.int p2), (.int p3)] maxLocals)) τ := fun τ kt => pre65 τ ((st66).trans kt)
  have sz_A : h0.size ≤ A := Nat.le_trans K63.1 zA
  have sz_B : h0.size ≤ B := Nat.le_trans K63.1 zB
  have pre68 : ∀ τ, Steps p.tables e below (T66.setTop (mkF m 90 #[.val (.int p1), .val (.int p2), .val (.int p3), .val (.int t2), .val (.int t1), .val (.int t0), .val (.int j0), .val (.int j1), .val (.int j2), .val (.double (FP.i2d j0)), .second, .val (.double (FP.i2d j1)), .second, .val (.double (FP.i2d j2)), .second, .val (.ref q), .unset, .unset, .unset, .unset] [(.double (FP.i2d j0)), (.int t0), (.ref q)])) τ → Steps p.tables e below (s₁.setTop (entryFrame m #[(.int p1), (.int p2), (.int p3)] maxLocals)) τ := fun τ kt => pre67 τ (by
    show Steps p.tables e below (T66.setTop (mkF m 82 #[.val (.int p1), .val (.int p2), .val (.int p3), .val (.int t2), .val (.int t1), .val (.int t0), .val (.int j0), .val (.int j1), .val (.int j2), .val (.double (FP.i2d j0)), .second, .val (.double (FP.i2d j1)), .second, .val (.double (FP.i2d j2)), .second, .unset, .unset, .unset, .unset, .unset] [(.ref q)])) τ
    refine XS.astore X66.here hx rfl (Jvm.hb hby at_82) rfl rfl (l' := #[.val (.int p1), .val (.int p2), .val (.int p3), .val (.int t2), .val (.int t1), .val (.int t0), .val (.int j0), .val (.int j1), .val (.int j2), .val (.double (FP.i2d j0)), .second, .val (.double (FP.i2d j1)), .second, .val (.double (FP.i2d j2)), .second, .val (.ref q), .unset, .unset, .unset, .unset]) rfl ?_
    show Steps p.tables e below (T66.setTop (mkF m 84 #[.val (.int p1), .val (.int p2), .val (.int p3), .val (.int t2), .val (.int t1), .val (.int t0), .val (.int j0), .val (.int j1), .val (.int j2), .val (.double (FP.i2d j0)), .second, .val (.double (FP.i2d j1)), .second, .val (.double (FP.i2d j2)), .second, .val (.ref q), .unset, .unset, .unset, .unset] [])) τ
    refine XS.aload X66.here hx rfl (Jvm.hb hby at_84) rfl rfl ?_
    show Steps p.tables e below (T66.setTop (mkF m 86 #[.val (.int p1), .val (.int p2), .val (.int p3), .val (.int t2), .val (.int t1), .val (.int t0), .val (.int j0), .val (.int j1), .val (.int j2), .val (.double (FP.i2d j0)), .second, .val (.double (FP.i2d j1)), .second, .val (.double (FP.i2d j2)), .second, .val (.ref q), .unset, .unset, .unset, .unset] [(.ref q)])) τ
    refine XS.iload X66.here hx rfl (Jvm.hb hby at_86) rfl ?_
    show Steps p.tables e below (T66.setTop (mkF m 88 #[.val (.int p1), .val (.int p2), .val (.int p3), .val (.int t2), .val (.int t1), .val (.int t0), .val (.int j0), .val (.int j1), .val (.int j2), .val (.double (FP.i2d j0)), .second, .val (.double (FP.i2d j1)), .second, .val (.double (FP.i2d j2)), .second, .val (.ref q), .unset, .unset, .unset, .unset] [(.int t0), (.ref q)])) τ
    refine own_dload X66.here hx rfl (Jvm.hb hby at_88) rfl ?_
    exact kt)
  have f116 := A63.keep Kq66
  obtain ⟨cq117, kq117, qa117, qb117, qc117⟩ := isOf hZ rfl f116
  obtain ⟨_, _, ⟨T117, L117, k117, n117⟩, -, X117, ⟨Lc117, hQ117, l117, y117, z117⟩, st117⟩ := X66.virtualBack hx (y := (⟨"com/example/counterpath/counterpath/core/CappedMaximum", "addFirst", "(ID)V"⟩ : MethodName)) (z := (⟨"com/example/counterpath/counterpath/core/CappedMaximum", "addFirst", "(ID)V"⟩ : MethodName)) hown (mvT hZ (hw _ (List.mem_of_getElem? (i := 19) rfl))) (mvT hZ (hw _ (List.mem_of_getElem? (i := 20) rfl))) (notFace_of_selects (args := #[]) (mvT hZ (hw _ (List.mem_of_getElem? (i := 22) rfl)))) (mvT hZ (hw _ (List.mem_of_getElem? (i := 22) rfl))) (mvT hZ (hw _ (List.mem_of_getElem? (i := 21) rfl))) (by decide) (backOf (W := 0) (rmAdd_33_e l Z a0 hw [] q t0 (FP.i2d j0) A B kA kB (0 : Int32) (0 : Int32) (0 : Int32) (0 : UInt64) (0 : UInt64) (0 : UInt64) T66.heap n0 (Nat.le_trans Z0 K66.1) f116 f1_66 f2_66 f3_66 f4_66 f5_66 f6_66 naA naB nAB g_q gA gB ) hZ (hw _ (List.mem_of_getElem? (i := 23) rfl)) (hw _ (List.mem_of_getElem? (i := 2) rfl)) (by decide) (by decide)) qa117 qc117 (g := (mkF m 90 #[.val (.int p1), .val (.int p2), .val (.int p3), .val (.int t2), .val (.int t1), .val (.int t0), .val (.int j0), .val (.int j1), .val (.int j2), .val (.double (FP.i2d j0)), .second, .val (.double (FP.i2d j1)), .second, .val (.double (FP.i2d j2)), .second, .val (.ref q), .unset, .unset, .unset, .unset] [(.double (FP.i2d j0)), (.int t0), (.ref q)])) rfl (by rw [hml]; rfl) (Steps.refl _) (argsL := [(.int t0), (.double (FP.i2d j0))]) (rest := []) (lenOf own_pd__ID_V rfl) rfl (by show 2 * 0 + _ ≤ _; exact Nat.le_of_eq rfl) (Jvm.hb hby at_90) (fun _ _ => ⟨rfl, rfl, (by decide : 3 + 0 ≤ _), (by decide : 10 + 0 ≤ _)⟩)
  dsimp only [Pt.U, Pt.locs, Pt.cells, Pt.slots] at X117 l117 y117 z117 st117 hQ117
  subst l117 y117 z117
  obtain ⟨rfl, Nq117, Kq117, f1_117, f2_117, f3_117, f4_117, f5_117, f6_117⟩ := hQ117
  have N117 := Fr.app N66 Nq117
  have K117 : Keep h0 T117.heap [] := K66.trans Kq117 (allS (Or.inr sz_q) (allS (Or.inr sz_A) (allS (Or.inr sz_B) (all0))))
  have pre118 : ∀ τ, Steps p.tables e below (T117.setTop (mkF m 93 #[.val (.int p1), .val (.int p2), .val (.int p3), .val (.int t2), .val (.int t1), .val (.int t0), .val (.int j0), .val (.int j1), .val (.int j2), .val (.double (FP.i2d j0)), .second, .val (.double (FP.i2d j1)), .second, .val (.double (FP.i2d j2)), .second, .val (.ref q), .unset, .unset, .unset, .unset] [])) τ → Steps p.tables e below (s₁.setTop (entryFrame m #[(.int p1), (.int p2), (.int p3)] maxLocals)) τ := fun τ kt => pre68 τ ((st117).trans kt)
  have f134 := f116.keep Kq117
  have pre135 : ∀ τ, Steps p.tables e below (T117.setTop (mkF m 95 #[.val (.int p1), .val (.int p2), .val (.int p3), .val (.int t2), .val (.int t1), .val (.int t0), .val (.int j0), .val (.int j1), .val (.int j2), .val (.double (FP.i2d j0)), .second, .val (.double (FP.i2d j1)), .second, .val (.double (FP.i2d j2)), .second, .val (.ref q), .unset, .unset, .unset, .unset] [(.ref q)])) τ → Steps p.tables e below (s₁.setTop (entryFrame m #[(.int p1), (.int p2), (.int p3)] maxLocals)) τ := fun τ kt => pre118 τ (by
    show Steps p.tables e below (T117.setTop (mkF m 93 #[.val (.int p1), .val (.int p2), .val (.int p3), .val (.int t2), .val (.int t1), .val (.int t0), .val (.int j0), .val (.int j1), .val (.int j2), .val (.double (FP.i2d j0)), .second, .val (.double (FP.i2d j1)), .second, .val (.double (FP.i2d j2)), .second, .val (.ref q), .unset, .unset, .unset, .unset] [])) τ
    refine XS.aload X117.here hx rfl (Jvm.hb hby at_93) rfl rfl ?_
    exact kt)
  obtain ⟨cq136, kq136, qa136, qb136, qc136⟩ := isOf hZ rfl f134
  obtain ⟨_, _, ⟨T136, L136, k136, n136⟩, -, X136, ⟨Lc136, hQ136, l136, y136, z136⟩, st136⟩ := X117.virtualBack hx (y := (⟨"com/example/counterpath/counterpath/core/CappedMaximum", "maximum", "()D"⟩ : MethodName)) (z := (⟨"com/example/counterpath/counterpath/core/CappedMaximum", "maximum", "()D"⟩ : MethodName)) hown (mvT hZ (hw _ (List.mem_of_getElem? (i := 24) rfl))) (mvT hZ (hw _ (List.mem_of_getElem? (i := 25) rfl))) (notFace_of_selects (args := #[]) (mvT hZ (hw _ (List.mem_of_getElem? (i := 27) rfl)))) (mvT hZ (hw _ (List.mem_of_getElem? (i := 27) rfl))) (mvT hZ (hw _ (List.mem_of_getElem? (i := 26) rfl))) (by decide) (backOf (W := 0) (rmMax_23 l Z a0 hw [] q A B kA kB (0 : Int32) (0 : Int32) t0 (0 : UInt64) (0 : UInt64) (FP.i2d j0) T117.heap n0 (Nat.le_trans Z0 K117.1) f134 f1_117 f2_117 f3_117 f4_117 f5_117 f6_117 naA naB nAB g_q gA gB) hZ (hw _ (List.mem_of_getElem? (i := 28) rfl)) (hw _ (List.mem_of_getElem? (i := 2) rfl)) (by decide) (by decide)) qa136 qc136 (g := (mkF m 95 #[.val (.int p1), .val (.int p2), .val (.int p3), .val (.int t2), .val (.int t1), .val (.int t0), .val (.int j0), .val (.int j1), .val (.int j2), .val (.double (FP.i2d j0)), .second, .val (.double (FP.i2d j1)), .second, .val (.double (FP.i2d j2)), .second, .val (.ref q), .unset, .unset, .unset, .unset] [(.ref q)])) rfl (by rw [hml]; rfl) (Steps.refl _) (argsL := []) (rest := []) (lenOf own_pd___D rfl) rfl (by show 2 * 0 + _ ≤ _; exact Nat.le_of_eq rfl) (Jvm.hb hby at_95) (fun _ _ => ⟨rfl, rfl, (by decide : 3 + 0 ≤ _), (by decide : 10 + 0 ≤ _)⟩)
  dsimp only [Pt.U, Pt.locs, Pt.cells, Pt.slots] at X136 l136 y136 z136 st136 hQ136
  subst l136 y136 z136
  obtain ⟨rfl, Nq136, eq136⟩ := hQ136
  have N136 := Fr.app N117 Nq136
  have pre137 : ∀ τ, Steps p.tables e below (T136.setTop (mkF m 98 #[.val (.int p1), .val (.int p2), .val (.int p3), .val (.int t2), .val (.int t1), .val (.int t0), .val (.int j0), .val (.int j1), .val (.int j2), .val (.double (FP.i2d j0)), .second, .val (.double (FP.i2d j1)), .second, .val (.double (FP.i2d j2)), .second, .val (.ref q), .unset, .unset, .unset, .unset] [(.double (FP.i2d j0))])) τ → Steps p.tables e below (s₁.setTop (entryFrame m #[(.int p1), (.int p2), (.int p3)] maxLocals)) τ := fun τ kt => pre135 τ ((st136).trans kt)
  have pre138 : ∀ τ, Steps p.tables e below (T136.setTop (mkF m 117 #[.val (.int p1), .val (.int p2), .val (.int p3), .val (.int t2), .val (.int t1), .val (.int t0), .val (.int j0), .val (.int j1), .val (.int j2), .val (.double (FP.i2d j0)), .second, .val (.double (FP.i2d j1)), .second, .val (.double (FP.i2d j2)), .second, .val (.ref q), .val (.int (1 : Int32)), .unset, .unset, .unset] [(.double (FP.i2d j1)), (.int t1), (.ref q)])) τ → Steps p.tables e below (s₁.setTop (entryFrame m #[(.int p1), (.int p2), (.int p3)] maxLocals)) τ := fun τ kt => pre137 τ (by
    show Steps p.tables e below (T136.setTop (mkF m 98 #[.val (.int p1), .val (.int p2), .val (.int p3), .val (.int t2), .val (.int t1), .val (.int t0), .val (.int j0), .val (.int j1), .val (.int j2), .val (.double (FP.i2d j0)), .second, .val (.double (FP.i2d j1)), .second, .val (.double (FP.i2d j2)), .second, .val (.ref q), .unset, .unset, .unset, .unset] [(.double (FP.i2d j0))])) τ
    refine own_dload X136.here hx rfl (Jvm.hb hby at_98) rfl ?_
    show Steps p.tables e below (T136.setTop (mkF m 100 #[.val (.int p1), .val (.int p2), .val (.int p3), .val (.int t2), .val (.int t1), .val (.int t0), .val (.int j0), .val (.int j1), .val (.int j2), .val (.double (FP.i2d j0)), .second, .val (.double (FP.i2d j1)), .second, .val (.double (FP.i2d j2)), .second, .val (.ref q), .unset, .unset, .unset, .unset] [(.double (FP.i2d j0)), (.double (FP.i2d j0))])) τ
    refine own_dcmp X136.here hx rfl (Jvm.hb hby at_100) rfl ?_
    show Steps p.tables e below (T136.setTop (mkF m 101 #[.val (.int p1), .val (.int p2), .val (.int p3), .val (.int t2), .val (.int t1), .val (.int t0), .val (.int j0), .val (.int j1), .val (.int j2), .val (.double (FP.i2d j0)), .second, .val (.double (FP.i2d j1)), .second, .val (.double (FP.i2d j2)), .second, .val (.ref q), .unset, .unset, .unset, .unset] [(.int (cmpValue (FP.dcmp (FP.i2d j0) (FP.i2d j0)) .l))])) τ
    refine XS.ifNo X136.here hx rfl (Jvm.hb hby at_101) rfl ((if0 _ _).trans (teq (own_eq rfl _)).2) ?_
    show Steps p.tables e below (T136.setTop (mkF m 104 #[.val (.int p1), .val (.int p2), .val (.int p3), .val (.int t2), .val (.int t1), .val (.int t0), .val (.int j0), .val (.int j1), .val (.int j2), .val (.double (FP.i2d j0)), .second, .val (.double (FP.i2d j1)), .second, .val (.double (FP.i2d j2)), .second, .val (.ref q), .unset, .unset, .unset, .unset] [])) τ
    refine XS.iconst X136.here hx rfl (Jvm.hb hby at_104) ?_
    show Steps p.tables e below (T136.setTop (mkF m 105 #[.val (.int p1), .val (.int p2), .val (.int p3), .val (.int t2), .val (.int t1), .val (.int t0), .val (.int j0), .val (.int j1), .val (.int j2), .val (.double (FP.i2d j0)), .second, .val (.double (FP.i2d j1)), .second, .val (.double (FP.i2d j2)), .second, .val (.ref q), .unset, .unset, .unset, .unset] [(.int (1 : Int32))])) τ
    refine XS.goto X136.here hx rfl (pc0 := 105) (pc' := 109) rfl (Jvm.hb hby at_105) (by decide) (by decide) ?_
    show Steps p.tables e below (T136.setTop (mkF m 109 #[.val (.int p1), .val (.int p2), .val (.int p3), .val (.int t2), .val (.int t1), .val (.int t0), .val (.int j0), .val (.int j1), .val (.int j2), .val (.double (FP.i2d j0)), .second, .val (.double (FP.i2d j1)), .second, .val (.double (FP.i2d j2)), .second, .val (.ref q), .unset, .unset, .unset, .unset] [(.int (1 : Int32))])) τ
    refine XS.istore X136.here hx rfl (Jvm.hb hby at_109) rfl (l' := #[.val (.int p1), .val (.int p2), .val (.int p3), .val (.int t2), .val (.int t1), .val (.int t0), .val (.int j0), .val (.int j1), .val (.int j2), .val (.double (FP.i2d j0)), .second, .val (.double (FP.i2d j1)), .second, .val (.double (FP.i2d j2)), .second, .val (.ref q), .val (.int (1 : Int32)), .unset, .unset, .unset]) rfl ?_
    show Steps p.tables e below (T136.setTop (mkF m 111 #[.val (.int p1), .val (.int p2), .val (.int p3), .val (.int t2), .val (.int t1), .val (.int t0), .val (.int j0), .val (.int j1), .val (.int j2), .val (.double (FP.i2d j0)), .second, .val (.double (FP.i2d j1)), .second, .val (.double (FP.i2d j2)), .second, .val (.ref q), .val (.int (1 : Int32)), .unset, .unset, .unset] [])) τ
    refine XS.aload X136.here hx rfl (Jvm.hb hby at_111) rfl rfl ?_
    show Steps p.tables e below (T136.setTop (mkF m 113 #[.val (.int p1), .val (.int p2), .val (.int p3), .val (.int t2), .val (.int t1), .val (.int t0), .val (.int j0), .val (.int j1), .val (.int j2), .val (.double (FP.i2d j0)), .second, .val (.double (FP.i2d j1)), .second, .val (.double (FP.i2d j2)), .second, .val (.ref q), .val (.int (1 : Int32)), .unset, .unset, .unset] [(.ref q)])) τ
    refine XS.iload X136.here hx rfl (Jvm.hb hby at_113) rfl ?_
    show Steps p.tables e below (T136.setTop (mkF m 115 #[.val (.int p1), .val (.int p2), .val (.int p3), .val (.int t2), .val (.int t1), .val (.int t0), .val (.int j0), .val (.int j1), .val (.int j2), .val (.double (FP.i2d j0)), .second, .val (.double (FP.i2d j1)), .second, .val (.double (FP.i2d j2)), .second, .val (.ref q), .val (.int (1 : Int32)), .unset, .unset, .unset] [(.int t1), (.ref q)])) τ
    refine own_dload X136.here hx rfl (Jvm.hb hby at_115) rfl ?_
    exact kt)
  by_cases qa139 : j1.toInt < j0.toInt
  · skip
    obtain ⟨cq194, kq194, qa194, qb194, qc194⟩ := isOf hZ eq136 f134
    obtain ⟨_, _, ⟨T194, L194, k194, n194⟩, -, X194, ⟨Lc194, hQ194, l194, y194, z194⟩, st194⟩ := X136.virtualBack hx (y := (⟨"com/example/counterpath/counterpath/core/CappedMaximum", "addFirst", "(ID)V"⟩ : MethodName)) (z := (⟨"com/example/counterpath/counterpath/core/CappedMaximum", "addFirst", "(ID)V"⟩ : MethodName)) hown (mvT hZ (hw _ (List.mem_of_getElem? (i := 19) rfl))) (mvT hZ (hw _ (List.mem_of_getElem? (i := 20) rfl))) (notFace_of_selects (args := #[]) (mvT hZ (hw _ (List.mem_of_getElem? (i := 22) rfl)))) (mvT hZ (hw _ (List.mem_of_getElem? (i := 22) rfl))) (mvT hZ (hw _ (List.mem_of_getElem? (i := 21) rfl))) (by decide) (backOf (W := 0) (rmAdd_23_x l Z a0 hw [] q t1 (FP.i2d j1) A B kA kB (0 : Int32) (0 : Int32) t0 (0 : UInt64) (0 : UInt64) (FP.i2d j0) T117.heap n0 (Nat.le_trans Z0 K117.1) f134 f1_117 f2_117 f3_117 f4_117 f5_117 f6_117 naA naB nAB g_q gA gB ((own_gt _ _ _).mpr qa139)) hZ (hw _ (List.mem_of_getElem? (i := 23) rfl)) (hw _ (List.mem_of_getElem? (i := 2) rfl)) (by decide) (by decide)) qa194 qc194 (g := (mkF m 117 #[.val (.int p1), .val (.int p2), .val (.int p3), .val (.int t2), .val (.int t1), .val (.int t0), .val (.int j0), .val (.int j1), .val (.int j2), .val (.double (FP.i2d j0)), .second, .val (.double (FP.i2d j1)), .second, .val (.double (FP.i2d j2)), .second, .val (.ref q), .val (.int (1 : Int32)), .unset, .unset, .unset] [(.double (FP.i2d j1)), (.int t1), (.ref q)])) rfl (by rw [hml]; rfl) (Steps.refl _) (argsL := [(.int t1), (.double (FP.i2d j1))]) (rest := []) (lenOf own_pd__ID_V rfl) rfl (by show 2 * 0 + _ ≤ _; exact Nat.le_of_eq rfl) (Jvm.hb hby at_117) (fun _ _ => ⟨rfl, eq136, (by decide : 3 + 0 ≤ _), (by decide : 10 + 0 ≤ _)⟩)
    dsimp only [Pt.U, Pt.locs, Pt.cells, Pt.slots] at X194 l194 y194 z194 st194 hQ194
    subst l194 y194 z194
    obtain ⟨rfl, Nq194, Kq194, f1_194, f2_194, f3_194, f4_194, f5_194, f6_194⟩ := hQ194
    have N194 := Fr.app N136 Nq194
    have K194 : Keep h0 T194.heap [] := K117.trans Kq194 (allS (Or.inr sz_q) (allS (Or.inr sz_A) (allS (Or.inr sz_B) (all0))))
    have pre195 : ∀ τ, Steps p.tables e below (T194.setTop (mkF m 120 #[.val (.int p1), .val (.int p2), .val (.int p3), .val (.int t2), .val (.int t1), .val (.int t0), .val (.int j0), .val (.int j1), .val (.int j2), .val (.double (FP.i2d j0)), .second, .val (.double (FP.i2d j1)), .second, .val (.double (FP.i2d j2)), .second, .val (.ref q), .val (.int (1 : Int32)), .unset, .unset, .unset] [])) τ → Steps p.tables e below (s₁.setTop (entryFrame m #[(.int p1), (.int p2), (.int p3)] maxLocals)) τ := fun τ kt => pre138 τ ((st194).trans kt)
    have pre196 : ∀ τ, Steps p.tables e below (T194.setTop (mkF m 125 #[.val (.int p1), .val (.int p2), .val (.int p3), .val (.int t2), .val (.int t1), .val (.int t0), .val (.int j0), .val (.int j1), .val (.int j2), .val (.double (FP.i2d j0)), .second, .val (.double (FP.i2d j1)), .second, .val (.double (FP.i2d j2)), .second, .val (.ref q), .val (.int (1 : Int32)), .unset, .unset, .unset] [(.double (FP.i2d j2)), (.int t2), (.ref q)])) τ → Steps p.tables e below (s₁.setTop (entryFrame m #[(.int p1), (.int p2), (.int p3)] maxLocals)) τ := fun τ kt => pre195 τ (by
      show Steps p.tables e below (T194.setTop (mkF m 120 #[.val (.int p1), .val (.int p2), .val (.int p3), .val (.int t2), .val (.int t1), .val (.int t0), .val (.int j0), .val (.int j1), .val (.int j2), .val (.double (FP.i2d j0)), .second, .val (.double (FP.i2d j1)), .second, .val (.double (FP.i2d j2)), .second, .val (.ref q), .val (.int (1 : Int32)), .unset, .unset, .unset] [])) τ
      refine XS.aload X194.here hx rfl (Jvm.hb hby at_120) rfl rfl ?_
      show Steps p.tables e below (T194.setTop (mkF m 122 #[.val (.int p1), .val (.int p2), .val (.int p3), .val (.int t2), .val (.int t1), .val (.int t0), .val (.int j0), .val (.int j1), .val (.int j2), .val (.double (FP.i2d j0)), .second, .val (.double (FP.i2d j1)), .second, .val (.double (FP.i2d j2)), .second, .val (.ref q), .val (.int (1 : Int32)), .unset, .unset, .unset] [(.ref q)])) τ
      refine XS.iloadN X194.here hx rfl (Jvm.hb hby at_122) rfl ?_
      show Steps p.tables e below (T194.setTop (mkF m 123 #[.val (.int p1), .val (.int p2), .val (.int p3), .val (.int t2), .val (.int t1), .val (.int t0), .val (.int j0), .val (.int j1), .val (.int j2), .val (.double (FP.i2d j0)), .second, .val (.double (FP.i2d j1)), .second, .val (.double (FP.i2d j2)), .second, .val (.ref q), .val (.int (1 : Int32)), .unset, .unset, .unset] [(.int t2), (.ref q)])) τ
      refine own_dload X194.here hx rfl (Jvm.hb hby at_123) rfl ?_
      exact kt)
    by_cases qa197 : j2.toInt < j1.toInt
    · skip
      have f252 := f134.keep Kq194
      obtain ⟨cq253, kq253, qa253, qb253, qc253⟩ := isOf hZ rfl f252
      obtain ⟨_, _, ⟨T253, L253, k253, n253⟩, -, X253, ⟨Lc253, hQ253, l253, y253, z253⟩, st253⟩ := X194.virtualBack hx (y := (⟨"com/example/counterpath/counterpath/core/CappedMaximum", "addFirst", "(ID)V"⟩ : MethodName)) (z := (⟨"com/example/counterpath/counterpath/core/CappedMaximum", "addFirst", "(ID)V"⟩ : MethodName)) hown (mvT hZ (hw _ (List.mem_of_getElem? (i := 19) rfl))) (mvT hZ (hw _ (List.mem_of_getElem? (i := 20) rfl))) (notFace_of_selects (args := #[]) (mvT hZ (hw _ (List.mem_of_getElem? (i := 22) rfl)))) (mvT hZ (hw _ (List.mem_of_getElem? (i := 22) rfl))) (mvT hZ (hw _ (List.mem_of_getElem? (i := 21) rfl))) (by decide) (backOf (W := 0) (rmAdd_13_x l Z a0 hw [] q t2 (FP.i2d j2) A B kA kB (0 : Int32) t1 t0 (0 : UInt64) (FP.i2d j1) (FP.i2d j0) T194.heap n0 (Nat.le_trans Z0 K194.1) f252 f1_194 f2_194 f3_194 f4_194 f5_194 f6_194 naA naB nAB g_q gA gB ((own_gt _ _ _).mpr qa197)) hZ (hw _ (List.mem_of_getElem? (i := 23) rfl)) (hw _ (List.mem_of_getElem? (i := 2) rfl)) (by decide) (by decide)) qa253 qc253 (g := (mkF m 125 #[.val (.int p1), .val (.int p2), .val (.int p3), .val (.int t2), .val (.int t1), .val (.int t0), .val (.int j0), .val (.int j1), .val (.int j2), .val (.double (FP.i2d j0)), .second, .val (.double (FP.i2d j1)), .second, .val (.double (FP.i2d j2)), .second, .val (.ref q), .val (.int (1 : Int32)), .unset, .unset, .unset] [(.double (FP.i2d j2)), (.int t2), (.ref q)])) rfl (by rw [hml]; rfl) (Steps.refl _) (argsL := [(.int t2), (.double (FP.i2d j2))]) (rest := []) (lenOf own_pd__ID_V rfl) rfl (by show 2 * 0 + _ ≤ _; exact Nat.le_of_eq rfl) (Jvm.hb hby at_125) (fun _ _ => ⟨rfl, rfl, (by decide : 3 + 0 ≤ _), (by decide : 10 + 0 ≤ _)⟩)
      dsimp only [Pt.U, Pt.locs, Pt.cells, Pt.slots] at X253 l253 y253 z253 st253 hQ253
      subst l253 y253 z253
      obtain ⟨rfl, Nq253, Kq253, f1_253, f2_253, f3_253, f4_253, f5_253, f6_253⟩ := hQ253
      have N253 := Fr.app N194 Nq253
      have K253 : Keep h0 T253.heap [] := K194.trans Kq253 (allS (Or.inr sz_q) (allS (Or.inr sz_A) (allS (Or.inr sz_B) (all0))))
      have pre254 : ∀ τ, Steps p.tables e below (T253.setTop (mkF m 128 #[.val (.int p1), .val (.int p2), .val (.int p3), .val (.int t2), .val (.int t1), .val (.int t0), .val (.int j0), .val (.int j1), .val (.int j2), .val (.double (FP.i2d j0)), .second, .val (.double (FP.i2d j1)), .second, .val (.double (FP.i2d j2)), .second, .val (.ref q), .val (.int (1 : Int32)), .unset, .unset, .unset] [])) τ → Steps p.tables e below (s₁.setTop (entryFrame m #[(.int p1), (.int p2), (.int p3)] maxLocals)) τ := fun τ kt => pre196 τ ((st253).trans kt)
      have f270 := f252.keep Kq253
      have pre271 : ∀ τ, Steps p.tables e below (T253.setTop (mkF m 130 #[.val (.int p1), .val (.int p2), .val (.int p3), .val (.int t2), .val (.int t1), .val (.int t0), .val (.int j0), .val (.int j1), .val (.int j2), .val (.double (FP.i2d j0)), .second, .val (.double (FP.i2d j1)), .second, .val (.double (FP.i2d j2)), .second, .val (.ref q), .val (.int (1 : Int32)), .unset, .unset, .unset] [(.ref q)])) τ → Steps p.tables e below (s₁.setTop (entryFrame m #[(.int p1), (.int p2), (.int p3)] maxLocals)) τ := fun τ kt => pre254 τ (by
        show Steps p.tables e below (T253.setTop (mkF m 128 #[.val (.int p1), .val (.int p2), .val (.int p3), .val (.int t2), .val (.int t1), .val (.int t0), .val (.int j0), .val (.int j1), .val (.int j2), .val (.double (FP.i2d j0)), .second, .val (.double (FP.i2d j1)), .second, .val (.double (FP.i2d j2)), .second, .val (.ref q), .val (.int (1 : Int32)), .unset, .unset, .unset] [])) τ
        refine XS.aload X253.here hx rfl (Jvm.hb hby at_128) rfl rfl ?_
        exact kt)
      obtain ⟨cq272, kq272, qa272, qb272, qc272⟩ := isOf hZ rfl f270
      obtain ⟨_, _, ⟨T272, L272, k272, n272⟩, -, X272, ⟨Lc272, hQ272, l272, y272, z272⟩, st272⟩ := X253.virtualBack hx (y := (⟨"com/example/counterpath/counterpath/core/CappedMaximum", "maximum", "()D"⟩ : MethodName)) (z := (⟨"com/example/counterpath/counterpath/core/CappedMaximum", "maximum", "()D"⟩ : MethodName)) hown (mvT hZ (hw _ (List.mem_of_getElem? (i := 24) rfl))) (mvT hZ (hw _ (List.mem_of_getElem? (i := 25) rfl))) (notFace_of_selects (args := #[]) (mvT hZ (hw _ (List.mem_of_getElem? (i := 27) rfl)))) (mvT hZ (hw _ (List.mem_of_getElem? (i := 27) rfl))) (mvT hZ (hw _ (List.mem_of_getElem? (i := 26) rfl))) (by decide) (backOf (W := 0) (rmMax_03 l Z a0 hw [] q A B kA kB t2 t1 t0 (FP.i2d j2) (FP.i2d j1) (FP.i2d j0) T253.heap n0 (Nat.le_trans Z0 K253.1) f270 f1_253 f2_253 f3_253 f4_253 f5_253 f6_253 naA naB nAB g_q gA gB) hZ (hw _ (List.mem_of_getElem? (i := 28) rfl)) (hw _ (List.mem_of_getElem? (i := 2) rfl)) (by decide) (by decide)) qa272 qc272 (g := (mkF m 130 #[.val (.int p1), .val (.int p2), .val (.int p3), .val (.int t2), .val (.int t1), .val (.int t0), .val (.int j0), .val (.int j1), .val (.int j2), .val (.double (FP.i2d j0)), .second, .val (.double (FP.i2d j1)), .second, .val (.double (FP.i2d j2)), .second, .val (.ref q), .val (.int (1 : Int32)), .unset, .unset, .unset] [(.ref q)])) rfl (by rw [hml]; rfl) (Steps.refl _) (argsL := []) (rest := []) (lenOf own_pd___D rfl) rfl (by show 2 * 0 + _ ≤ _; exact Nat.le_of_eq rfl) (Jvm.hb hby at_130) (fun _ _ => ⟨rfl, rfl, (by decide : 3 + 0 ≤ _), (by decide : 10 + 0 ≤ _)⟩)
      dsimp only [Pt.U, Pt.locs, Pt.cells, Pt.slots] at X272 l272 y272 z272 st272 hQ272
      subst l272 y272 z272
      obtain ⟨rfl, Nq272, eq272⟩ := hQ272
      have N272 := Fr.app N253 Nq272
      have pre273 : ∀ τ, Steps p.tables e below (T272.setTop (mkF m 133 #[.val (.int p1), .val (.int p2), .val (.int p3), .val (.int t2), .val (.int t1), .val (.int t0), .val (.int j0), .val (.int j1), .val (.int j2), .val (.double (FP.i2d j0)), .second, .val (.double (FP.i2d j1)), .second, .val (.double (FP.i2d j2)), .second, .val (.ref q), .val (.int (1 : Int32)), .unset, .unset, .unset] [(.double (FP.i2d j0))])) τ → Steps p.tables e below (s₁.setTop (entryFrame m #[(.int p1), (.int p2), (.int p3)] maxLocals)) τ := fun τ kt => pre271 τ ((st272).trans kt)
      have pre274 : ∀ τ, Steps p.tables e below (T272.setTop (mkF m 139 #[.val (.int p1), .val (.int p2), .val (.int p3), .val (.int t2), .val (.int t1), .val (.int t0), .val (.int j0), .val (.int j1), .val (.int j2), .val (.double (FP.i2d j0)), .second, .val (.double (FP.i2d j1)), .second, .val (.double (FP.i2d j2)), .second, .val (.ref q), .val (.int (1 : Int32)), .unset, .unset, .unset] [(.int j2), (.int j1), (.int j0), (.double (FP.i2d j0))])) τ → Steps p.tables e below (s₁.setTop (entryFrame m #[(.int p1), (.int p2), (.int p3)] maxLocals)) τ := fun τ kt => pre273 τ (by
        show Steps p.tables e below (T272.setTop (mkF m 133 #[.val (.int p1), .val (.int p2), .val (.int p3), .val (.int t2), .val (.int t1), .val (.int t0), .val (.int j0), .val (.int j1), .val (.int j2), .val (.double (FP.i2d j0)), .second, .val (.double (FP.i2d j1)), .second, .val (.double (FP.i2d j2)), .second, .val (.ref q), .val (.int (1 : Int32)), .unset, .unset, .unset] [(.double (FP.i2d j0))])) τ
        refine XS.iload X272.here hx rfl (Jvm.hb hby at_133) rfl ?_
        show Steps p.tables e below (T272.setTop (mkF m 135 #[.val (.int p1), .val (.int p2), .val (.int p3), .val (.int t2), .val (.int t1), .val (.int t0), .val (.int j0), .val (.int j1), .val (.int j2), .val (.double (FP.i2d j0)), .second, .val (.double (FP.i2d j1)), .second, .val (.double (FP.i2d j2)), .second, .val (.ref q), .val (.int (1 : Int32)), .unset, .unset, .unset] [(.int j0), (.double (FP.i2d j0))])) τ
        refine XS.iload X272.here hx rfl (Jvm.hb hby at_135) rfl ?_
        show Steps p.tables e below (T272.setTop (mkF m 137 #[.val (.int p1), .val (.int p2), .val (.int p3), .val (.int t2), .val (.int t1), .val (.int t0), .val (.int j0), .val (.int j1), .val (.int j2), .val (.double (FP.i2d j0)), .second, .val (.double (FP.i2d j1)), .second, .val (.double (FP.i2d j2)), .second, .val (.ref q), .val (.int (1 : Int32)), .unset, .unset, .unset] [(.int j1), (.int j0), (.double (FP.i2d j0))])) τ
        refine XS.iload X272.here hx rfl (Jvm.hb hby at_137) rfl ?_
        exact kt)
      obtain ⟨_, _, ⟨T275, L275, k275, n275⟩, -, X275, ⟨Lc275, hQ275, l275, y275, z275⟩, st275⟩ := Jvm.LawKit.callS X272 hx (y := (⟨"java/lang/Math", "max", "(II)I"⟩ : MethodName)) hown (mvT hZ (hw _ (List.mem_of_getElem? (i := 29) rfl))) (mvT hZ (hw _ (List.mem_of_getElem? (i := 30) rfl))) (mvT hZ (hw _ (List.mem_of_getElem? (i := 31) rfl))) (mvT hZ (hw _ (List.mem_of_getElem? (i := 32) rfl))) (by decide) (backOf (W := 3) (rmM l Z a0 hw [] j1 j2 T253.heap n0 (Nat.le_trans Z0 K253.1)) hZ (hw _ (List.mem_of_getElem? (i := 32) rfl)) (hw _ (List.mem_of_getElem? (i := 31) rfl)) (by decide) (by decide)) (g := (mkF m 139 #[.val (.int p1), .val (.int p2), .val (.int p3), .val (.int t2), .val (.int t1), .val (.int t0), .val (.int j0), .val (.int j1), .val (.int j2), .val (.double (FP.i2d j0)), .second, .val (.double (FP.i2d j1)), .second, .val (.double (FP.i2d j2)), .second, .val (.ref q), .val (.int (1 : Int32)), .unset, .unset, .unset] [(.int j2), (.int j1), (.int j0), (.double (FP.i2d j0))])) rfl (by rw [hml]; rfl) (argsL := [(.int j1), (.int j2)]) (rest := [(.int j0), (.double (FP.i2d j0))]) (lenOf own_pd__II_I rfl) rfl (by show 2 * 0 + _ ≤ _; exact Nat.le_of_eq rfl) (Jvm.hb hby at_139) (fun _ _ => ⟨rfl, eq272, (by decide : 3 + 0 ≤ _), (by decide : 10 + 0 ≤ _)⟩)
      dsimp only [Pt.U, Pt.locs, Pt.cells, Pt.slots] at X275 l275 y275 z275 st275 hQ275
      subst l275 y275 z275
      obtain ⟨rfl, Nq275, eq275⟩ := hQ275
      have N275 := Fr.app N272 Nq275
      have pre276 : ∀ τ, Steps p.tables e below (T275.setTop (mkF m 142 #[.val (.int p1), .val (.int p2), .val (.int p3), .val (.int t2), .val (.int t1), .val (.int t0), .val (.int j0), .val (.int j1), .val (.int j2), .val (.double (FP.i2d j0)), .second, .val (.double (FP.i2d j1)), .second, .val (.double (FP.i2d j2)), .second, .val (.ref q), .val (.int (1 : Int32)), .unset, .unset, .unset] [(.int (own_max j1 j2)), (.int j0), (.double (FP.i2d j0))])) τ → Steps p.tables e below (s₁.setTop (entryFrame m #[(.int p1), (.int p2), (.int p3)] maxLocals)) τ := fun τ kt => pre274 τ (st275 τ kt)
      obtain ⟨_, _, ⟨T277, L277, k277, n277⟩, -, X277, ⟨Lc277, hQ277, l277, y277, z277⟩, st277⟩ := Jvm.LawKit.callS X275 hx (y := (⟨"java/lang/Math", "max", "(II)I"⟩ : MethodName)) hown (mvT hZ (hw _ (List.mem_of_getElem? (i := 29) rfl))) (mvT hZ (hw _ (List.mem_of_getElem? (i := 30) rfl))) (mvT hZ (hw _ (List.mem_of_getElem? (i := 31) rfl))) (mvT hZ (hw _ (List.mem_of_getElem? (i := 32) rfl))) (by decide) (backOf (W := 2) (rmM l Z a0 hw [] j0 (own_max j1 j2) T253.heap n0 (Nat.le_trans Z0 K253.1)) hZ (hw _ (List.mem_of_getElem? (i := 32) rfl)) (hw _ (List.mem_of_getElem? (i := 31) rfl)) (by decide) (by decide)) (g := (mkF m 142 #[.val (.int p1), .val (.int p2), .val (.int p3), .val (.int t2), .val (.int t1), .val (.int t0), .val (.int j0), .val (.int j1), .val (.int j2), .val (.double (FP.i2d j0)), .second, .val (.double (FP.i2d j1)), .second, .val (.double (FP.i2d j2)), .second, .val (.ref q), .val (.int (1 : Int32)), .unset, .unset, .unset] [(.int (own_max j1 j2)), (.int j0), (.double (FP.i2d j0))])) rfl (by rw [hml]; rfl) (argsL := [(.int j0), (.int (own_max j1 j2))]) (rest := [(.double (FP.i2d j0))]) (lenOf own_pd__II_I rfl) rfl (by show 2 * 0 + _ ≤ _; exact Nat.le_of_eq rfl) (Jvm.hb hby at_142) (fun _ _ => ⟨rfl, eq275, (by decide : 3 + 0 ≤ _), (by decide : 10 + 0 ≤ _)⟩)
      dsimp only [Pt.U, Pt.locs, Pt.cells, Pt.slots] at X277 l277 y277 z277 st277 hQ277
      subst l277 y277 z277
      obtain ⟨rfl, Nq277, eq277⟩ := hQ277
      have N277 := Fr.app N275 Nq277
      have pre278 : ∀ τ, Steps p.tables e below (T277.setTop (mkF m 145 #[.val (.int p1), .val (.int p2), .val (.int p3), .val (.int t2), .val (.int t1), .val (.int t0), .val (.int j0), .val (.int j1), .val (.int j2), .val (.double (FP.i2d j0)), .second, .val (.double (FP.i2d j1)), .second, .val (.double (FP.i2d j2)), .second, .val (.ref q), .val (.int (1 : Int32)), .unset, .unset, .unset] [(.int (own_max j0 (own_max j1 j2))), (.double (FP.i2d j0))])) τ → Steps p.tables e below (s₁.setTop (entryFrame m #[(.int p1), (.int p2), (.int p3)] maxLocals)) τ := fun τ kt => pre276 τ (st277 τ kt)
      have pre319 : ∀ τ, Steps p.tables e below (T277.setTop (mkF m 161 #[.val (.int p1), .val (.int p2), .val (.int p3), .val (.int t2), .val (.int t1), .val (.int t0), .val (.int j0), .val (.int j1), .val (.int j2), .val (.double (FP.i2d j0)), .second, .val (.double (FP.i2d j1)), .second, .val (.double (FP.i2d j2)), .second, .val (.ref q), .val (.int (1 : Int32)), .val (.int (1 : Int32)), .unset, .unset] [(.int t1), (.ref q)])) τ → Steps p.tables e below (s₁.setTop (entryFrame m #[(.int p1), (.int p2), (.int p3)] maxLocals)) τ := fun τ kt => pre278 τ (by
        show Steps p.tables e below (T277.setTop (mkF m 145 #[.val (.int p1), .val (.int p2), .val (.int p3), .val (.int t2), .val (.int t1), .val (.int t0), .val (.int j0), .val (.int j1), .val (.int j2), .val (.double (FP.i2d j0)), .second, .val (.double (FP.i2d j1)), .second, .val (.double (FP.i2d j2)), .second, .val (.ref q), .val (.int (1 : Int32)), .unset, .unset, .unset] [(.int (own_max j0 (own_max j1 j2))), (.double (FP.i2d j0))])) τ
        refine own_i2d X277.here hx rfl (Jvm.hb hby at_145) rfl ?_
        show Steps p.tables e below (T277.setTop (mkF m 146 #[.val (.int p1), .val (.int p2), .val (.int p3), .val (.int t2), .val (.int t1), .val (.int t0), .val (.int j0), .val (.int j1), .val (.int j2), .val (.double (FP.i2d j0)), .second, .val (.double (FP.i2d j1)), .second, .val (.double (FP.i2d j2)), .second, .val (.ref q), .val (.int (1 : Int32)), .unset, .unset, .unset] [(.double (FP.i2d (own_max j0 (own_max j1 j2)))), (.double (FP.i2d j0))])) τ
        refine own_dcmp X277.here hx rfl (Jvm.hb hby at_146) rfl ?_
        show Steps p.tables e below (T277.setTop (mkF m 147 #[.val (.int p1), .val (.int p2), .val (.int p3), .val (.int t2), .val (.int t1), .val (.int t0), .val (.int j0), .val (.int j1), .val (.int j2), .val (.double (FP.i2d j0)), .second, .val (.double (FP.i2d j1)), .second, .val (.double (FP.i2d j2)), .second, .val (.ref q), .val (.int (1 : Int32)), .unset, .unset, .unset] [(.int (cmpValue (FP.dcmp (FP.i2d j0) (FP.i2d (own_max j0 (own_max j1 j2)))) .l))])) τ
        refine XS.ifNo X277.here hx rfl (Jvm.hb hby at_147) rfl ((if0 _ _).trans (teq (own_eq (by first | rfl | (simp only [own_max_int]; omega)) _)).2) ?_
        show Steps p.tables e below (T277.setTop (mkF m 150 #[.val (.int p1), .val (.int p2), .val (.int p3), .val (.int t2), .val (.int t1), .val (.int t0), .val (.int j0), .val (.int j1), .val (.int j2), .val (.double (FP.i2d j0)), .second, .val (.double (FP.i2d j1)), .second, .val (.double (FP.i2d j2)), .second, .val (.ref q), .val (.int (1 : Int32)), .unset, .unset, .unset] [])) τ
        refine XS.iconst X277.here hx rfl (Jvm.hb hby at_150) ?_
        show Steps p.tables e below (T277.setTop (mkF m 151 #[.val (.int p1), .val (.int p2), .val (.int p3), .val (.int t2), .val (.int t1), .val (.int t0), .val (.int j0), .val (.int j1), .val (.int j2), .val (.double (FP.i2d j0)), .second, .val (.double (FP.i2d j1)), .second, .val (.double (FP.i2d j2)), .second, .val (.ref q), .val (.int (1 : Int32)), .unset, .unset, .unset] [(.int (1 : Int32))])) τ
        refine XS.goto X277.here hx rfl (pc0 := 151) (pc' := 155) rfl (Jvm.hb hby at_151) (by decide) (by decide) ?_
        show Steps p.tables e below (T277.setTop (mkF m 155 #[.val (.int p1), .val (.int p2), .val (.int p3), .val (.int t2), .val (.int t1), .val (.int t0), .val (.int j0), .val (.int j1), .val (.int j2), .val (.double (FP.i2d j0)), .second, .val (.double (FP.i2d j1)), .second, .val (.double (FP.i2d j2)), .second, .val (.ref q), .val (.int (1 : Int32)), .unset, .unset, .unset] [(.int (1 : Int32))])) τ
        refine XS.istore X277.here hx rfl (Jvm.hb hby at_155) rfl (l' := #[.val (.int p1), .val (.int p2), .val (.int p3), .val (.int t2), .val (.int t1), .val (.int t0), .val (.int j0), .val (.int j1), .val (.int j2), .val (.double (FP.i2d j0)), .second, .val (.double (FP.i2d j1)), .second, .val (.double (FP.i2d j2)), .second, .val (.ref q), .val (.int (1 : Int32)), .val (.int (1 : Int32)), .unset, .unset]) rfl ?_
        show Steps p.tables e below (T277.setTop (mkF m 157 #[.val (.int p1), .val (.int p2), .val (.int p3), .val (.int t2), .val (.int t1), .val (.int t0), .val (.int j0), .val (.int j1), .val (.int j2), .val (.double (FP.i2d j0)), .second, .val (.double (FP.i2d j1)), .second, .val (.double (FP.i2d j2)), .second, .val (.ref q), .val (.int (1 : Int32)), .val (.int (1 : Int32)), .unset, .unset] [])) τ
        refine XS.aload X277.here hx rfl (Jvm.hb hby at_157) rfl rfl ?_
        show Steps p.tables e below (T277.setTop (mkF m 159 #[.val (.int p1), .val (.int p2), .val (.int p3), .val (.int t2), .val (.int t1), .val (.int t0), .val (.int j0), .val (.int j1), .val (.int j2), .val (.double (FP.i2d j0)), .second, .val (.double (FP.i2d j1)), .second, .val (.double (FP.i2d j2)), .second, .val (.ref q), .val (.int (1 : Int32)), .val (.int (1 : Int32)), .unset, .unset] [(.ref q)])) τ
        refine XS.iload X277.here hx rfl (Jvm.hb hby at_159) rfl ?_
        exact kt)
      obtain ⟨cq320, kq320, qa320, qb320, qc320⟩ := isOf hZ eq277 f270
      obtain ⟨_, _, ⟨T320, L320, k320, n320⟩, -, X320, ⟨Lc320, hQ320, l320, y320, z320⟩, st320⟩ := X277.virtualBack hx (y := (⟨"com/example/counterpath/counterpath/core/CappedMaximum", "removeAfter", "(I)V"⟩ : MethodName)) (z := (⟨"com/example/counterpath/counterpath/core/CappedMaximum", "removeAfter", "(I)V"⟩ : MethodName)) hown (mvT hZ (hw _ (List.mem_of_getElem? (i := 33) rfl))) (mvT hZ (hw _ (List.mem_of_getElem? (i := 34) rfl))) (notFace_of_selects (args := #[]) (mvT hZ (hw _ (List.mem_of_getElem? (i := 36) rfl)))) (mvT hZ (hw _ (List.mem_of_getElem? (i := 36) rfl))) (mvT hZ (hw _ (List.mem_of_getElem? (i := 35) rfl))) (by decide) (backOf (W := 0) (rmRem_03_cx l Z a0 hw [] q t1 A B kA kB t2 t1 t0 (FP.i2d j2) (FP.i2d j1) (FP.i2d j0) T253.heap n0 (Nat.le_trans Z0 K253.1) f270 f1_253 f2_253 f3_253 f4_253 f5_253 f6_253 naA naB nAB g_q gA gB (l10) (fun z => Int32.lt_irrefl z)) hZ (hw _ (List.mem_of_getElem? (i := 37) rfl)) (hw _ (List.mem_of_getElem? (i := 2) rfl)) (by decide) (by decide)) qa320 qc320 (g := (mkF m 161 #[.val (.int p1), .val (.int p2), .val (.int p3), .val (.int t2), .val (.int t1), .val (.int t0), .val (.int j0), .val (.int j1), .val (.int j2), .val (.double (FP.i2d j0)), .second, .val (.double (FP.i2d j1)), .second, .val (.double (FP.i2d j2)), .second, .val (.ref q), .val (.int (1 : Int32)), .val (.int (1 : Int32)), .unset, .unset] [(.int t1), (.ref q)])) rfl (by rw [hml]; rfl) (Steps.refl _) (argsL := [(.int t1)]) (rest := []) (lenOf own_pd__I_V rfl) rfl (by show 2 * 0 + _ ≤ _; exact Nat.le_of_eq rfl) (Jvm.hb hby at_161) (fun _ _ => ⟨rfl, eq277, (by decide : 3 + 0 ≤ _), (by decide : 10 + 0 ≤ _)⟩)
      dsimp only [Pt.U, Pt.locs, Pt.cells, Pt.slots] at X320 l320 y320 z320 st320 hQ320
      subst l320 y320 z320
      obtain ⟨rfl, Nq320, Kq320, f1_320, f2_320, f3_320, f4_320, f5_320, f6_320⟩ := hQ320
      have N320 := Fr.app N277 Nq320
      have K320 : Keep h0 T320.heap [] := K253.trans Kq320 (allS (Or.inr sz_q) (allS (Or.inr sz_A) (allS (Or.inr sz_B) (all0))))
      have pre321 : ∀ τ, Steps p.tables e below (T320.setTop (mkF m 164 #[.val (.int p1), .val (.int p2), .val (.int p3), .val (.int t2), .val (.int t1), .val (.int t0), .val (.int j0), .val (.int j1), .val (.int j2), .val (.double (FP.i2d j0)), .second, .val (.double (FP.i2d j1)), .second, .val (.double (FP.i2d j2)), .second, .val (.ref q), .val (.int (1 : Int32)), .val (.int (1 : Int32)), .unset, .unset] [])) τ → Steps p.tables e below (s₁.setTop (entryFrame m #[(.int p1), (.int p2), (.int p3)] maxLocals)) τ := fun τ kt => pre319 τ ((st320).trans kt)
      have f337 := f270.keep Kq320
      have pre338 : ∀ τ, Steps p.tables e below (T320.setTop (mkF m 166 #[.val (.int p1), .val (.int p2), .val (.int p3), .val (.int t2), .val (.int t1), .val (.int t0), .val (.int j0), .val (.int j1), .val (.int j2), .val (.double (FP.i2d j0)), .second, .val (.double (FP.i2d j1)), .second, .val (.double (FP.i2d j2)), .second, .val (.ref q), .val (.int (1 : Int32)), .val (.int (1 : Int32)), .unset, .unset] [(.ref q)])) τ → Steps p.tables e below (s₁.setTop (entryFrame m #[(.int p1), (.int p2), (.int p3)] maxLocals)) τ := fun τ kt => pre321 τ (by
        show Steps p.tables e below (T320.setTop (mkF m 164 #[.val (.int p1), .val (.int p2), .val (.int p3), .val (.int t2), .val (.int t1), .val (.int t0), .val (.int j0), .val (.int j1), .val (.int j2), .val (.double (FP.i2d j0)), .second, .val (.double (FP.i2d j1)), .second, .val (.double (FP.i2d j2)), .second, .val (.ref q), .val (.int (1 : Int32)), .val (.int (1 : Int32)), .unset, .unset] [])) τ
        refine XS.aload X320.here hx rfl (Jvm.hb hby at_164) rfl rfl ?_
        exact kt)
      obtain ⟨cq339, kq339, qa339, qb339, qc339⟩ := isOf hZ rfl f337
      obtain ⟨_, _, ⟨T339, L339, k339, n339⟩, -, X339, ⟨Lc339, hQ339, l339, y339, z339⟩, st339⟩ := X320.virtualBack hx (y := (⟨"com/example/counterpath/counterpath/core/CappedMaximum", "maximum", "()D"⟩ : MethodName)) (z := (⟨"com/example/counterpath/counterpath/core/CappedMaximum", "maximum", "()D"⟩ : MethodName)) hown (mvT hZ (hw _ (List.mem_of_getElem? (i := 24) rfl))) (mvT hZ (hw _ (List.mem_of_getElem? (i := 25) rfl))) (notFace_of_selects (args := #[]) (mvT hZ (hw _ (List.mem_of_getElem? (i := 27) rfl)))) (mvT hZ (hw _ (List.mem_of_getElem? (i := 27) rfl))) (mvT hZ (hw _ (List.mem_of_getElem? (i := 26) rfl))) (by decide) (backOf (W := 0) (rmMax_02 l Z a0 hw [] q A B kA kB t2 t1 t0 (FP.i2d j2) (FP.i2d j1) (FP.i2d j0) T320.heap n0 (Nat.le_trans Z0 K320.1) f337 f1_320 f2_320 f3_320 f4_320 f5_320 f6_320 naA naB nAB g_q gA gB) hZ (hw _ (List.mem_of_getElem? (i := 28) rfl)) (hw _ (List.mem_of_getElem? (i := 2) rfl)) (by decide) (by decide)) qa339 qc339 (g := (mkF m 166 #[.val (.int p1), .val (.int p2), .val (.int p3), .val (.int t2), .val (.int t1), .val (.int t0), .val (.int j0), .val (.int j1), .val (.int j2), .val (.double (FP.i2d j0)), .second, .val (.double (FP.i2d j1)), .second, .val (.double (FP.i2d j2)), .second, .val (.ref q), .val (.int (1 : Int32)), .val (.int (1 : Int32)), .unset, .unset] [(.ref q)])) rfl (by rw [hml]; rfl) (Steps.refl _) (argsL := []) (rest := []) (lenOf own_pd___D rfl) rfl (by show 2 * 0 + _ ≤ _; exact Nat.le_of_eq rfl) (Jvm.hb hby at_166) (fun _ _ => ⟨rfl, rfl, (by decide : 3 + 0 ≤ _), (by decide : 10 + 0 ≤ _)⟩)
      dsimp only [Pt.U, Pt.locs, Pt.cells, Pt.slots] at X339 l339 y339 z339 st339 hQ339
      subst l339 y339 z339
      obtain ⟨rfl, Nq339, eq339⟩ := hQ339
      have N339 := Fr.app N320 Nq339
      have pre340 : ∀ τ, Steps p.tables e below (T339.setTop (mkF m 169 #[.val (.int p1), .val (.int p2), .val (.int p3), .val (.int t2), .val (.int t1), .val (.int t0), .val (.int j0), .val (.int j1), .val (.int j2), .val (.double (FP.i2d j0)), .second, .val (.double (FP.i2d j1)), .second, .val (.double (FP.i2d j2)), .second, .val (.ref q), .val (.int (1 : Int32)), .val (.int (1 : Int32)), .unset, .unset] [(.double (FP.i2d j1))])) τ → Steps p.tables e below (s₁.setTop (entryFrame m #[(.int p1), (.int p2), (.int p3)] maxLocals)) τ := fun τ kt => pre338 τ ((st339).trans kt)
      have pre341 : ∀ τ, Steps p.tables e below (T339.setTop (mkF m 173 #[.val (.int p1), .val (.int p2), .val (.int p3), .val (.int t2), .val (.int t1), .val (.int t0), .val (.int j0), .val (.int j1), .val (.int j2), .val (.double (FP.i2d j0)), .second, .val (.double (FP.i2d j1)), .second, .val (.double (FP.i2d j2)), .second, .val (.ref q), .val (.int (1 : Int32)), .val (.int (1 : Int32)), .unset, .unset] [(.int j2), (.int j1), (.double (FP.i2d j1))])) τ → Steps p.tables e below (s₁.setTop (entryFrame m #[(.int p1), (.int p2), (.int p3)] maxLocals)) τ := fun τ kt => pre340 τ (by
        show Steps p.tables e below (T339.setTop (mkF m 169 #[.val (.int p1), .val (.int p2), .val (.int p3), .val (.int t2), .val (.int t1), .val (.int t0), .val (.int j0), .val (.int j1), .val (.int j2), .val (.double (FP.i2d j0)), .second, .val (.double (FP.i2d j1)), .second, .val (.double (FP.i2d j2)), .second, .val (.ref q), .val (.int (1 : Int32)), .val (.int (1 : Int32)), .unset, .unset] [(.double (FP.i2d j1))])) τ
        refine XS.iload X339.here hx rfl (Jvm.hb hby at_169) rfl ?_
        show Steps p.tables e below (T339.setTop (mkF m 171 #[.val (.int p1), .val (.int p2), .val (.int p3), .val (.int t2), .val (.int t1), .val (.int t0), .val (.int j0), .val (.int j1), .val (.int j2), .val (.double (FP.i2d j0)), .second, .val (.double (FP.i2d j1)), .second, .val (.double (FP.i2d j2)), .second, .val (.ref q), .val (.int (1 : Int32)), .val (.int (1 : Int32)), .unset, .unset] [(.int j1), (.double (FP.i2d j1))])) τ
        refine XS.iload X339.here hx rfl (Jvm.hb hby at_171) rfl ?_
        exact kt)
      obtain ⟨_, _, ⟨T342, L342, k342, n342⟩, -, X342, ⟨Lc342, hQ342, l342, y342, z342⟩, st342⟩ := Jvm.LawKit.callS X339 hx (y := (⟨"java/lang/Math", "max", "(II)I"⟩ : MethodName)) hown (mvT hZ (hw _ (List.mem_of_getElem? (i := 29) rfl))) (mvT hZ (hw _ (List.mem_of_getElem? (i := 30) rfl))) (mvT hZ (hw _ (List.mem_of_getElem? (i := 31) rfl))) (mvT hZ (hw _ (List.mem_of_getElem? (i := 32) rfl))) (by decide) (backOf (W := 2) (rmM l Z a0 hw [] j1 j2 T320.heap n0 (Nat.le_trans Z0 K320.1)) hZ (hw _ (List.mem_of_getElem? (i := 32) rfl)) (hw _ (List.mem_of_getElem? (i := 31) rfl)) (by decide) (by decide)) (g := (mkF m 173 #[.val (.int p1), .val (.int p2), .val (.int p3), .val (.int t2), .val (.int t1), .val (.int t0), .val (.int j0), .val (.int j1), .val (.int j2), .val (.double (FP.i2d j0)), .second, .val (.double (FP.i2d j1)), .second, .val (.double (FP.i2d j2)), .second, .val (.ref q), .val (.int (1 : Int32)), .val (.int (1 : Int32)), .unset, .unset] [(.int j2), (.int j1), (.double (FP.i2d j1))])) rfl (by rw [hml]; rfl) (argsL := [(.int j1), (.int j2)]) (rest := [(.double (FP.i2d j1))]) (lenOf own_pd__II_I rfl) rfl (by show 2 * 0 + _ ≤ _; exact Nat.le_of_eq rfl) (Jvm.hb hby at_173) (fun _ _ => ⟨rfl, eq339, (by decide : 3 + 0 ≤ _), (by decide : 10 + 0 ≤ _)⟩)
      dsimp only [Pt.U, Pt.locs, Pt.cells, Pt.slots] at X342 l342 y342 z342 st342 hQ342
      subst l342 y342 z342
      obtain ⟨rfl, Nq342, eq342⟩ := hQ342
      have N342 := Fr.app N339 Nq342
      have pre343 : ∀ τ, Steps p.tables e below (T342.setTop (mkF m 176 #[.val (.int p1), .val (.int p2), .val (.int p3), .val (.int t2), .val (.int t1), .val (.int t0), .val (.int j0), .val (.int j1), .val (.int j2), .val (.double (FP.i2d j0)), .second, .val (.double (FP.i2d j1)), .second, .val (.double (FP.i2d j2)), .second, .val (.ref q), .val (.int (1 : Int32)), .val (.int (1 : Int32)), .unset, .unset] [(.int (own_max j1 j2)), (.double (FP.i2d j1))])) τ → Steps p.tables e below (s₁.setTop (entryFrame m #[(.int p1), (.int p2), (.int p3)] maxLocals)) τ := fun τ kt => pre341 τ (st342 τ kt)
      have pre384 : ∀ τ, Steps p.tables e below (T342.setTop (mkF m 191 #[.val (.int p1), .val (.int p2), .val (.int p3), .val (.int t2), .val (.int t1), .val (.int t0), .val (.int j0), .val (.int j1), .val (.int j2), .val (.double (FP.i2d j0)), .second, .val (.double (FP.i2d j1)), .second, .val (.double (FP.i2d j2)), .second, .val (.ref q), .val (.int (1 : Int32)), .val (.int (1 : Int32)), .val (.int (1 : Int32)), .unset] [(.int t2), (.ref q)])) τ → Steps p.tables e below (s₁.setTop (entryFrame m #[(.int p1), (.int p2), (.int p3)] maxLocals)) τ := fun τ kt => pre343 τ (by
        show Steps p.tables e below (T342.setTop (mkF m 176 #[.val (.int p1), .val (.int p2), .val (.int p3), .val (.int t2), .val (.int t1), .val (.int t0), .val (.int j0), .val (.int j1), .val (.int j2), .val (.double (FP.i2d j0)), .second, .val (.double (FP.i2d j1)), .second, .val (.double (FP.i2d j2)), .second, .val (.ref q), .val (.int (1 : Int32)), .val (.int (1 : Int32)), .unset, .unset] [(.int (own_max j1 j2)), (.double (FP.i2d j1))])) τ
        refine own_i2d X342.here hx rfl (Jvm.hb hby at_176) rfl ?_
        show Steps p.tables e below (T342.setTop (mkF m 177 #[.val (.int p1), .val (.int p2), .val (.int p3), .val (.int t2), .val (.int t1), .val (.int t0), .val (.int j0), .val (.int j1), .val (.int j2), .val (.double (FP.i2d j0)), .second, .val (.double (FP.i2d j1)), .second, .val (.double (FP.i2d j2)), .second, .val (.ref q), .val (.int (1 : Int32)), .val (.int (1 : Int32)), .unset, .unset] [(.double (FP.i2d (own_max j1 j2))), (.double (FP.i2d j1))])) τ
        refine own_dcmp X342.here hx rfl (Jvm.hb hby at_177) rfl ?_
        show Steps p.tables e below (T342.setTop (mkF m 178 #[.val (.int p1), .val (.int p2), .val (.int p3), .val (.int t2), .val (.int t1), .val (.int t0), .val (.int j0), .val (.int j1), .val (.int j2), .val (.double (FP.i2d j0)), .second, .val (.double (FP.i2d j1)), .second, .val (.double (FP.i2d j2)), .second, .val (.ref q), .val (.int (1 : Int32)), .val (.int (1 : Int32)), .unset, .unset] [(.int (cmpValue (FP.dcmp (FP.i2d j1) (FP.i2d (own_max j1 j2))) .l))])) τ
        refine XS.ifNo X342.here hx rfl (Jvm.hb hby at_178) rfl ((if0 _ _).trans (teq (own_eq (by first | rfl | (simp only [own_max_int]; omega)) _)).2) ?_
        show Steps p.tables e below (T342.setTop (mkF m 181 #[.val (.int p1), .val (.int p2), .val (.int p3), .val (.int t2), .val (.int t1), .val (.int t0), .val (.int j0), .val (.int j1), .val (.int j2), .val (.double (FP.i2d j0)), .second, .val (.double (FP.i2d j1)), .second, .val (.double (FP.i2d j2)), .second, .val (.ref q), .val (.int (1 : Int32)), .val (.int (1 : Int32)), .unset, .unset] [])) τ
        refine XS.iconst X342.here hx rfl (Jvm.hb hby at_181) ?_
        show Steps p.tables e below (T342.setTop (mkF m 182 #[.val (.int p1), .val (.int p2), .val (.int p3), .val (.int t2), .val (.int t1), .val (.int t0), .val (.int j0), .val (.int j1), .val (.int j2), .val (.double (FP.i2d j0)), .second, .val (.double (FP.i2d j1)), .second, .val (.double (FP.i2d j2)), .second, .val (.ref q), .val (.int (1 : Int32)), .val (.int (1 : Int32)), .unset, .unset] [(.int (1 : Int32))])) τ
        refine XS.goto X342.here hx rfl (pc0 := 182) (pc' := 186) rfl (Jvm.hb hby at_182) (by decide) (by decide) ?_
        show Steps p.tables e below (T342.setTop (mkF m 186 #[.val (.int p1), .val (.int p2), .val (.int p3), .val (.int t2), .val (.int t1), .val (.int t0), .val (.int j0), .val (.int j1), .val (.int j2), .val (.double (FP.i2d j0)), .second, .val (.double (FP.i2d j1)), .second, .val (.double (FP.i2d j2)), .second, .val (.ref q), .val (.int (1 : Int32)), .val (.int (1 : Int32)), .unset, .unset] [(.int (1 : Int32))])) τ
        refine XS.istore X342.here hx rfl (Jvm.hb hby at_186) rfl (l' := #[.val (.int p1), .val (.int p2), .val (.int p3), .val (.int t2), .val (.int t1), .val (.int t0), .val (.int j0), .val (.int j1), .val (.int j2), .val (.double (FP.i2d j0)), .second, .val (.double (FP.i2d j1)), .second, .val (.double (FP.i2d j2)), .second, .val (.ref q), .val (.int (1 : Int32)), .val (.int (1 : Int32)), .val (.int (1 : Int32)), .unset]) rfl ?_
        show Steps p.tables e below (T342.setTop (mkF m 188 #[.val (.int p1), .val (.int p2), .val (.int p3), .val (.int t2), .val (.int t1), .val (.int t0), .val (.int j0), .val (.int j1), .val (.int j2), .val (.double (FP.i2d j0)), .second, .val (.double (FP.i2d j1)), .second, .val (.double (FP.i2d j2)), .second, .val (.ref q), .val (.int (1 : Int32)), .val (.int (1 : Int32)), .val (.int (1 : Int32)), .unset] [])) τ
        refine XS.aload X342.here hx rfl (Jvm.hb hby at_188) rfl rfl ?_
        show Steps p.tables e below (T342.setTop (mkF m 190 #[.val (.int p1), .val (.int p2), .val (.int p3), .val (.int t2), .val (.int t1), .val (.int t0), .val (.int j0), .val (.int j1), .val (.int j2), .val (.double (FP.i2d j0)), .second, .val (.double (FP.i2d j1)), .second, .val (.double (FP.i2d j2)), .second, .val (.ref q), .val (.int (1 : Int32)), .val (.int (1 : Int32)), .val (.int (1 : Int32)), .unset] [(.ref q)])) τ
        refine XS.iloadN X342.here hx rfl (Jvm.hb hby at_190) rfl ?_
        exact kt)
      obtain ⟨cq385, kq385, qa385, qb385, qc385⟩ := isOf hZ eq342 f337
      obtain ⟨_, _, ⟨T385, L385, k385, n385⟩, -, X385, ⟨Lc385, hQ385, l385, y385, z385⟩, st385⟩ := X342.virtualBack hx (y := (⟨"com/example/counterpath/counterpath/core/CappedMaximum", "removeAfter", "(I)V"⟩ : MethodName)) (z := (⟨"com/example/counterpath/counterpath/core/CappedMaximum", "removeAfter", "(I)V"⟩ : MethodName)) hown (mvT hZ (hw _ (List.mem_of_getElem? (i := 33) rfl))) (mvT hZ (hw _ (List.mem_of_getElem? (i := 34) rfl))) (notFace_of_selects (args := #[]) (mvT hZ (hw _ (List.mem_of_getElem? (i := 36) rfl)))) (mvT hZ (hw _ (List.mem_of_getElem? (i := 36) rfl))) (mvT hZ (hw _ (List.mem_of_getElem? (i := 35) rfl))) (by decide) (backOf (W := 0) (rmRem_02_cx l Z a0 hw [] q t2 A B kA kB t2 t1 t0 (FP.i2d j2) (FP.i2d j1) (FP.i2d j0) T320.heap n0 (Nat.le_trans Z0 K320.1) f337 f1_320 f2_320 f3_320 f4_320 f5_320 f6_320 naA naB nAB g_q gA gB (l21) (fun z => Int32.lt_irrefl z)) hZ (hw _ (List.mem_of_getElem? (i := 37) rfl)) (hw _ (List.mem_of_getElem? (i := 2) rfl)) (by decide) (by decide)) qa385 qc385 (g := (mkF m 191 #[.val (.int p1), .val (.int p2), .val (.int p3), .val (.int t2), .val (.int t1), .val (.int t0), .val (.int j0), .val (.int j1), .val (.int j2), .val (.double (FP.i2d j0)), .second, .val (.double (FP.i2d j1)), .second, .val (.double (FP.i2d j2)), .second, .val (.ref q), .val (.int (1 : Int32)), .val (.int (1 : Int32)), .val (.int (1 : Int32)), .unset] [(.int t2), (.ref q)])) rfl (by rw [hml]; rfl) (Steps.refl _) (argsL := [(.int t2)]) (rest := []) (lenOf own_pd__I_V rfl) rfl (by show 2 * 0 + _ ≤ _; exact Nat.le_of_eq rfl) (Jvm.hb hby at_191) (fun _ _ => ⟨rfl, eq342, (by decide : 3 + 0 ≤ _), (by decide : 10 + 0 ≤ _)⟩)
      dsimp only [Pt.U, Pt.locs, Pt.cells, Pt.slots] at X385 l385 y385 z385 st385 hQ385
      subst l385 y385 z385
      obtain ⟨rfl, Nq385, Kq385, f1_385, f2_385, f3_385, f4_385, f5_385, f6_385⟩ := hQ385
      have N385 := Fr.app N342 Nq385
      have K385 : Keep h0 T385.heap [] := K320.trans Kq385 (allS (Or.inr sz_q) (allS (Or.inr sz_A) (allS (Or.inr sz_B) (all0))))
      have pre386 : ∀ τ, Steps p.tables e below (T385.setTop (mkF m 194 #[.val (.int p1), .val (.int p2), .val (.int p3), .val (.int t2), .val (.int t1), .val (.int t0), .val (.int j0), .val (.int j1), .val (.int j2), .val (.double (FP.i2d j0)), .second, .val (.double (FP.i2d j1)), .second, .val (.double (FP.i2d j2)), .second, .val (.ref q), .val (.int (1 : Int32)), .val (.int (1 : Int32)), .val (.int (1 : Int32)), .unset] [])) τ → Steps p.tables e below (s₁.setTop (entryFrame m #[(.int p1), (.int p2), (.int p3)] maxLocals)) τ := fun τ kt => pre384 τ ((st385).trans kt)
      have f402 := f337.keep Kq385
      have pre403 : ∀ τ, Steps p.tables e below (T385.setTop (mkF m 196 #[.val (.int p1), .val (.int p2), .val (.int p3), .val (.int t2), .val (.int t1), .val (.int t0), .val (.int j0), .val (.int j1), .val (.int j2), .val (.double (FP.i2d j0)), .second, .val (.double (FP.i2d j1)), .second, .val (.double (FP.i2d j2)), .second, .val (.ref q), .val (.int (1 : Int32)), .val (.int (1 : Int32)), .val (.int (1 : Int32)), .unset] [(.ref q)])) τ → Steps p.tables e below (s₁.setTop (entryFrame m #[(.int p1), (.int p2), (.int p3)] maxLocals)) τ := fun τ kt => pre386 τ (by
        show Steps p.tables e below (T385.setTop (mkF m 194 #[.val (.int p1), .val (.int p2), .val (.int p3), .val (.int t2), .val (.int t1), .val (.int t0), .val (.int j0), .val (.int j1), .val (.int j2), .val (.double (FP.i2d j0)), .second, .val (.double (FP.i2d j1)), .second, .val (.double (FP.i2d j2)), .second, .val (.ref q), .val (.int (1 : Int32)), .val (.int (1 : Int32)), .val (.int (1 : Int32)), .unset] [])) τ
        refine XS.aload X385.here hx rfl (Jvm.hb hby at_194) rfl rfl ?_
        exact kt)
      obtain ⟨cq404, kq404, qa404, qb404, qc404⟩ := isOf hZ rfl f402
      obtain ⟨_, _, ⟨T404, L404, k404, n404⟩, -, X404, ⟨Lc404, hQ404, l404, y404, z404⟩, st404⟩ := X385.virtualBack hx (y := (⟨"com/example/counterpath/counterpath/core/CappedMaximum", "maximum", "()D"⟩ : MethodName)) (z := (⟨"com/example/counterpath/counterpath/core/CappedMaximum", "maximum", "()D"⟩ : MethodName)) hown (mvT hZ (hw _ (List.mem_of_getElem? (i := 24) rfl))) (mvT hZ (hw _ (List.mem_of_getElem? (i := 25) rfl))) (notFace_of_selects (args := #[]) (mvT hZ (hw _ (List.mem_of_getElem? (i := 27) rfl)))) (mvT hZ (hw _ (List.mem_of_getElem? (i := 27) rfl))) (mvT hZ (hw _ (List.mem_of_getElem? (i := 26) rfl))) (by decide) (backOf (W := 0) (rmMax_01 l Z a0 hw [] q A B kA kB t2 t1 t0 (FP.i2d j2) (FP.i2d j1) (FP.i2d j0) T385.heap n0 (Nat.le_trans Z0 K385.1) f402 f1_385 f2_385 f3_385 f4_385 f5_385 f6_385 naA naB nAB g_q gA gB) hZ (hw _ (List.mem_of_getElem? (i := 28) rfl)) (hw _ (List.mem_of_getElem? (i := 2) rfl)) (by decide) (by decide)) qa404 qc404 (g := (mkF m 196 #[.val (.int p1), .val (.int p2), .val (.int p3), .val (.int t2), .val (.int t1), .val (.int t0), .val (.int j0), .val (.int j1), .val (.int j2), .val (.double (FP.i2d j0)), .second, .val (.double (FP.i2d j1)), .second, .val (.double (FP.i2d j2)), .second, .val (.ref q), .val (.int (1 : Int32)), .val (.int (1 : Int32)), .val (.int (1 : Int32)), .unset] [(.ref q)])) rfl (by rw [hml]; rfl) (Steps.refl _) (argsL := []) (rest := []) (lenOf own_pd___D rfl) rfl (by show 2 * 0 + _ ≤ _; exact Nat.le_of_eq rfl) (Jvm.hb hby at_196) (fun _ _ => ⟨rfl, rfl, (by decide : 3 + 0 ≤ _), (by decide : 10 + 0 ≤ _)⟩)
      dsimp only [Pt.U, Pt.locs, Pt.cells, Pt.slots] at X404 l404 y404 z404 st404 hQ404
      subst l404 y404 z404
      obtain ⟨rfl, Nq404, eq404⟩ := hQ404
      have N404 := Fr.app N385 Nq404
      have pre405 : ∀ τ, Steps p.tables e below (T404.setTop (mkF m 199 #[.val (.int p1), .val (.int p2), .val (.int p3), .val (.int t2), .val (.int t1), .val (.int t0), .val (.int j0), .val (.int j1), .val (.int j2), .val (.double (FP.i2d j0)), .second, .val (.double (FP.i2d j1)), .second, .val (.double (FP.i2d j2)), .second, .val (.ref q), .val (.int (1 : Int32)), .val (.int (1 : Int32)), .val (.int (1 : Int32)), .unset] [(.double (FP.i2d j2))])) τ → Steps p.tables e below (s₁.setTop (entryFrame m #[(.int p1), (.int p2), (.int p3)] maxLocals)) τ := fun τ kt => pre403 τ ((st404).trans kt)
      have pre406 : ∀ τ, Steps p.tables e below (T404.setTop (mkF m 237 #[.val (.int p1), .val (.int p2), .val (.int p3), .val (.int t2), .val (.int t1), .val (.int t0), .val (.int j0), .val (.int j1), .val (.int j2), .val (.double (FP.i2d j0)), .second, .val (.double (FP.i2d j1)), .second, .val (.double (FP.i2d j2)), .second, .val (.ref q), .val (.int (1 : Int32)), .val (.int (1 : Int32)), .val (.int (1 : Int32)), .val (.int (1 : Int32))] [(.int (1 : Int32))])) τ → Steps p.tables e below (s₁.setTop (entryFrame m #[(.int p1), (.int p2), (.int p3)] maxLocals)) τ := fun τ kt => pre405 τ (by
        show Steps p.tables e below (T404.setTop (mkF m 199 #[.val (.int p1), .val (.int p2), .val (.int p3), .val (.int t2), .val (.int t1), .val (.int t0), .val (.int j0), .val (.int j1), .val (.int j2), .val (.double (FP.i2d j0)), .second, .val (.double (FP.i2d j1)), .second, .val (.double (FP.i2d j2)), .second, .val (.ref q), .val (.int (1 : Int32)), .val (.int (1 : Int32)), .val (.int (1 : Int32)), .unset] [(.double (FP.i2d j2))])) τ
        refine own_dload X404.here hx rfl (Jvm.hb hby at_199) rfl ?_
        show Steps p.tables e below (T404.setTop (mkF m 201 #[.val (.int p1), .val (.int p2), .val (.int p3), .val (.int t2), .val (.int t1), .val (.int t0), .val (.int j0), .val (.int j1), .val (.int j2), .val (.double (FP.i2d j0)), .second, .val (.double (FP.i2d j1)), .second, .val (.double (FP.i2d j2)), .second, .val (.ref q), .val (.int (1 : Int32)), .val (.int (1 : Int32)), .val (.int (1 : Int32)), .unset] [(.double (FP.i2d j2)), (.double (FP.i2d j2))])) τ
        refine own_dcmp X404.here hx rfl (Jvm.hb hby at_201) rfl ?_
        show Steps p.tables e below (T404.setTop (mkF m 202 #[.val (.int p1), .val (.int p2), .val (.int p3), .val (.int t2), .val (.int t1), .val (.int t0), .val (.int j0), .val (.int j1), .val (.int j2), .val (.double (FP.i2d j0)), .second, .val (.double (FP.i2d j1)), .second, .val (.double (FP.i2d j2)), .second, .val (.ref q), .val (.int (1 : Int32)), .val (.int (1 : Int32)), .val (.int (1 : Int32)), .unset] [(.int (cmpValue (FP.dcmp (FP.i2d j2) (FP.i2d j2)) .l))])) τ
        refine XS.ifNo X404.here hx rfl (Jvm.hb hby at_202) rfl ((if0 _ _).trans (teq (own_eq (by first | rfl | (simp only [own_max_int]; omega)) _)).2) ?_
        show Steps p.tables e below (T404.setTop (mkF m 205 #[.val (.int p1), .val (.int p2), .val (.int p3), .val (.int t2), .val (.int t1), .val (.int t0), .val (.int j0), .val (.int j1), .val (.int j2), .val (.double (FP.i2d j0)), .second, .val (.double (FP.i2d j1)), .second, .val (.double (FP.i2d j2)), .second, .val (.ref q), .val (.int (1 : Int32)), .val (.int (1 : Int32)), .val (.int (1 : Int32)), .unset] [])) τ
        refine XS.iconst X404.here hx rfl (Jvm.hb hby at_205) ?_
        show Steps p.tables e below (T404.setTop (mkF m 206 #[.val (.int p1), .val (.int p2), .val (.int p3), .val (.int t2), .val (.int t1), .val (.int t0), .val (.int j0), .val (.int j1), .val (.int j2), .val (.double (FP.i2d j0)), .second, .val (.double (FP.i2d j1)), .second, .val (.double (FP.i2d j2)), .second, .val (.ref q), .val (.int (1 : Int32)), .val (.int (1 : Int32)), .val (.int (1 : Int32)), .unset] [(.int (1 : Int32))])) τ
        refine XS.goto X404.here hx rfl (pc0 := 206) (pc' := 210) rfl (Jvm.hb hby at_206) (by decide) (by decide) ?_
        show Steps p.tables e below (T404.setTop (mkF m 210 #[.val (.int p1), .val (.int p2), .val (.int p3), .val (.int t2), .val (.int t1), .val (.int t0), .val (.int j0), .val (.int j1), .val (.int j2), .val (.double (FP.i2d j0)), .second, .val (.double (FP.i2d j1)), .second, .val (.double (FP.i2d j2)), .second, .val (.ref q), .val (.int (1 : Int32)), .val (.int (1 : Int32)), .val (.int (1 : Int32)), .unset] [(.int (1 : Int32))])) τ
        refine XS.istore X404.here hx rfl (Jvm.hb hby at_210) rfl (l' := #[.val (.int p1), .val (.int p2), .val (.int p3), .val (.int t2), .val (.int t1), .val (.int t0), .val (.int j0), .val (.int j1), .val (.int j2), .val (.double (FP.i2d j0)), .second, .val (.double (FP.i2d j1)), .second, .val (.double (FP.i2d j2)), .second, .val (.ref q), .val (.int (1 : Int32)), .val (.int (1 : Int32)), .val (.int (1 : Int32)), .val (.int (1 : Int32))]) rfl ?_
        show Steps p.tables e below (T404.setTop (mkF m 212 #[.val (.int p1), .val (.int p2), .val (.int p3), .val (.int t2), .val (.int t1), .val (.int t0), .val (.int j0), .val (.int j1), .val (.int j2), .val (.double (FP.i2d j0)), .second, .val (.double (FP.i2d j1)), .second, .val (.double (FP.i2d j2)), .second, .val (.ref q), .val (.int (1 : Int32)), .val (.int (1 : Int32)), .val (.int (1 : Int32)), .val (.int (1 : Int32))] [])) τ
        refine XS.iload X404.here hx rfl (Jvm.hb hby at_212) rfl ?_
        show Steps p.tables e below (T404.setTop (mkF m 214 #[.val (.int p1), .val (.int p2), .val (.int p3), .val (.int t2), .val (.int t1), .val (.int t0), .val (.int j0), .val (.int j1), .val (.int j2), .val (.double (FP.i2d j0)), .second, .val (.double (FP.i2d j1)), .second, .val (.double (FP.i2d j2)), .second, .val (.ref q), .val (.int (1 : Int32)), .val (.int (1 : Int32)), .val (.int (1 : Int32)), .val (.int (1 : Int32))] [(.int (1 : Int32))])) τ
        refine XS.ifNo X404.here hx rfl (Jvm.hb hby at_214) rfl ((if0 _ _).trans (feq (by decide)).1) ?_
        show Steps p.tables e below (T404.setTop (mkF m 217 #[.val (.int p1), .val (.int p2), .val (.int p3), .val (.int t2), .val (.int t1), .val (.int t0), .val (.int j0), .val (.int j1), .val (.int j2), .val (.double (FP.i2d j0)), .second, .val (.double (FP.i2d j1)), .second, .val (.double (FP.i2d j2)), .second, .val (.ref q), .val (.int (1 : Int32)), .val (.int (1 : Int32)), .val (.int (1 : Int32)), .val (.int (1 : Int32))] [])) τ
        refine XS.iload X404.here hx rfl (Jvm.hb hby at_217) rfl ?_
        show Steps p.tables e below (T404.setTop (mkF m 219 #[.val (.int p1), .val (.int p2), .val (.int p3), .val (.int t2), .val (.int t1), .val (.int t0), .val (.int j0), .val (.int j1), .val (.int j2), .val (.double (FP.i2d j0)), .second, .val (.double (FP.i2d j1)), .second, .val (.double (FP.i2d j2)), .second, .val (.ref q), .val (.int (1 : Int32)), .val (.int (1 : Int32)), .val (.int (1 : Int32)), .val (.int (1 : Int32))] [(.int (1 : Int32))])) τ
        refine XS.ifNo X404.here hx rfl (Jvm.hb hby at_219) rfl ((if0 _ _).trans (feq (by decide)).1) ?_
        show Steps p.tables e below (T404.setTop (mkF m 222 #[.val (.int p1), .val (.int p2), .val (.int p3), .val (.int t2), .val (.int t1), .val (.int t0), .val (.int j0), .val (.int j1), .val (.int j2), .val (.double (FP.i2d j0)), .second, .val (.double (FP.i2d j1)), .second, .val (.double (FP.i2d j2)), .second, .val (.ref q), .val (.int (1 : Int32)), .val (.int (1 : Int32)), .val (.int (1 : Int32)), .val (.int (1 : Int32))] [])) τ
        refine XS.iload X404.here hx rfl (Jvm.hb hby at_222) rfl ?_
        show Steps p.tables e below (T404.setTop (mkF m 224 #[.val (.int p1), .val (.int p2), .val (.int p3), .val (.int t2), .val (.int t1), .val (.int t0), .val (.int j0), .val (.int j1), .val (.int j2), .val (.double (FP.i2d j0)), .second, .val (.double (FP.i2d j1)), .second, .val (.double (FP.i2d j2)), .second, .val (.ref q), .val (.int (1 : Int32)), .val (.int (1 : Int32)), .val (.int (1 : Int32)), .val (.int (1 : Int32))] [(.int (1 : Int32))])) τ
        refine XS.ifNo X404.here hx rfl (Jvm.hb hby at_224) rfl ((if0 _ _).trans (feq (by decide)).1) ?_
        show Steps p.tables e below (T404.setTop (mkF m 227 #[.val (.int p1), .val (.int p2), .val (.int p3), .val (.int t2), .val (.int t1), .val (.int t0), .val (.int j0), .val (.int j1), .val (.int j2), .val (.double (FP.i2d j0)), .second, .val (.double (FP.i2d j1)), .second, .val (.double (FP.i2d j2)), .second, .val (.ref q), .val (.int (1 : Int32)), .val (.int (1 : Int32)), .val (.int (1 : Int32)), .val (.int (1 : Int32))] [])) τ
        refine XS.iload X404.here hx rfl (Jvm.hb hby at_227) rfl ?_
        show Steps p.tables e below (T404.setTop (mkF m 229 #[.val (.int p1), .val (.int p2), .val (.int p3), .val (.int t2), .val (.int t1), .val (.int t0), .val (.int j0), .val (.int j1), .val (.int j2), .val (.double (FP.i2d j0)), .second, .val (.double (FP.i2d j1)), .second, .val (.double (FP.i2d j2)), .second, .val (.ref q), .val (.int (1 : Int32)), .val (.int (1 : Int32)), .val (.int (1 : Int32)), .val (.int (1 : Int32))] [(.int (1 : Int32))])) τ
        refine XS.ifNo X404.here hx rfl (Jvm.hb hby at_229) rfl ((if0 _ _).trans (feq (by decide)).1) ?_
        show Steps p.tables e below (T404.setTop (mkF m 232 #[.val (.int p1), .val (.int p2), .val (.int p3), .val (.int t2), .val (.int t1), .val (.int t0), .val (.int j0), .val (.int j1), .val (.int j2), .val (.double (FP.i2d j0)), .second, .val (.double (FP.i2d j1)), .second, .val (.double (FP.i2d j2)), .second, .val (.ref q), .val (.int (1 : Int32)), .val (.int (1 : Int32)), .val (.int (1 : Int32)), .val (.int (1 : Int32))] [])) τ
        refine XS.iconst X404.here hx rfl (Jvm.hb hby at_232) ?_
        show Steps p.tables e below (T404.setTop (mkF m 233 #[.val (.int p1), .val (.int p2), .val (.int p3), .val (.int t2), .val (.int t1), .val (.int t0), .val (.int j0), .val (.int j1), .val (.int j2), .val (.double (FP.i2d j0)), .second, .val (.double (FP.i2d j1)), .second, .val (.double (FP.i2d j2)), .second, .val (.ref q), .val (.int (1 : Int32)), .val (.int (1 : Int32)), .val (.int (1 : Int32)), .val (.int (1 : Int32))] [(.int (1 : Int32))])) τ
        refine XS.goto X404.here hx rfl (pc0 := 233) (pc' := 237) rfl (Jvm.hb hby at_233) (by decide) (by decide) ?_
        exact kt)
      obtain ⟨fs, hrL, hrun, hended, hW, hsame⟩ := X404.leave (v := some (.int (1 : Int32))) (fun h => by rw [Bd.returns] at h; cases h)
      refine ⟨_, _, pre406 _ ?_, hrun, hended, _, _, rfl, ?_, ⟨_, rfl⟩, hW, hsame.mono (by decide) (by decide)⟩
      · show Steps p.tables e below (T404.setTop (mkF m 237 #[.val (.int p1), .val (.int p2), .val (.int p3), .val (.int t2), .val (.int t1), .val (.int t0), .val (.int j0), .val (.int j1), .val (.int j2), .val (.double (FP.i2d j0)), .second, .val (.double (FP.i2d j1)), .second, .val (.double (FP.i2d j2)), .second, .val (.ref q), .val (.int (1 : Int32)), .val (.int (1 : Int32)), .val (.int (1 : Int32)), .val (.int (1 : Int32))] [(.int (1 : Int32))])) _
        exact retN X404 hx (t := .boolean) Bd.returns (by simp) (Jvm.hb hby at_237) hrL
      · show Q0 n0 _ T404.heap _
        exact ⟨rfl, N404⟩
    · skip
      by_cases qa407 : j2.toInt < j0.toInt
      · skip
        have f487 := f134.keep Kq194
        obtain ⟨cq488, kq488, qa488, qb488, qc488⟩ := isOf hZ rfl f487
        obtain ⟨_, _, ⟨T488, L488, k488, n488⟩, -, X488, ⟨Lc488, hQ488, l488, y488, z488⟩, st488⟩ := X194.virtualBack hx (y := (⟨"com/example/counterpath/counterpath/core/CappedMaximum", "addFirst", "(ID)V"⟩ : MethodName)) (z := (⟨"com/example/counterpath/counterpath/core/CappedMaximum", "addFirst", "(ID)V"⟩ : MethodName)) hown (mvT hZ (hw _ (List.mem_of_getElem? (i := 19) rfl))) (mvT hZ (hw _ (List.mem_of_getElem? (i := 20) rfl))) (notFace_of_selects (args := #[]) (mvT hZ (hw _ (List.mem_of_getElem? (i := 22) rfl)))) (mvT hZ (hw _ (List.mem_of_getElem? (i := 22) rfl))) (mvT hZ (hw _ (List.mem_of_getElem? (i := 21) rfl))) (by decide) (backOf (W := 0) (rmAdd_13_cx l Z a0 hw [] q t2 (FP.i2d j2) A B kA kB (0 : Int32) t1 t0 (0 : UInt64) (FP.i2d j1) (FP.i2d j0) T194.heap n0 (Nat.le_trans Z0 K194.1) f487 f1_194 f2_194 f3_194 f4_194 f5_194 f6_194 naA naB nAB g_q gA gB (fun z => qa197 ((own_gt _ _ _).mp z)) ((own_gt _ _ _).mpr qa407)) hZ (hw _ (List.mem_of_getElem? (i := 23) rfl)) (hw _ (List.mem_of_getElem? (i := 2) rfl)) (by decide) (by decide)) qa488 qc488 (g := (mkF m 125 #[.val (.int p1), .val (.int p2), .val (.int p3), .val (.int t2), .val (.int t1), .val (.int t0), .val (.int j0), .val (.int j1), .val (.int j2), .val (.double (FP.i2d j0)), .second, .val (.double (FP.i2d j1)), .second, .val (.double (FP.i2d j2)), .second, .val (.ref q), .val (.int (1 : Int32)), .unset, .unset, .unset] [(.double (FP.i2d j2)), (.int t2), (.ref q)])) rfl (by rw [hml]; rfl) (Steps.refl _) (argsL := [(.int t2), (.double (FP.i2d j2))]) (rest := []) (lenOf own_pd__ID_V rfl) rfl (by show 2 * 0 + _ ≤ _; exact Nat.le_of_eq rfl) (Jvm.hb hby at_125) (fun _ _ => ⟨rfl, rfl, (by decide : 3 + 0 ≤ _), (by decide : 10 + 0 ≤ _)⟩)
        dsimp only [Pt.U, Pt.locs, Pt.cells, Pt.slots] at X488 l488 y488 z488 st488 hQ488
        subst l488 y488 z488
        obtain ⟨rfl, Nq488, Kq488, f1_488, f2_488, f3_488, f4_488, f5_488, f6_488⟩ := hQ488
        have N488 := Fr.app N194 Nq488
        have K488 : Keep h0 T488.heap [] := K194.trans Kq488 (allS (Or.inr sz_q) (allS (Or.inr sz_A) (allS (Or.inr sz_B) (all0))))
        have pre489 : ∀ τ, Steps p.tables e below (T488.setTop (mkF m 128 #[.val (.int p1), .val (.int p2), .val (.int p3), .val (.int t2), .val (.int t1), .val (.int t0), .val (.int j0), .val (.int j1), .val (.int j2), .val (.double (FP.i2d j0)), .second, .val (.double (FP.i2d j1)), .second, .val (.double (FP.i2d j2)), .second, .val (.ref q), .val (.int (1 : Int32)), .unset, .unset, .unset] [])) τ → Steps p.tables e below (s₁.setTop (entryFrame m #[(.int p1), (.int p2), (.int p3)] maxLocals)) τ := fun τ kt => pre196 τ ((st488).trans kt)
        have f505 := f487.keep Kq488
        have pre506 : ∀ τ, Steps p.tables e below (T488.setTop (mkF m 130 #[.val (.int p1), .val (.int p2), .val (.int p3), .val (.int t2), .val (.int t1), .val (.int t0), .val (.int j0), .val (.int j1), .val (.int j2), .val (.double (FP.i2d j0)), .second, .val (.double (FP.i2d j1)), .second, .val (.double (FP.i2d j2)), .second, .val (.ref q), .val (.int (1 : Int32)), .unset, .unset, .unset] [(.ref q)])) τ → Steps p.tables e below (s₁.setTop (entryFrame m #[(.int p1), (.int p2), (.int p3)] maxLocals)) τ := fun τ kt => pre489 τ (by
          show Steps p.tables e below (T488.setTop (mkF m 128 #[.val (.int p1), .val (.int p2), .val (.int p3), .val (.int t2), .val (.int t1), .val (.int t0), .val (.int j0), .val (.int j1), .val (.int j2), .val (.double (FP.i2d j0)), .second, .val (.double (FP.i2d j1)), .second, .val (.double (FP.i2d j2)), .second, .val (.ref q), .val (.int (1 : Int32)), .unset, .unset, .unset] [])) τ
          refine XS.aload X488.here hx rfl (Jvm.hb hby at_128) rfl rfl ?_
          exact kt)
        obtain ⟨cq507, kq507, qa507, qb507, qc507⟩ := isOf hZ rfl f505
        obtain ⟨_, _, ⟨T507, L507, k507, n507⟩, -, X507, ⟨Lc507, hQ507, l507, y507, z507⟩, st507⟩ := X488.virtualBack hx (y := (⟨"com/example/counterpath/counterpath/core/CappedMaximum", "maximum", "()D"⟩ : MethodName)) (z := (⟨"com/example/counterpath/counterpath/core/CappedMaximum", "maximum", "()D"⟩ : MethodName)) hown (mvT hZ (hw _ (List.mem_of_getElem? (i := 24) rfl))) (mvT hZ (hw _ (List.mem_of_getElem? (i := 25) rfl))) (notFace_of_selects (args := #[]) (mvT hZ (hw _ (List.mem_of_getElem? (i := 27) rfl)))) (mvT hZ (hw _ (List.mem_of_getElem? (i := 27) rfl))) (mvT hZ (hw _ (List.mem_of_getElem? (i := 26) rfl))) (by decide) (backOf (W := 0) (rmMax_13 l Z a0 hw [] q A B kA kB (0 : Int32) t2 t0 (0 : UInt64) (FP.i2d j2) (FP.i2d j0) T488.heap n0 (Nat.le_trans Z0 K488.1) f505 f1_488 f2_488 f3_488 f4_488 f5_488 f6_488 naA naB nAB g_q gA gB) hZ (hw _ (List.mem_of_getElem? (i := 28) rfl)) (hw _ (List.mem_of_getElem? (i := 2) rfl)) (by decide) (by decide)) qa507 qc507 (g := (mkF m 130 #[.val (.int p1), .val (.int p2), .val (.int p3), .val (.int t2), .val (.int t1), .val (.int t0), .val (.int j0), .val (.int j1), .val (.int j2), .val (.double (FP.i2d j0)), .second, .val (.double (FP.i2d j1)), .second, .val (.double (FP.i2d j2)), .second, .val (.ref q), .val (.int (1 : Int32)), .unset, .unset, .unset] [(.ref q)])) rfl (by rw [hml]; rfl) (Steps.refl _) (argsL := []) (rest := []) (lenOf own_pd___D rfl) rfl (by show 2 * 0 + _ ≤ _; exact Nat.le_of_eq rfl) (Jvm.hb hby at_130) (fun _ _ => ⟨rfl, rfl, (by decide : 3 + 0 ≤ _), (by decide : 10 + 0 ≤ _)⟩)
        dsimp only [Pt.U, Pt.locs, Pt.cells, Pt.slots] at X507 l507 y507 z507 st507 hQ507
        subst l507 y507 z507
        obtain ⟨rfl, Nq507, eq507⟩ := hQ507
        have N507 := Fr.app N488 Nq507
        have pre508 : ∀ τ, Steps p.tables e below (T507.setTop (mkF m 133 #[.val (.int p1), .val (.int p2), .val (.int p3), .val (.int t2), .val (.int t1), .val (.int t0), .val (.int j0), .val (.int j1), .val (.int j2), .val (.double (FP.i2d j0)), .second, .val (.double (FP.i2d j1)), .second, .val (.double (FP.i2d j2)), .second, .val (.ref q), .val (.int (1 : Int32)), .unset, .unset, .unset] [(.double (FP.i2d j0))])) τ → Steps p.tables e below (s₁.setTop (entryFrame m #[(.int p1), (.int p2), (.int p3)] maxLocals)) τ := fun τ kt => pre506 τ ((st507).trans kt)
        have pre509 : ∀ τ, Steps p.tables e below (T507.setTop (mkF m 139 #[.val (.int p1), .val (.int p2), .val (.int p3), .val (.int t2), .val (.int t1), .val (.int t0), .val (.int j0), .val (.int j1), .val (.int j2), .val (.double (FP.i2d j0)), .second, .val (.double (FP.i2d j1)), .second, .val (.double (FP.i2d j2)), .second, .val (.ref q), .val (.int (1 : Int32)), .unset, .unset, .unset] [(.int j2), (.int j1), (.int j0), (.double (FP.i2d j0))])) τ → Steps p.tables e below (s₁.setTop (entryFrame m #[(.int p1), (.int p2), (.int p3)] maxLocals)) τ := fun τ kt => pre508 τ (by
          show Steps p.tables e below (T507.setTop (mkF m 133 #[.val (.int p1), .val (.int p2), .val (.int p3), .val (.int t2), .val (.int t1), .val (.int t0), .val (.int j0), .val (.int j1), .val (.int j2), .val (.double (FP.i2d j0)), .second, .val (.double (FP.i2d j1)), .second, .val (.double (FP.i2d j2)), .second, .val (.ref q), .val (.int (1 : Int32)), .unset, .unset, .unset] [(.double (FP.i2d j0))])) τ
          refine XS.iload X507.here hx rfl (Jvm.hb hby at_133) rfl ?_
          show Steps p.tables e below (T507.setTop (mkF m 135 #[.val (.int p1), .val (.int p2), .val (.int p3), .val (.int t2), .val (.int t1), .val (.int t0), .val (.int j0), .val (.int j1), .val (.int j2), .val (.double (FP.i2d j0)), .second, .val (.double (FP.i2d j1)), .second, .val (.double (FP.i2d j2)), .second, .val (.ref q), .val (.int (1 : Int32)), .unset, .unset, .unset] [(.int j0), (.double (FP.i2d j0))])) τ
          refine XS.iload X507.here hx rfl (Jvm.hb hby at_135) rfl ?_
          show Steps p.tables e below (T507.setTop (mkF m 137 #[.val (.int p1), .val (.int p2), .val (.int p3), .val (.int t2), .val (.int t1), .val (.int t0), .val (.int j0), .val (.int j1), .val (.int j2), .val (.double (FP.i2d j0)), .second, .val (.double (FP.i2d j1)), .second, .val (.double (FP.i2d j2)), .second, .val (.ref q), .val (.int (1 : Int32)), .unset, .unset, .unset] [(.int j1), (.int j0), (.double (FP.i2d j0))])) τ
          refine XS.iload X507.here hx rfl (Jvm.hb hby at_137) rfl ?_
          exact kt)
        obtain ⟨_, _, ⟨T510, L510, k510, n510⟩, -, X510, ⟨Lc510, hQ510, l510, y510, z510⟩, st510⟩ := Jvm.LawKit.callS X507 hx (y := (⟨"java/lang/Math", "max", "(II)I"⟩ : MethodName)) hown (mvT hZ (hw _ (List.mem_of_getElem? (i := 29) rfl))) (mvT hZ (hw _ (List.mem_of_getElem? (i := 30) rfl))) (mvT hZ (hw _ (List.mem_of_getElem? (i := 31) rfl))) (mvT hZ (hw _ (List.mem_of_getElem? (i := 32) rfl))) (by decide) (backOf (W := 3) (rmM l Z a0 hw [] j1 j2 T488.heap n0 (Nat.le_trans Z0 K488.1)) hZ (hw _ (List.mem_of_getElem? (i := 32) rfl)) (hw _ (List.mem_of_getElem? (i := 31) rfl)) (by decide) (by decide)) (g := (mkF m 139 #[.val (.int p1), .val (.int p2), .val (.int p3), .val (.int t2), .val (.int t1), .val (.int t0), .val (.int j0), .val (.int j1), .val (.int j2), .val (.double (FP.i2d j0)), .second, .val (.double (FP.i2d j1)), .second, .val (.double (FP.i2d j2)), .second, .val (.ref q), .val (.int (1 : Int32)), .unset, .unset, .unset] [(.int j2), (.int j1), (.int j0), (.double (FP.i2d j0))])) rfl (by rw [hml]; rfl) (argsL := [(.int j1), (.int j2)]) (rest := [(.int j0), (.double (FP.i2d j0))]) (lenOf own_pd__II_I rfl) rfl (by show 2 * 0 + _ ≤ _; exact Nat.le_of_eq rfl) (Jvm.hb hby at_139) (fun _ _ => ⟨rfl, eq507, (by decide : 3 + 0 ≤ _), (by decide : 10 + 0 ≤ _)⟩)
        dsimp only [Pt.U, Pt.locs, Pt.cells, Pt.slots] at X510 l510 y510 z510 st510 hQ510
        subst l510 y510 z510
        obtain ⟨rfl, Nq510, eq510⟩ := hQ510
        have N510 := Fr.app N507 Nq510
        have pre511 : ∀ τ, Steps p.tables e below (T510.setTop (mkF m 142 #[.val (.int p1), .val (.int p2), .val (.int p3), .val (.int t2), .val (.int t1), .val (.int t0), .val (.int j0), .val (.int j1), .val (.int j2), .val (.double (FP.i2d j0)), .second, .val (.double (FP.i2d j1)), .second, .val (.double (FP.i2d j2)), .second, .val (.ref q), .val (.int (1 : Int32)), .unset, .unset, .unset] [(.int (own_max j1 j2)), (.int j0), (.double (FP.i2d j0))])) τ → Steps p.tables e below (s₁.setTop (entryFrame m #[(.int p1), (.int p2), (.int p3)] maxLocals)) τ := fun τ kt => pre509 τ (st510 τ kt)
        obtain ⟨_, _, ⟨T512, L512, k512, n512⟩, -, X512, ⟨Lc512, hQ512, l512, y512, z512⟩, st512⟩ := Jvm.LawKit.callS X510 hx (y := (⟨"java/lang/Math", "max", "(II)I"⟩ : MethodName)) hown (mvT hZ (hw _ (List.mem_of_getElem? (i := 29) rfl))) (mvT hZ (hw _ (List.mem_of_getElem? (i := 30) rfl))) (mvT hZ (hw _ (List.mem_of_getElem? (i := 31) rfl))) (mvT hZ (hw _ (List.mem_of_getElem? (i := 32) rfl))) (by decide) (backOf (W := 2) (rmM l Z a0 hw [] j0 (own_max j1 j2) T488.heap n0 (Nat.le_trans Z0 K488.1)) hZ (hw _ (List.mem_of_getElem? (i := 32) rfl)) (hw _ (List.mem_of_getElem? (i := 31) rfl)) (by decide) (by decide)) (g := (mkF m 142 #[.val (.int p1), .val (.int p2), .val (.int p3), .val (.int t2), .val (.int t1), .val (.int t0), .val (.int j0), .val (.int j1), .val (.int j2), .val (.double (FP.i2d j0)), .second, .val (.double (FP.i2d j1)), .second, .val (.double (FP.i2d j2)), .second, .val (.ref q), .val (.int (1 : Int32)), .unset, .unset, .unset] [(.int (own_max j1 j2)), (.int j0), (.double (FP.i2d j0))])) rfl (by rw [hml]; rfl) (argsL := [(.int j0), (.int (own_max j1 j2))]) (rest := [(.double (FP.i2d j0))]) (lenOf own_pd__II_I rfl) rfl (by show 2 * 0 + _ ≤ _; exact Nat.le_of_eq rfl) (Jvm.hb hby at_142) (fun _ _ => ⟨rfl, eq510, (by decide : 3 + 0 ≤ _), (by decide : 10 + 0 ≤ _)⟩)
        dsimp only [Pt.U, Pt.locs, Pt.cells, Pt.slots] at X512 l512 y512 z512 st512 hQ512
        subst l512 y512 z512
        obtain ⟨rfl, Nq512, eq512⟩ := hQ512
        have N512 := Fr.app N510 Nq512
        have pre513 : ∀ τ, Steps p.tables e below (T512.setTop (mkF m 145 #[.val (.int p1), .val (.int p2), .val (.int p3), .val (.int t2), .val (.int t1), .val (.int t0), .val (.int j0), .val (.int j1), .val (.int j2), .val (.double (FP.i2d j0)), .second, .val (.double (FP.i2d j1)), .second, .val (.double (FP.i2d j2)), .second, .val (.ref q), .val (.int (1 : Int32)), .unset, .unset, .unset] [(.int (own_max j0 (own_max j1 j2))), (.double (FP.i2d j0))])) τ → Steps p.tables e below (s₁.setTop (entryFrame m #[(.int p1), (.int p2), (.int p3)] maxLocals)) τ := fun τ kt => pre511 τ (st512 τ kt)
        have pre554 : ∀ τ, Steps p.tables e below (T512.setTop (mkF m 161 #[.val (.int p1), .val (.int p2), .val (.int p3), .val (.int t2), .val (.int t1), .val (.int t0), .val (.int j0), .val (.int j1), .val (.int j2), .val (.double (FP.i2d j0)), .second, .val (.double (FP.i2d j1)), .second, .val (.double (FP.i2d j2)), .second, .val (.ref q), .val (.int (1 : Int32)), .val (.int (1 : Int32)), .unset, .unset] [(.int t1), (.ref q)])) τ → Steps p.tables e below (s₁.setTop (entryFrame m #[(.int p1), (.int p2), (.int p3)] maxLocals)) τ := fun τ kt => pre513 τ (by
          show Steps p.tables e below (T512.setTop (mkF m 145 #[.val (.int p1), .val (.int p2), .val (.int p3), .val (.int t2), .val (.int t1), .val (.int t0), .val (.int j0), .val (.int j1), .val (.int j2), .val (.double (FP.i2d j0)), .second, .val (.double (FP.i2d j1)), .second, .val (.double (FP.i2d j2)), .second, .val (.ref q), .val (.int (1 : Int32)), .unset, .unset, .unset] [(.int (own_max j0 (own_max j1 j2))), (.double (FP.i2d j0))])) τ
          refine own_i2d X512.here hx rfl (Jvm.hb hby at_145) rfl ?_
          show Steps p.tables e below (T512.setTop (mkF m 146 #[.val (.int p1), .val (.int p2), .val (.int p3), .val (.int t2), .val (.int t1), .val (.int t0), .val (.int j0), .val (.int j1), .val (.int j2), .val (.double (FP.i2d j0)), .second, .val (.double (FP.i2d j1)), .second, .val (.double (FP.i2d j2)), .second, .val (.ref q), .val (.int (1 : Int32)), .unset, .unset, .unset] [(.double (FP.i2d (own_max j0 (own_max j1 j2)))), (.double (FP.i2d j0))])) τ
          refine own_dcmp X512.here hx rfl (Jvm.hb hby at_146) rfl ?_
          show Steps p.tables e below (T512.setTop (mkF m 147 #[.val (.int p1), .val (.int p2), .val (.int p3), .val (.int t2), .val (.int t1), .val (.int t0), .val (.int j0), .val (.int j1), .val (.int j2), .val (.double (FP.i2d j0)), .second, .val (.double (FP.i2d j1)), .second, .val (.double (FP.i2d j2)), .second, .val (.ref q), .val (.int (1 : Int32)), .unset, .unset, .unset] [(.int (cmpValue (FP.dcmp (FP.i2d j0) (FP.i2d (own_max j0 (own_max j1 j2)))) .l))])) τ
          refine XS.ifNo X512.here hx rfl (Jvm.hb hby at_147) rfl ((if0 _ _).trans (teq (own_eq (by first | rfl | (simp only [own_max_int]; omega)) _)).2) ?_
          show Steps p.tables e below (T512.setTop (mkF m 150 #[.val (.int p1), .val (.int p2), .val (.int p3), .val (.int t2), .val (.int t1), .val (.int t0), .val (.int j0), .val (.int j1), .val (.int j2), .val (.double (FP.i2d j0)), .second, .val (.double (FP.i2d j1)), .second, .val (.double (FP.i2d j2)), .second, .val (.ref q), .val (.int (1 : Int32)), .unset, .unset, .unset] [])) τ
          refine XS.iconst X512.here hx rfl (Jvm.hb hby at_150) ?_
          show Steps p.tables e below (T512.setTop (mkF m 151 #[.val (.int p1), .val (.int p2), .val (.int p3), .val (.int t2), .val (.int t1), .val (.int t0), .val (.int j0), .val (.int j1), .val (.int j2), .val (.double (FP.i2d j0)), .second, .val (.double (FP.i2d j1)), .second, .val (.double (FP.i2d j2)), .second, .val (.ref q), .val (.int (1 : Int32)), .unset, .unset, .unset] [(.int (1 : Int32))])) τ
          refine XS.goto X512.here hx rfl (pc0 := 151) (pc' := 155) rfl (Jvm.hb hby at_151) (by decide) (by decide) ?_
          show Steps p.tables e below (T512.setTop (mkF m 155 #[.val (.int p1), .val (.int p2), .val (.int p3), .val (.int t2), .val (.int t1), .val (.int t0), .val (.int j0), .val (.int j1), .val (.int j2), .val (.double (FP.i2d j0)), .second, .val (.double (FP.i2d j1)), .second, .val (.double (FP.i2d j2)), .second, .val (.ref q), .val (.int (1 : Int32)), .unset, .unset, .unset] [(.int (1 : Int32))])) τ
          refine XS.istore X512.here hx rfl (Jvm.hb hby at_155) rfl (l' := #[.val (.int p1), .val (.int p2), .val (.int p3), .val (.int t2), .val (.int t1), .val (.int t0), .val (.int j0), .val (.int j1), .val (.int j2), .val (.double (FP.i2d j0)), .second, .val (.double (FP.i2d j1)), .second, .val (.double (FP.i2d j2)), .second, .val (.ref q), .val (.int (1 : Int32)), .val (.int (1 : Int32)), .unset, .unset]) rfl ?_
          show Steps p.tables e below (T512.setTop (mkF m 157 #[.val (.int p1), .val (.int p2), .val (.int p3), .val (.int t2), .val (.int t1), .val (.int t0), .val (.int j0), .val (.int j1), .val (.int j2), .val (.double (FP.i2d j0)), .second, .val (.double (FP.i2d j1)), .second, .val (.double (FP.i2d j2)), .second, .val (.ref q), .val (.int (1 : Int32)), .val (.int (1 : Int32)), .unset, .unset] [])) τ
          refine XS.aload X512.here hx rfl (Jvm.hb hby at_157) rfl rfl ?_
          show Steps p.tables e below (T512.setTop (mkF m 159 #[.val (.int p1), .val (.int p2), .val (.int p3), .val (.int t2), .val (.int t1), .val (.int t0), .val (.int j0), .val (.int j1), .val (.int j2), .val (.double (FP.i2d j0)), .second, .val (.double (FP.i2d j1)), .second, .val (.double (FP.i2d j2)), .second, .val (.ref q), .val (.int (1 : Int32)), .val (.int (1 : Int32)), .unset, .unset] [(.ref q)])) τ
          refine XS.iload X512.here hx rfl (Jvm.hb hby at_159) rfl ?_
          exact kt)
        obtain ⟨cq555, kq555, qa555, qb555, qc555⟩ := isOf hZ eq512 f505
        obtain ⟨_, _, ⟨T555, L555, k555, n555⟩, -, X555, ⟨Lc555, hQ555, l555, y555, z555⟩, st555⟩ := X512.virtualBack hx (y := (⟨"com/example/counterpath/counterpath/core/CappedMaximum", "removeAfter", "(I)V"⟩ : MethodName)) (z := (⟨"com/example/counterpath/counterpath/core/CappedMaximum", "removeAfter", "(I)V"⟩ : MethodName)) hown (mvT hZ (hw _ (List.mem_of_getElem? (i := 33) rfl))) (mvT hZ (hw _ (List.mem_of_getElem? (i := 34) rfl))) (notFace_of_selects (args := #[]) (mvT hZ (hw _ (List.mem_of_getElem? (i := 36) rfl)))) (mvT hZ (hw _ (List.mem_of_getElem? (i := 36) rfl))) (mvT hZ (hw _ (List.mem_of_getElem? (i := 35) rfl))) (by decide) (backOf (W := 0) (rmRem_13_cx l Z a0 hw [] q t1 A B kA kB (0 : Int32) t2 t0 (0 : UInt64) (FP.i2d j2) (FP.i2d j0) T488.heap n0 (Nat.le_trans Z0 K488.1) f505 f1_488 f2_488 f3_488 f4_488 f5_488 f6_488 naA naB nAB g_q gA gB (l10) (fun z => Int32.lt_asymm z l21)) hZ (hw _ (List.mem_of_getElem? (i := 37) rfl)) (hw _ (List.mem_of_getElem? (i := 2) rfl)) (by decide) (by decide)) qa555 qc555 (g := (mkF m 161 #[.val (.int p1), .val (.int p2), .val (.int p3), .val (.int t2), .val (.int t1), .val (.int t0), .val (.int j0), .val (.int j1), .val (.int j2), .val (.double (FP.i2d j0)), .second, .val (.double (FP.i2d j1)), .second, .val (.double (FP.i2d j2)), .second, .val (.ref q), .val (.int (1 : Int32)), .val (.int (1 : Int32)), .unset, .unset] [(.int t1), (.ref q)])) rfl (by rw [hml]; rfl) (Steps.refl _) (argsL := [(.int t1)]) (rest := []) (lenOf own_pd__I_V rfl) rfl (by show 2 * 0 + _ ≤ _; exact Nat.le_of_eq rfl) (Jvm.hb hby at_161) (fun _ _ => ⟨rfl, eq512, (by decide : 3 + 0 ≤ _), (by decide : 10 + 0 ≤ _)⟩)
        dsimp only [Pt.U, Pt.locs, Pt.cells, Pt.slots] at X555 l555 y555 z555 st555 hQ555
        subst l555 y555 z555
        obtain ⟨rfl, Nq555, Kq555, f1_555, f2_555, f3_555, f4_555, f5_555, f6_555⟩ := hQ555
        have N555 := Fr.app N512 Nq555
        have K555 : Keep h0 T555.heap [] := K488.trans Kq555 (allS (Or.inr sz_q) (allS (Or.inr sz_A) (allS (Or.inr sz_B) (all0))))
        have pre556 : ∀ τ, Steps p.tables e below (T555.setTop (mkF m 164 #[.val (.int p1), .val (.int p2), .val (.int p3), .val (.int t2), .val (.int t1), .val (.int t0), .val (.int j0), .val (.int j1), .val (.int j2), .val (.double (FP.i2d j0)), .second, .val (.double (FP.i2d j1)), .second, .val (.double (FP.i2d j2)), .second, .val (.ref q), .val (.int (1 : Int32)), .val (.int (1 : Int32)), .unset, .unset] [])) τ → Steps p.tables e below (s₁.setTop (entryFrame m #[(.int p1), (.int p2), (.int p3)] maxLocals)) τ := fun τ kt => pre554 τ ((st555).trans kt)
        have f572 := f505.keep Kq555
        have pre573 : ∀ τ, Steps p.tables e below (T555.setTop (mkF m 166 #[.val (.int p1), .val (.int p2), .val (.int p3), .val (.int t2), .val (.int t1), .val (.int t0), .val (.int j0), .val (.int j1), .val (.int j2), .val (.double (FP.i2d j0)), .second, .val (.double (FP.i2d j1)), .second, .val (.double (FP.i2d j2)), .second, .val (.ref q), .val (.int (1 : Int32)), .val (.int (1 : Int32)), .unset, .unset] [(.ref q)])) τ → Steps p.tables e below (s₁.setTop (entryFrame m #[(.int p1), (.int p2), (.int p3)] maxLocals)) τ := fun τ kt => pre556 τ (by
          show Steps p.tables e below (T555.setTop (mkF m 164 #[.val (.int p1), .val (.int p2), .val (.int p3), .val (.int t2), .val (.int t1), .val (.int t0), .val (.int j0), .val (.int j1), .val (.int j2), .val (.double (FP.i2d j0)), .second, .val (.double (FP.i2d j1)), .second, .val (.double (FP.i2d j2)), .second, .val (.ref q), .val (.int (1 : Int32)), .val (.int (1 : Int32)), .unset, .unset] [])) τ
          refine XS.aload X555.here hx rfl (Jvm.hb hby at_164) rfl rfl ?_
          exact kt)
        obtain ⟨cq574, kq574, qa574, qb574, qc574⟩ := isOf hZ rfl f572
        obtain ⟨_, _, ⟨T574, L574, k574, n574⟩, -, X574, ⟨Lc574, hQ574, l574, y574, z574⟩, st574⟩ := X555.virtualBack hx (y := (⟨"com/example/counterpath/counterpath/core/CappedMaximum", "maximum", "()D"⟩ : MethodName)) (z := (⟨"com/example/counterpath/counterpath/core/CappedMaximum", "maximum", "()D"⟩ : MethodName)) hown (mvT hZ (hw _ (List.mem_of_getElem? (i := 24) rfl))) (mvT hZ (hw _ (List.mem_of_getElem? (i := 25) rfl))) (notFace_of_selects (args := #[]) (mvT hZ (hw _ (List.mem_of_getElem? (i := 27) rfl)))) (mvT hZ (hw _ (List.mem_of_getElem? (i := 27) rfl))) (mvT hZ (hw _ (List.mem_of_getElem? (i := 26) rfl))) (by decide) (backOf (W := 0) (rmMax_12 l Z a0 hw [] q A B kA kB (0 : Int32) t2 t0 (0 : UInt64) (FP.i2d j2) (FP.i2d j0) T555.heap n0 (Nat.le_trans Z0 K555.1) f572 f1_555 f2_555 f3_555 f4_555 f5_555 f6_555 naA naB nAB g_q gA gB) hZ (hw _ (List.mem_of_getElem? (i := 28) rfl)) (hw _ (List.mem_of_getElem? (i := 2) rfl)) (by decide) (by decide)) qa574 qc574 (g := (mkF m 166 #[.val (.int p1), .val (.int p2), .val (.int p3), .val (.int t2), .val (.int t1), .val (.int t0), .val (.int j0), .val (.int j1), .val (.int j2), .val (.double (FP.i2d j0)), .second, .val (.double (FP.i2d j1)), .second, .val (.double (FP.i2d j2)), .second, .val (.ref q), .val (.int (1 : Int32)), .val (.int (1 : Int32)), .unset, .unset] [(.ref q)])) rfl (by rw [hml]; rfl) (Steps.refl _) (argsL := []) (rest := []) (lenOf own_pd___D rfl) rfl (by show 2 * 0 + _ ≤ _; exact Nat.le_of_eq rfl) (Jvm.hb hby at_166) (fun _ _ => ⟨rfl, rfl, (by decide : 3 + 0 ≤ _), (by decide : 10 + 0 ≤ _)⟩)
        dsimp only [Pt.U, Pt.locs, Pt.cells, Pt.slots] at X574 l574 y574 z574 st574 hQ574
        subst l574 y574 z574
        obtain ⟨rfl, Nq574, eq574⟩ := hQ574
        have N574 := Fr.app N555 Nq574
        have pre575 : ∀ τ, Steps p.tables e below (T574.setTop (mkF m 169 #[.val (.int p1), .val (.int p2), .val (.int p3), .val (.int t2), .val (.int t1), .val (.int t0), .val (.int j0), .val (.int j1), .val (.int j2), .val (.double (FP.i2d j0)), .second, .val (.double (FP.i2d j1)), .second, .val (.double (FP.i2d j2)), .second, .val (.ref q), .val (.int (1 : Int32)), .val (.int (1 : Int32)), .unset, .unset] [(.double (FP.i2d j2))])) τ → Steps p.tables e below (s₁.setTop (entryFrame m #[(.int p1), (.int p2), (.int p3)] maxLocals)) τ := fun τ kt => pre573 τ ((st574).trans kt)
        have pre576 : ∀ τ, Steps p.tables e below (T574.setTop (mkF m 173 #[.val (.int p1), .val (.int p2), .val (.int p3), .val (.int t2), .val (.int t1), .val (.int t0), .val (.int j0), .val (.int j1), .val (.int j2), .val (.double (FP.i2d j0)), .second, .val (.double (FP.i2d j1)), .second, .val (.double (FP.i2d j2)), .second, .val (.ref q), .val (.int (1 : Int32)), .val (.int (1 : Int32)), .unset, .unset] [(.int j2), (.int j1), (.double (FP.i2d j2))])) τ → Steps p.tables e below (s₁.setTop (entryFrame m #[(.int p1), (.int p2), (.int p3)] maxLocals)) τ := fun τ kt => pre575 τ (by
          show Steps p.tables e below (T574.setTop (mkF m 169 #[.val (.int p1), .val (.int p2), .val (.int p3), .val (.int t2), .val (.int t1), .val (.int t0), .val (.int j0), .val (.int j1), .val (.int j2), .val (.double (FP.i2d j0)), .second, .val (.double (FP.i2d j1)), .second, .val (.double (FP.i2d j2)), .second, .val (.ref q), .val (.int (1 : Int32)), .val (.int (1 : Int32)), .unset, .unset] [(.double (FP.i2d j2))])) τ
          refine XS.iload X574.here hx rfl (Jvm.hb hby at_169) rfl ?_
          show Steps p.tables e below (T574.setTop (mkF m 171 #[.val (.int p1), .val (.int p2), .val (.int p3), .val (.int t2), .val (.int t1), .val (.int t0), .val (.int j0), .val (.int j1), .val (.int j2), .val (.double (FP.i2d j0)), .second, .val (.double (FP.i2d j1)), .second, .val (.double (FP.i2d j2)), .second, .val (.ref q), .val (.int (1 : Int32)), .val (.int (1 : Int32)), .unset, .unset] [(.int j1), (.double (FP.i2d j2))])) τ
          refine XS.iload X574.here hx rfl (Jvm.hb hby at_171) rfl ?_
          exact kt)
        obtain ⟨_, _, ⟨T577, L577, k577, n577⟩, -, X577, ⟨Lc577, hQ577, l577, y577, z577⟩, st577⟩ := Jvm.LawKit.callS X574 hx (y := (⟨"java/lang/Math", "max", "(II)I"⟩ : MethodName)) hown (mvT hZ (hw _ (List.mem_of_getElem? (i := 29) rfl))) (mvT hZ (hw _ (List.mem_of_getElem? (i := 30) rfl))) (mvT hZ (hw _ (List.mem_of_getElem? (i := 31) rfl))) (mvT hZ (hw _ (List.mem_of_getElem? (i := 32) rfl))) (by decide) (backOf (W := 2) (rmM l Z a0 hw [] j1 j2 T555.heap n0 (Nat.le_trans Z0 K555.1)) hZ (hw _ (List.mem_of_getElem? (i := 32) rfl)) (hw _ (List.mem_of_getElem? (i := 31) rfl)) (by decide) (by decide)) (g := (mkF m 173 #[.val (.int p1), .val (.int p2), .val (.int p3), .val (.int t2), .val (.int t1), .val (.int t0), .val (.int j0), .val (.int j1), .val (.int j2), .val (.double (FP.i2d j0)), .second, .val (.double (FP.i2d j1)), .second, .val (.double (FP.i2d j2)), .second, .val (.ref q), .val (.int (1 : Int32)), .val (.int (1 : Int32)), .unset, .unset] [(.int j2), (.int j1), (.double (FP.i2d j2))])) rfl (by rw [hml]; rfl) (argsL := [(.int j1), (.int j2)]) (rest := [(.double (FP.i2d j2))]) (lenOf own_pd__II_I rfl) rfl (by show 2 * 0 + _ ≤ _; exact Nat.le_of_eq rfl) (Jvm.hb hby at_173) (fun _ _ => ⟨rfl, eq574, (by decide : 3 + 0 ≤ _), (by decide : 10 + 0 ≤ _)⟩)
        dsimp only [Pt.U, Pt.locs, Pt.cells, Pt.slots] at X577 l577 y577 z577 st577 hQ577
        subst l577 y577 z577
        obtain ⟨rfl, Nq577, eq577⟩ := hQ577
        have N577 := Fr.app N574 Nq577
        have pre578 : ∀ τ, Steps p.tables e below (T577.setTop (mkF m 176 #[.val (.int p1), .val (.int p2), .val (.int p3), .val (.int t2), .val (.int t1), .val (.int t0), .val (.int j0), .val (.int j1), .val (.int j2), .val (.double (FP.i2d j0)), .second, .val (.double (FP.i2d j1)), .second, .val (.double (FP.i2d j2)), .second, .val (.ref q), .val (.int (1 : Int32)), .val (.int (1 : Int32)), .unset, .unset] [(.int (own_max j1 j2)), (.double (FP.i2d j2))])) τ → Steps p.tables e below (s₁.setTop (entryFrame m #[(.int p1), (.int p2), (.int p3)] maxLocals)) τ := fun τ kt => pre576 τ (st577 τ kt)
        have pre594 : ∀ τ, Steps p.tables e below (T577.setTop (mkF m 191 #[.val (.int p1), .val (.int p2), .val (.int p3), .val (.int t2), .val (.int t1), .val (.int t0), .val (.int j0), .val (.int j1), .val (.int j2), .val (.double (FP.i2d j0)), .second, .val (.double (FP.i2d j1)), .second, .val (.double (FP.i2d j2)), .second, .val (.ref q), .val (.int (1 : Int32)), .val (.int (1 : Int32)), .val (.int (1 : Int32)), .unset] [(.int t2), (.ref q)])) τ → Steps p.tables e below (s₁.setTop (entryFrame m #[(.int p1), (.int p2), (.int p3)] maxLocals)) τ := fun τ kt => pre578 τ (by
          show Steps p.tables e below (T577.setTop (mkF m 176 #[.val (.int p1), .val (.int p2), .val (.int p3), .val (.int t2), .val (.int t1), .val (.int t0), .val (.int j0), .val (.int j1), .val (.int j2), .val (.double (FP.i2d j0)), .second, .val (.double (FP.i2d j1)), .second, .val (.double (FP.i2d j2)), .second, .val (.ref q), .val (.int (1 : Int32)), .val (.int (1 : Int32)), .unset, .unset] [(.int (own_max j1 j2)), (.double (FP.i2d j2))])) τ
          refine own_i2d X577.here hx rfl (Jvm.hb hby at_176) rfl ?_
          show Steps p.tables e below (T577.setTop (mkF m 177 #[.val (.int p1), .val (.int p2), .val (.int p3), .val (.int t2), .val (.int t1), .val (.int t0), .val (.int j0), .val (.int j1), .val (.int j2), .val (.double (FP.i2d j0)), .second, .val (.double (FP.i2d j1)), .second, .val (.double (FP.i2d j2)), .second, .val (.ref q), .val (.int (1 : Int32)), .val (.int (1 : Int32)), .unset, .unset] [(.double (FP.i2d (own_max j1 j2))), (.double (FP.i2d j2))])) τ
          refine own_dcmp X577.here hx rfl (Jvm.hb hby at_177) rfl ?_
          show Steps p.tables e below (T577.setTop (mkF m 178 #[.val (.int p1), .val (.int p2), .val (.int p3), .val (.int t2), .val (.int t1), .val (.int t0), .val (.int j0), .val (.int j1), .val (.int j2), .val (.double (FP.i2d j0)), .second, .val (.double (FP.i2d j1)), .second, .val (.double (FP.i2d j2)), .second, .val (.ref q), .val (.int (1 : Int32)), .val (.int (1 : Int32)), .unset, .unset] [(.int (cmpValue (FP.dcmp (FP.i2d j2) (FP.i2d (own_max j1 j2))) .l))])) τ
          refine XS.ifNo X577.here hx rfl (Jvm.hb hby at_178) rfl ((if0 _ _).trans (teq (own_eq (by first | rfl | (simp only [own_max_int]; omega)) _)).2) ?_
          show Steps p.tables e below (T577.setTop (mkF m 181 #[.val (.int p1), .val (.int p2), .val (.int p3), .val (.int t2), .val (.int t1), .val (.int t0), .val (.int j0), .val (.int j1), .val (.int j2), .val (.double (FP.i2d j0)), .second, .val (.double (FP.i2d j1)), .second, .val (.double (FP.i2d j2)), .second, .val (.ref q), .val (.int (1 : Int32)), .val (.int (1 : Int32)), .unset, .unset] [])) τ
          refine XS.iconst X577.here hx rfl (Jvm.hb hby at_181) ?_
          show Steps p.tables e below (T577.setTop (mkF m 182 #[.val (.int p1), .val (.int p2), .val (.int p3), .val (.int t2), .val (.int t1), .val (.int t0), .val (.int j0), .val (.int j1), .val (.int j2), .val (.double (FP.i2d j0)), .second, .val (.double (FP.i2d j1)), .second, .val (.double (FP.i2d j2)), .second, .val (.ref q), .val (.int (1 : Int32)), .val (.int (1 : Int32)), .unset, .unset] [(.int (1 : Int32))])) τ
          refine XS.goto X577.here hx rfl (pc0 := 182) (pc' := 186) rfl (Jvm.hb hby at_182) (by decide) (by decide) ?_
          show Steps p.tables e below (T577.setTop (mkF m 186 #[.val (.int p1), .val (.int p2), .val (.int p3), .val (.int t2), .val (.int t1), .val (.int t0), .val (.int j0), .val (.int j1), .val (.int j2), .val (.double (FP.i2d j0)), .second, .val (.double (FP.i2d j1)), .second, .val (.double (FP.i2d j2)), .second, .val (.ref q), .val (.int (1 : Int32)), .val (.int (1 : Int32)), .unset, .unset] [(.int (1 : Int32))])) τ
          refine XS.istore X577.here hx rfl (Jvm.hb hby at_186) rfl (l' := #[.val (.int p1), .val (.int p2), .val (.int p3), .val (.int t2), .val (.int t1), .val (.int t0), .val (.int j0), .val (.int j1), .val (.int j2), .val (.double (FP.i2d j0)), .second, .val (.double (FP.i2d j1)), .second, .val (.double (FP.i2d j2)), .second, .val (.ref q), .val (.int (1 : Int32)), .val (.int (1 : Int32)), .val (.int (1 : Int32)), .unset]) rfl ?_
          show Steps p.tables e below (T577.setTop (mkF m 188 #[.val (.int p1), .val (.int p2), .val (.int p3), .val (.int t2), .val (.int t1), .val (.int t0), .val (.int j0), .val (.int j1), .val (.int j2), .val (.double (FP.i2d j0)), .second, .val (.double (FP.i2d j1)), .second, .val (.double (FP.i2d j2)), .second, .val (.ref q), .val (.int (1 : Int32)), .val (.int (1 : Int32)), .val (.int (1 : Int32)), .unset] [])) τ
          refine XS.aload X577.here hx rfl (Jvm.hb hby at_188) rfl rfl ?_
          show Steps p.tables e below (T577.setTop (mkF m 190 #[.val (.int p1), .val (.int p2), .val (.int p3), .val (.int t2), .val (.int t1), .val (.int t0), .val (.int j0), .val (.int j1), .val (.int j2), .val (.double (FP.i2d j0)), .second, .val (.double (FP.i2d j1)), .second, .val (.double (FP.i2d j2)), .second, .val (.ref q), .val (.int (1 : Int32)), .val (.int (1 : Int32)), .val (.int (1 : Int32)), .unset] [(.ref q)])) τ
          refine XS.iloadN X577.here hx rfl (Jvm.hb hby at_190) rfl ?_
          exact kt)
        obtain ⟨cq595, kq595, qa595, qb595, qc595⟩ := isOf hZ eq577 f572
        obtain ⟨_, _, ⟨T595, L595, k595, n595⟩, -, X595, ⟨Lc595, hQ595, l595, y595, z595⟩, st595⟩ := X577.virtualBack hx (y := (⟨"com/example/counterpath/counterpath/core/CappedMaximum", "removeAfter", "(I)V"⟩ : MethodName)) (z := (⟨"com/example/counterpath/counterpath/core/CappedMaximum", "removeAfter", "(I)V"⟩ : MethodName)) hown (mvT hZ (hw _ (List.mem_of_getElem? (i := 33) rfl))) (mvT hZ (hw _ (List.mem_of_getElem? (i := 34) rfl))) (notFace_of_selects (args := #[]) (mvT hZ (hw _ (List.mem_of_getElem? (i := 36) rfl)))) (mvT hZ (hw _ (List.mem_of_getElem? (i := 36) rfl))) (mvT hZ (hw _ (List.mem_of_getElem? (i := 35) rfl))) (by decide) (backOf (W := 0) (rmRem_12_x l Z a0 hw [] q t2 A B kA kB (0 : Int32) t2 t0 (0 : UInt64) (FP.i2d j2) (FP.i2d j0) T555.heap n0 (Nat.le_trans Z0 K555.1) f572 f1_555 f2_555 f3_555 f4_555 f5_555 f6_555 naA naB nAB g_q gA gB (fun z => Int32.lt_irrefl z)) hZ (hw _ (List.mem_of_getElem? (i := 37) rfl)) (hw _ (List.mem_of_getElem? (i := 2) rfl)) (by decide) (by decide)) qa595 qc595 (g := (mkF m 191 #[.val (.int p1), .val (.int p2), .val (.int p3), .val (.int t2), .val (.int t1), .val (.int t0), .val (.int j0), .val (.int j1), .val (.int j2), .val (.double (FP.i2d j0)), .second, .val (.double (FP.i2d j1)), .second, .val (.double (FP.i2d j2)), .second, .val (.ref q), .val (.int (1 : Int32)), .val (.int (1 : Int32)), .val (.int (1 : Int32)), .unset] [(.int t2), (.ref q)])) rfl (by rw [hml]; rfl) (Steps.refl _) (argsL := [(.int t2)]) (rest := []) (lenOf own_pd__I_V rfl) rfl (by show 2 * 0 + _ ≤ _; exact Nat.le_of_eq rfl) (Jvm.hb hby at_191) (fun _ _ => ⟨rfl, eq577, (by decide : 3 + 0 ≤ _), (by decide : 10 + 0 ≤ _)⟩)
        dsimp only [Pt.U, Pt.locs, Pt.cells, Pt.slots] at X595 l595 y595 z595 st595 hQ595
        subst l595 y595 z595
        obtain ⟨rfl, Nq595, Kq595, f1_595, f2_595, f3_595, f4_595, f5_595, f6_595⟩ := hQ595
        have N595 := Fr.app N577 Nq595
        have K595 : Keep h0 T595.heap [] := K555.trans Kq595 (allS (Or.inr sz_q) (allS (Or.inr sz_A) (allS (Or.inr sz_B) (all0))))
        have pre596 : ∀ τ, Steps p.tables e below (T595.setTop (mkF m 194 #[.val (.int p1), .val (.int p2), .val (.int p3), .val (.int t2), .val (.int t1), .val (.int t0), .val (.int j0), .val (.int j1), .val (.int j2), .val (.double (FP.i2d j0)), .second, .val (.double (FP.i2d j1)), .second, .val (.double (FP.i2d j2)), .second, .val (.ref q), .val (.int (1 : Int32)), .val (.int (1 : Int32)), .val (.int (1 : Int32)), .unset] [])) τ → Steps p.tables e below (s₁.setTop (entryFrame m #[(.int p1), (.int p2), (.int p3)] maxLocals)) τ := fun τ kt => pre594 τ ((st595).trans kt)
        have f597 := f572.keep Kq595
        have pre598 : ∀ τ, Steps p.tables e below (T595.setTop (mkF m 196 #[.val (.int p1), .val (.int p2), .val (.int p3), .val (.int t2), .val (.int t1), .val (.int t0), .val (.int j0), .val (.int j1), .val (.int j2), .val (.double (FP.i2d j0)), .second, .val (.double (FP.i2d j1)), .second, .val (.double (FP.i2d j2)), .second, .val (.ref q), .val (.int (1 : Int32)), .val (.int (1 : Int32)), .val (.int (1 : Int32)), .unset] [(.ref q)])) τ → Steps p.tables e below (s₁.setTop (entryFrame m #[(.int p1), (.int p2), (.int p3)] maxLocals)) τ := fun τ kt => pre596 τ (by
          show Steps p.tables e below (T595.setTop (mkF m 194 #[.val (.int p1), .val (.int p2), .val (.int p3), .val (.int t2), .val (.int t1), .val (.int t0), .val (.int j0), .val (.int j1), .val (.int j2), .val (.double (FP.i2d j0)), .second, .val (.double (FP.i2d j1)), .second, .val (.double (FP.i2d j2)), .second, .val (.ref q), .val (.int (1 : Int32)), .val (.int (1 : Int32)), .val (.int (1 : Int32)), .unset] [])) τ
          refine XS.aload X595.here hx rfl (Jvm.hb hby at_194) rfl rfl ?_
          exact kt)
        obtain ⟨cq599, kq599, qa599, qb599, qc599⟩ := isOf hZ rfl f597
        obtain ⟨_, _, ⟨T599, L599, k599, n599⟩, -, X599, ⟨Lc599, hQ599, l599, y599, z599⟩, st599⟩ := X595.virtualBack hx (y := (⟨"com/example/counterpath/counterpath/core/CappedMaximum", "maximum", "()D"⟩ : MethodName)) (z := (⟨"com/example/counterpath/counterpath/core/CappedMaximum", "maximum", "()D"⟩ : MethodName)) hown (mvT hZ (hw _ (List.mem_of_getElem? (i := 24) rfl))) (mvT hZ (hw _ (List.mem_of_getElem? (i := 25) rfl))) (notFace_of_selects (args := #[]) (mvT hZ (hw _ (List.mem_of_getElem? (i := 27) rfl)))) (mvT hZ (hw _ (List.mem_of_getElem? (i := 27) rfl))) (mvT hZ (hw _ (List.mem_of_getElem? (i := 26) rfl))) (by decide) (backOf (W := 0) (rmMax_12 l Z a0 hw [] q A B kA kB (0 : Int32) t2 t0 (0 : UInt64) (FP.i2d j2) (FP.i2d j0) T595.heap n0 (Nat.le_trans Z0 K595.1) f597 f1_595 f2_595 f3_595 f4_595 f5_595 f6_595 naA naB nAB g_q gA gB) hZ (hw _ (List.mem_of_getElem? (i := 28) rfl)) (hw _ (List.mem_of_getElem? (i := 2) rfl)) (by decide) (by decide)) qa599 qc599 (g := (mkF m 196 #[.val (.int p1), .val (.int p2), .val (.int p3), .val (.int t2), .val (.int t1), .val (.int t0), .val (.int j0), .val (.int j1), .val (.int j2), .val (.double (FP.i2d j0)), .second, .val (.double (FP.i2d j1)), .second, .val (.double (FP.i2d j2)), .second, .val (.ref q), .val (.int (1 : Int32)), .val (.int (1 : Int32)), .val (.int (1 : Int32)), .unset] [(.ref q)])) rfl (by rw [hml]; rfl) (Steps.refl _) (argsL := []) (rest := []) (lenOf own_pd___D rfl) rfl (by show 2 * 0 + _ ≤ _; exact Nat.le_of_eq rfl) (Jvm.hb hby at_196) (fun _ _ => ⟨rfl, rfl, (by decide : 3 + 0 ≤ _), (by decide : 10 + 0 ≤ _)⟩)
        dsimp only [Pt.U, Pt.locs, Pt.cells, Pt.slots] at X599 l599 y599 z599 st599 hQ599
        subst l599 y599 z599
        obtain ⟨rfl, Nq599, eq599⟩ := hQ599
        have N599 := Fr.app N595 Nq599
        have pre600 : ∀ τ, Steps p.tables e below (T599.setTop (mkF m 199 #[.val (.int p1), .val (.int p2), .val (.int p3), .val (.int t2), .val (.int t1), .val (.int t0), .val (.int j0), .val (.int j1), .val (.int j2), .val (.double (FP.i2d j0)), .second, .val (.double (FP.i2d j1)), .second, .val (.double (FP.i2d j2)), .second, .val (.ref q), .val (.int (1 : Int32)), .val (.int (1 : Int32)), .val (.int (1 : Int32)), .unset] [(.double (FP.i2d j2))])) τ → Steps p.tables e below (s₁.setTop (entryFrame m #[(.int p1), (.int p2), (.int p3)] maxLocals)) τ := fun τ kt => pre598 τ ((st599).trans kt)
        have pre601 : ∀ τ, Steps p.tables e below (T599.setTop (mkF m 237 #[.val (.int p1), .val (.int p2), .val (.int p3), .val (.int t2), .val (.int t1), .val (.int t0), .val (.int j0), .val (.int j1), .val (.int j2), .val (.double (FP.i2d j0)), .second, .val (.double (FP.i2d j1)), .second, .val (.double (FP.i2d j2)), .second, .val (.ref q), .val (.int (1 : Int32)), .val (.int (1 : Int32)), .val (.int (1 : Int32)), .val (.int (1 : Int32))] [(.int (1 : Int32))])) τ → Steps p.tables e below (s₁.setTop (entryFrame m #[(.int p1), (.int p2), (.int p3)] maxLocals)) τ := fun τ kt => pre600 τ (by
          show Steps p.tables e below (T599.setTop (mkF m 199 #[.val (.int p1), .val (.int p2), .val (.int p3), .val (.int t2), .val (.int t1), .val (.int t0), .val (.int j0), .val (.int j1), .val (.int j2), .val (.double (FP.i2d j0)), .second, .val (.double (FP.i2d j1)), .second, .val (.double (FP.i2d j2)), .second, .val (.ref q), .val (.int (1 : Int32)), .val (.int (1 : Int32)), .val (.int (1 : Int32)), .unset] [(.double (FP.i2d j2))])) τ
          refine own_dload X599.here hx rfl (Jvm.hb hby at_199) rfl ?_
          show Steps p.tables e below (T599.setTop (mkF m 201 #[.val (.int p1), .val (.int p2), .val (.int p3), .val (.int t2), .val (.int t1), .val (.int t0), .val (.int j0), .val (.int j1), .val (.int j2), .val (.double (FP.i2d j0)), .second, .val (.double (FP.i2d j1)), .second, .val (.double (FP.i2d j2)), .second, .val (.ref q), .val (.int (1 : Int32)), .val (.int (1 : Int32)), .val (.int (1 : Int32)), .unset] [(.double (FP.i2d j2)), (.double (FP.i2d j2))])) τ
          refine own_dcmp X599.here hx rfl (Jvm.hb hby at_201) rfl ?_
          show Steps p.tables e below (T599.setTop (mkF m 202 #[.val (.int p1), .val (.int p2), .val (.int p3), .val (.int t2), .val (.int t1), .val (.int t0), .val (.int j0), .val (.int j1), .val (.int j2), .val (.double (FP.i2d j0)), .second, .val (.double (FP.i2d j1)), .second, .val (.double (FP.i2d j2)), .second, .val (.ref q), .val (.int (1 : Int32)), .val (.int (1 : Int32)), .val (.int (1 : Int32)), .unset] [(.int (cmpValue (FP.dcmp (FP.i2d j2) (FP.i2d j2)) .l))])) τ
          refine XS.ifNo X599.here hx rfl (Jvm.hb hby at_202) rfl ((if0 _ _).trans (teq (own_eq (by first | rfl | (simp only [own_max_int]; omega)) _)).2) ?_
          show Steps p.tables e below (T599.setTop (mkF m 205 #[.val (.int p1), .val (.int p2), .val (.int p3), .val (.int t2), .val (.int t1), .val (.int t0), .val (.int j0), .val (.int j1), .val (.int j2), .val (.double (FP.i2d j0)), .second, .val (.double (FP.i2d j1)), .second, .val (.double (FP.i2d j2)), .second, .val (.ref q), .val (.int (1 : Int32)), .val (.int (1 : Int32)), .val (.int (1 : Int32)), .unset] [])) τ
          refine XS.iconst X599.here hx rfl (Jvm.hb hby at_205) ?_
          show Steps p.tables e below (T599.setTop (mkF m 206 #[.val (.int p1), .val (.int p2), .val (.int p3), .val (.int t2), .val (.int t1), .val (.int t0), .val (.int j0), .val (.int j1), .val (.int j2), .val (.double (FP.i2d j0)), .second, .val (.double (FP.i2d j1)), .second, .val (.double (FP.i2d j2)), .second, .val (.ref q), .val (.int (1 : Int32)), .val (.int (1 : Int32)), .val (.int (1 : Int32)), .unset] [(.int (1 : Int32))])) τ
          refine XS.goto X599.here hx rfl (pc0 := 206) (pc' := 210) rfl (Jvm.hb hby at_206) (by decide) (by decide) ?_
          show Steps p.tables e below (T599.setTop (mkF m 210 #[.val (.int p1), .val (.int p2), .val (.int p3), .val (.int t2), .val (.int t1), .val (.int t0), .val (.int j0), .val (.int j1), .val (.int j2), .val (.double (FP.i2d j0)), .second, .val (.double (FP.i2d j1)), .second, .val (.double (FP.i2d j2)), .second, .val (.ref q), .val (.int (1 : Int32)), .val (.int (1 : Int32)), .val (.int (1 : Int32)), .unset] [(.int (1 : Int32))])) τ
          refine XS.istore X599.here hx rfl (Jvm.hb hby at_210) rfl (l' := #[.val (.int p1), .val (.int p2), .val (.int p3), .val (.int t2), .val (.int t1), .val (.int t0), .val (.int j0), .val (.int j1), .val (.int j2), .val (.double (FP.i2d j0)), .second, .val (.double (FP.i2d j1)), .second, .val (.double (FP.i2d j2)), .second, .val (.ref q), .val (.int (1 : Int32)), .val (.int (1 : Int32)), .val (.int (1 : Int32)), .val (.int (1 : Int32))]) rfl ?_
          show Steps p.tables e below (T599.setTop (mkF m 212 #[.val (.int p1), .val (.int p2), .val (.int p3), .val (.int t2), .val (.int t1), .val (.int t0), .val (.int j0), .val (.int j1), .val (.int j2), .val (.double (FP.i2d j0)), .second, .val (.double (FP.i2d j1)), .second, .val (.double (FP.i2d j2)), .second, .val (.ref q), .val (.int (1 : Int32)), .val (.int (1 : Int32)), .val (.int (1 : Int32)), .val (.int (1 : Int32))] [])) τ
          refine XS.iload X599.here hx rfl (Jvm.hb hby at_212) rfl ?_
          show Steps p.tables e below (T599.setTop (mkF m 214 #[.val (.int p1), .val (.int p2), .val (.int p3), .val (.int t2), .val (.int t1), .val (.int t0), .val (.int j0), .val (.int j1), .val (.int j2), .val (.double (FP.i2d j0)), .second, .val (.double (FP.i2d j1)), .second, .val (.double (FP.i2d j2)), .second, .val (.ref q), .val (.int (1 : Int32)), .val (.int (1 : Int32)), .val (.int (1 : Int32)), .val (.int (1 : Int32))] [(.int (1 : Int32))])) τ
          refine XS.ifNo X599.here hx rfl (Jvm.hb hby at_214) rfl ((if0 _ _).trans (feq (by decide)).1) ?_
          show Steps p.tables e below (T599.setTop (mkF m 217 #[.val (.int p1), .val (.int p2), .val (.int p3), .val (.int t2), .val (.int t1), .val (.int t0), .val (.int j0), .val (.int j1), .val (.int j2), .val (.double (FP.i2d j0)), .second, .val (.double (FP.i2d j1)), .second, .val (.double (FP.i2d j2)), .second, .val (.ref q), .val (.int (1 : Int32)), .val (.int (1 : Int32)), .val (.int (1 : Int32)), .val (.int (1 : Int32))] [])) τ
          refine XS.iload X599.here hx rfl (Jvm.hb hby at_217) rfl ?_
          show Steps p.tables e below (T599.setTop (mkF m 219 #[.val (.int p1), .val (.int p2), .val (.int p3), .val (.int t2), .val (.int t1), .val (.int t0), .val (.int j0), .val (.int j1), .val (.int j2), .val (.double (FP.i2d j0)), .second, .val (.double (FP.i2d j1)), .second, .val (.double (FP.i2d j2)), .second, .val (.ref q), .val (.int (1 : Int32)), .val (.int (1 : Int32)), .val (.int (1 : Int32)), .val (.int (1 : Int32))] [(.int (1 : Int32))])) τ
          refine XS.ifNo X599.here hx rfl (Jvm.hb hby at_219) rfl ((if0 _ _).trans (feq (by decide)).1) ?_
          show Steps p.tables e below (T599.setTop (mkF m 222 #[.val (.int p1), .val (.int p2), .val (.int p3), .val (.int t2), .val (.int t1), .val (.int t0), .val (.int j0), .val (.int j1), .val (.int j2), .val (.double (FP.i2d j0)), .second, .val (.double (FP.i2d j1)), .second, .val (.double (FP.i2d j2)), .second, .val (.ref q), .val (.int (1 : Int32)), .val (.int (1 : Int32)), .val (.int (1 : Int32)), .val (.int (1 : Int32))] [])) τ
          refine XS.iload X599.here hx rfl (Jvm.hb hby at_222) rfl ?_
          show Steps p.tables e below (T599.setTop (mkF m 224 #[.val (.int p1), .val (.int p2), .val (.int p3), .val (.int t2), .val (.int t1), .val (.int t0), .val (.int j0), .val (.int j1), .val (.int j2), .val (.double (FP.i2d j0)), .second, .val (.double (FP.i2d j1)), .second, .val (.double (FP.i2d j2)), .second, .val (.ref q), .val (.int (1 : Int32)), .val (.int (1 : Int32)), .val (.int (1 : Int32)), .val (.int (1 : Int32))] [(.int (1 : Int32))])) τ
          refine XS.ifNo X599.here hx rfl (Jvm.hb hby at_224) rfl ((if0 _ _).trans (feq (by decide)).1) ?_
          show Steps p.tables e below (T599.setTop (mkF m 227 #[.val (.int p1), .val (.int p2), .val (.int p3), .val (.int t2), .val (.int t1), .val (.int t0), .val (.int j0), .val (.int j1), .val (.int j2), .val (.double (FP.i2d j0)), .second, .val (.double (FP.i2d j1)), .second, .val (.double (FP.i2d j2)), .second, .val (.ref q), .val (.int (1 : Int32)), .val (.int (1 : Int32)), .val (.int (1 : Int32)), .val (.int (1 : Int32))] [])) τ
          refine XS.iload X599.here hx rfl (Jvm.hb hby at_227) rfl ?_
          show Steps p.tables e below (T599.setTop (mkF m 229 #[.val (.int p1), .val (.int p2), .val (.int p3), .val (.int t2), .val (.int t1), .val (.int t0), .val (.int j0), .val (.int j1), .val (.int j2), .val (.double (FP.i2d j0)), .second, .val (.double (FP.i2d j1)), .second, .val (.double (FP.i2d j2)), .second, .val (.ref q), .val (.int (1 : Int32)), .val (.int (1 : Int32)), .val (.int (1 : Int32)), .val (.int (1 : Int32))] [(.int (1 : Int32))])) τ
          refine XS.ifNo X599.here hx rfl (Jvm.hb hby at_229) rfl ((if0 _ _).trans (feq (by decide)).1) ?_
          show Steps p.tables e below (T599.setTop (mkF m 232 #[.val (.int p1), .val (.int p2), .val (.int p3), .val (.int t2), .val (.int t1), .val (.int t0), .val (.int j0), .val (.int j1), .val (.int j2), .val (.double (FP.i2d j0)), .second, .val (.double (FP.i2d j1)), .second, .val (.double (FP.i2d j2)), .second, .val (.ref q), .val (.int (1 : Int32)), .val (.int (1 : Int32)), .val (.int (1 : Int32)), .val (.int (1 : Int32))] [])) τ
          refine XS.iconst X599.here hx rfl (Jvm.hb hby at_232) ?_
          show Steps p.tables e below (T599.setTop (mkF m 233 #[.val (.int p1), .val (.int p2), .val (.int p3), .val (.int t2), .val (.int t1), .val (.int t0), .val (.int j0), .val (.int j1), .val (.int j2), .val (.double (FP.i2d j0)), .second, .val (.double (FP.i2d j1)), .second, .val (.double (FP.i2d j2)), .second, .val (.ref q), .val (.int (1 : Int32)), .val (.int (1 : Int32)), .val (.int (1 : Int32)), .val (.int (1 : Int32))] [(.int (1 : Int32))])) τ
          refine XS.goto X599.here hx rfl (pc0 := 233) (pc' := 237) rfl (Jvm.hb hby at_233) (by decide) (by decide) ?_
          exact kt)
        obtain ⟨fs, hrL, hrun, hended, hW, hsame⟩ := X599.leave (v := some (.int (1 : Int32))) (fun h => by rw [Bd.returns] at h; cases h)
        refine ⟨_, _, pre601 _ ?_, hrun, hended, _, _, rfl, ?_, ⟨_, rfl⟩, hW, hsame.mono (by decide) (by decide)⟩
        · show Steps p.tables e below (T599.setTop (mkF m 237 #[.val (.int p1), .val (.int p2), .val (.int p3), .val (.int t2), .val (.int t1), .val (.int t0), .val (.int j0), .val (.int j1), .val (.int j2), .val (.double (FP.i2d j0)), .second, .val (.double (FP.i2d j1)), .second, .val (.double (FP.i2d j2)), .second, .val (.ref q), .val (.int (1 : Int32)), .val (.int (1 : Int32)), .val (.int (1 : Int32)), .val (.int (1 : Int32))] [(.int (1 : Int32))])) _
          exact retN X599 hx (t := .boolean) Bd.returns (by simp) (Jvm.hb hby at_237) hrL
        · show Q0 n0 _ T599.heap _
          exact ⟨rfl, N599⟩
      · skip
        have f699 := f134.keep Kq194
        obtain ⟨cq700, kq700, qa700, qb700, qc700⟩ := isOf hZ rfl f699
        obtain ⟨_, _, ⟨T700, L700, k700, n700⟩, -, X700, ⟨Lc700, hQ700, l700, y700, z700⟩, st700⟩ := X194.virtualBack hx (y := (⟨"com/example/counterpath/counterpath/core/CappedMaximum", "addFirst", "(ID)V"⟩ : MethodName)) (z := (⟨"com/example/counterpath/counterpath/core/CappedMaximum", "addFirst", "(ID)V"⟩ : MethodName)) hown (mvT hZ (hw _ (List.mem_of_getElem? (i := 19) rfl))) (mvT hZ (hw _ (List.mem_of_getElem? (i := 20) rfl))) (notFace_of_selects (args := #[]) (mvT hZ (hw _ (List.mem_of_getElem? (i := 22) rfl)))) (mvT hZ (hw _ (List.mem_of_getElem? (i := 22) rfl))) (mvT hZ (hw _ (List.mem_of_getElem? (i := 21) rfl))) (by decide) (backOf (W := 0) (rmAdd_13_cce l Z a0 hw [] q t2 (FP.i2d j2) A B kA kB (0 : Int32) t1 t0 (0 : UInt64) (FP.i2d j1) (FP.i2d j0) T194.heap n0 (Nat.le_trans Z0 K194.1) f699 f1_194 f2_194 f3_194 f4_194 f5_194 f6_194 naA naB nAB g_q gA gB (fun z => qa197 ((own_gt _ _ _).mp z)) (fun z => qa407 ((own_gt _ _ _).mp z))) hZ (hw _ (List.mem_of_getElem? (i := 23) rfl)) (hw _ (List.mem_of_getElem? (i := 2) rfl)) (by decide) (by decide)) qa700 qc700 (g := (mkF m 125 #[.val (.int p1), .val (.int p2), .val (.int p3), .val (.int t2), .val (.int t1), .val (.int t0), .val (.int j0), .val (.int j1), .val (.int j2), .val (.double (FP.i2d j0)), .second, .val (.double (FP.i2d j1)), .second, .val (.double (FP.i2d j2)), .second, .val (.ref q), .val (.int (1 : Int32)), .unset, .unset, .unset] [(.double (FP.i2d j2)), (.int t2), (.ref q)])) rfl (by rw [hml]; rfl) (Steps.refl _) (argsL := [(.int t2), (.double (FP.i2d j2))]) (rest := []) (lenOf own_pd__ID_V rfl) rfl (by show 2 * 0 + _ ≤ _; exact Nat.le_of_eq rfl) (Jvm.hb hby at_125) (fun _ _ => ⟨rfl, rfl, (by decide : 3 + 0 ≤ _), (by decide : 10 + 0 ≤ _)⟩)
        dsimp only [Pt.U, Pt.locs, Pt.cells, Pt.slots] at X700 l700 y700 z700 st700 hQ700
        subst l700 y700 z700
        obtain ⟨rfl, Nq700, Kq700, f1_700, f2_700, f3_700, f4_700, f5_700, f6_700⟩ := hQ700
        have N700 := Fr.app N194 Nq700
        have K700 : Keep h0 T700.heap [] := K194.trans Kq700 (allS (Or.inr sz_q) (allS (Or.inr sz_A) (allS (Or.inr sz_B) (all0))))
        have pre701 : ∀ τ, Steps p.tables e below (T700.setTop (mkF m 128 #[.val (.int p1), .val (.int p2), .val (.int p3), .val (.int t2), .val (.int t1), .val (.int t0), .val (.int j0), .val (.int j1), .val (.int j2), .val (.double (FP.i2d j0)), .second, .val (.double (FP.i2d j1)), .second, .val (.double (FP.i2d j2)), .second, .val (.ref q), .val (.int (1 : Int32)), .unset, .unset, .unset] [])) τ → Steps p.tables e below (s₁.setTop (entryFrame m #[(.int p1), (.int p2), (.int p3)] maxLocals)) τ := fun τ kt => pre196 τ ((st700).trans kt)
        have f702 := f699.keep Kq700
        have pre703 : ∀ τ, Steps p.tables e below (T700.setTop (mkF m 130 #[.val (.int p1), .val (.int p2), .val (.int p3), .val (.int t2), .val (.int t1), .val (.int t0), .val (.int j0), .val (.int j1), .val (.int j2), .val (.double (FP.i2d j0)), .second, .val (.double (FP.i2d j1)), .second, .val (.double (FP.i2d j2)), .second, .val (.ref q), .val (.int (1 : Int32)), .unset, .unset, .unset] [(.ref q)])) τ → Steps p.tables e below (s₁.setTop (entryFrame m #[(.int p1), (.int p2), (.int p3)] maxLocals)) τ := fun τ kt => pre701 τ (by
          show Steps p.tables e below (T700.setTop (mkF m 128 #[.val (.int p1), .val (.int p2), .val (.int p3), .val (.int t2), .val (.int t1), .val (.int t0), .val (.int j0), .val (.int j1), .val (.int j2), .val (.double (FP.i2d j0)), .second, .val (.double (FP.i2d j1)), .second, .val (.double (FP.i2d j2)), .second, .val (.ref q), .val (.int (1 : Int32)), .unset, .unset, .unset] [])) τ
          refine XS.aload X700.here hx rfl (Jvm.hb hby at_128) rfl rfl ?_
          exact kt)
        obtain ⟨cq704, kq704, qa704, qb704, qc704⟩ := isOf hZ rfl f702
        obtain ⟨_, _, ⟨T704, L704, k704, n704⟩, -, X704, ⟨Lc704, hQ704, l704, y704, z704⟩, st704⟩ := X700.virtualBack hx (y := (⟨"com/example/counterpath/counterpath/core/CappedMaximum", "maximum", "()D"⟩ : MethodName)) (z := (⟨"com/example/counterpath/counterpath/core/CappedMaximum", "maximum", "()D"⟩ : MethodName)) hown (mvT hZ (hw _ (List.mem_of_getElem? (i := 24) rfl))) (mvT hZ (hw _ (List.mem_of_getElem? (i := 25) rfl))) (notFace_of_selects (args := #[]) (mvT hZ (hw _ (List.mem_of_getElem? (i := 27) rfl)))) (mvT hZ (hw _ (List.mem_of_getElem? (i := 27) rfl))) (mvT hZ (hw _ (List.mem_of_getElem? (i := 26) rfl))) (by decide) (backOf (W := 0) (rmMax_23 l Z a0 hw [] q A B kA kB (0 : Int32) t1 t2 (0 : UInt64) (FP.i2d j1) (FP.i2d j2) T700.heap n0 (Nat.le_trans Z0 K700.1) f702 f1_700 f2_700 f3_700 f4_700 f5_700 f6_700 naA naB nAB g_q gA gB) hZ (hw _ (List.mem_of_getElem? (i := 28) rfl)) (hw _ (List.mem_of_getElem? (i := 2) rfl)) (by decide) (by decide)) qa704 qc704 (g := (mkF m 130 #[.val (.int p1), .val (.int p2), .val (.int p3), .val (.int t2), .val (.int t1), .val (.int t0), .val (.int j0), .val (.int j1), .val (.int j2), .val (.double (FP.i2d j0)), .second, .val (.double (FP.i2d j1)), .second, .val (.double (FP.i2d j2)), .second, .val (.ref q), .val (.int (1 : Int32)), .unset, .unset, .unset] [(.ref q)])) rfl (by rw [hml]; rfl) (Steps.refl _) (argsL := []) (rest := []) (lenOf own_pd___D rfl) rfl (by show 2 * 0 + _ ≤ _; exact Nat.le_of_eq rfl) (Jvm.hb hby at_130) (fun _ _ => ⟨rfl, rfl, (by decide : 3 + 0 ≤ _), (by decide : 10 + 0 ≤ _)⟩)
        dsimp only [Pt.U, Pt.locs, Pt.cells, Pt.slots] at X704 l704 y704 z704 st704 hQ704
        subst l704 y704 z704
        obtain ⟨rfl, Nq704, eq704⟩ := hQ704
        have N704 := Fr.app N700 Nq704
        have pre705 : ∀ τ, Steps p.tables e below (T704.setTop (mkF m 133 #[.val (.int p1), .val (.int p2), .val (.int p3), .val (.int t2), .val (.int t1), .val (.int t0), .val (.int j0), .val (.int j1), .val (.int j2), .val (.double (FP.i2d j0)), .second, .val (.double (FP.i2d j1)), .second, .val (.double (FP.i2d j2)), .second, .val (.ref q), .val (.int (1 : Int32)), .unset, .unset, .unset] [(.double (FP.i2d j2))])) τ → Steps p.tables e below (s₁.setTop (entryFrame m #[(.int p1), (.int p2), (.int p3)] maxLocals)) τ := fun τ kt => pre703 τ ((st704).trans kt)
        have pre706 : ∀ τ, Steps p.tables e below (T704.setTop (mkF m 139 #[.val (.int p1), .val (.int p2), .val (.int p3), .val (.int t2), .val (.int t1), .val (.int t0), .val (.int j0), .val (.int j1), .val (.int j2), .val (.double (FP.i2d j0)), .second, .val (.double (FP.i2d j1)), .second, .val (.double (FP.i2d j2)), .second, .val (.ref q), .val (.int (1 : Int32)), .unset, .unset, .unset] [(.int j2), (.int j1), (.int j0), (.double (FP.i2d j2))])) τ → Steps p.tables e below (s₁.setTop (entryFrame m #[(.int p1), (.int p2), (.int p3)] maxLocals)) τ := fun τ kt => pre705 τ (by
          show Steps p.tables e below (T704.setTop (mkF m 133 #[.val (.int p1), .val (.int p2), .val (.int p3), .val (.int t2), .val (.int t1), .val (.int t0), .val (.int j0), .val (.int j1), .val (.int j2), .val (.double (FP.i2d j0)), .second, .val (.double (FP.i2d j1)), .second, .val (.double (FP.i2d j2)), .second, .val (.ref q), .val (.int (1 : Int32)), .unset, .unset, .unset] [(.double (FP.i2d j2))])) τ
          refine XS.iload X704.here hx rfl (Jvm.hb hby at_133) rfl ?_
          show Steps p.tables e below (T704.setTop (mkF m 135 #[.val (.int p1), .val (.int p2), .val (.int p3), .val (.int t2), .val (.int t1), .val (.int t0), .val (.int j0), .val (.int j1), .val (.int j2), .val (.double (FP.i2d j0)), .second, .val (.double (FP.i2d j1)), .second, .val (.double (FP.i2d j2)), .second, .val (.ref q), .val (.int (1 : Int32)), .unset, .unset, .unset] [(.int j0), (.double (FP.i2d j2))])) τ
          refine XS.iload X704.here hx rfl (Jvm.hb hby at_135) rfl ?_
          show Steps p.tables e below (T704.setTop (mkF m 137 #[.val (.int p1), .val (.int p2), .val (.int p3), .val (.int t2), .val (.int t1), .val (.int t0), .val (.int j0), .val (.int j1), .val (.int j2), .val (.double (FP.i2d j0)), .second, .val (.double (FP.i2d j1)), .second, .val (.double (FP.i2d j2)), .second, .val (.ref q), .val (.int (1 : Int32)), .unset, .unset, .unset] [(.int j1), (.int j0), (.double (FP.i2d j2))])) τ
          refine XS.iload X704.here hx rfl (Jvm.hb hby at_137) rfl ?_
          exact kt)
        obtain ⟨_, _, ⟨T707, L707, k707, n707⟩, -, X707, ⟨Lc707, hQ707, l707, y707, z707⟩, st707⟩ := Jvm.LawKit.callS X704 hx (y := (⟨"java/lang/Math", "max", "(II)I"⟩ : MethodName)) hown (mvT hZ (hw _ (List.mem_of_getElem? (i := 29) rfl))) (mvT hZ (hw _ (List.mem_of_getElem? (i := 30) rfl))) (mvT hZ (hw _ (List.mem_of_getElem? (i := 31) rfl))) (mvT hZ (hw _ (List.mem_of_getElem? (i := 32) rfl))) (by decide) (backOf (W := 3) (rmM l Z a0 hw [] j1 j2 T700.heap n0 (Nat.le_trans Z0 K700.1)) hZ (hw _ (List.mem_of_getElem? (i := 32) rfl)) (hw _ (List.mem_of_getElem? (i := 31) rfl)) (by decide) (by decide)) (g := (mkF m 139 #[.val (.int p1), .val (.int p2), .val (.int p3), .val (.int t2), .val (.int t1), .val (.int t0), .val (.int j0), .val (.int j1), .val (.int j2), .val (.double (FP.i2d j0)), .second, .val (.double (FP.i2d j1)), .second, .val (.double (FP.i2d j2)), .second, .val (.ref q), .val (.int (1 : Int32)), .unset, .unset, .unset] [(.int j2), (.int j1), (.int j0), (.double (FP.i2d j2))])) rfl (by rw [hml]; rfl) (argsL := [(.int j1), (.int j2)]) (rest := [(.int j0), (.double (FP.i2d j2))]) (lenOf own_pd__II_I rfl) rfl (by show 2 * 0 + _ ≤ _; exact Nat.le_of_eq rfl) (Jvm.hb hby at_139) (fun _ _ => ⟨rfl, eq704, (by decide : 3 + 0 ≤ _), (by decide : 10 + 0 ≤ _)⟩)
        dsimp only [Pt.U, Pt.locs, Pt.cells, Pt.slots] at X707 l707 y707 z707 st707 hQ707
        subst l707 y707 z707
        obtain ⟨rfl, Nq707, eq707⟩ := hQ707
        have N707 := Fr.app N704 Nq707
        have pre708 : ∀ τ, Steps p.tables e below (T707.setTop (mkF m 142 #[.val (.int p1), .val (.int p2), .val (.int p3), .val (.int t2), .val (.int t1), .val (.int t0), .val (.int j0), .val (.int j1), .val (.int j2), .val (.double (FP.i2d j0)), .second, .val (.double (FP.i2d j1)), .second, .val (.double (FP.i2d j2)), .second, .val (.ref q), .val (.int (1 : Int32)), .unset, .unset, .unset] [(.int (own_max j1 j2)), (.int j0), (.double (FP.i2d j2))])) τ → Steps p.tables e below (s₁.setTop (entryFrame m #[(.int p1), (.int p2), (.int p3)] maxLocals)) τ := fun τ kt => pre706 τ (st707 τ kt)
        obtain ⟨_, _, ⟨T709, L709, k709, n709⟩, -, X709, ⟨Lc709, hQ709, l709, y709, z709⟩, st709⟩ := Jvm.LawKit.callS X707 hx (y := (⟨"java/lang/Math", "max", "(II)I"⟩ : MethodName)) hown (mvT hZ (hw _ (List.mem_of_getElem? (i := 29) rfl))) (mvT hZ (hw _ (List.mem_of_getElem? (i := 30) rfl))) (mvT hZ (hw _ (List.mem_of_getElem? (i := 31) rfl))) (mvT hZ (hw _ (List.mem_of_getElem? (i := 32) rfl))) (by decide) (backOf (W := 2) (rmM l Z a0 hw [] j0 (own_max j1 j2) T700.heap n0 (Nat.le_trans Z0 K700.1)) hZ (hw _ (List.mem_of_getElem? (i := 32) rfl)) (hw _ (List.mem_of_getElem? (i := 31) rfl)) (by decide) (by decide)) (g := (mkF m 142 #[.val (.int p1), .val (.int p2), .val (.int p3), .val (.int t2), .val (.int t1), .val (.int t0), .val (.int j0), .val (.int j1), .val (.int j2), .val (.double (FP.i2d j0)), .second, .val (.double (FP.i2d j1)), .second, .val (.double (FP.i2d j2)), .second, .val (.ref q), .val (.int (1 : Int32)), .unset, .unset, .unset] [(.int (own_max j1 j2)), (.int j0), (.double (FP.i2d j2))])) rfl (by rw [hml]; rfl) (argsL := [(.int j0), (.int (own_max j1 j2))]) (rest := [(.double (FP.i2d j2))]) (lenOf own_pd__II_I rfl) rfl (by show 2 * 0 + _ ≤ _; exact Nat.le_of_eq rfl) (Jvm.hb hby at_142) (fun _ _ => ⟨rfl, eq707, (by decide : 3 + 0 ≤ _), (by decide : 10 + 0 ≤ _)⟩)
        dsimp only [Pt.U, Pt.locs, Pt.cells, Pt.slots] at X709 l709 y709 z709 st709 hQ709
        subst l709 y709 z709
        obtain ⟨rfl, Nq709, eq709⟩ := hQ709
        have N709 := Fr.app N707 Nq709
        have pre710 : ∀ τ, Steps p.tables e below (T709.setTop (mkF m 145 #[.val (.int p1), .val (.int p2), .val (.int p3), .val (.int t2), .val (.int t1), .val (.int t0), .val (.int j0), .val (.int j1), .val (.int j2), .val (.double (FP.i2d j0)), .second, .val (.double (FP.i2d j1)), .second, .val (.double (FP.i2d j2)), .second, .val (.ref q), .val (.int (1 : Int32)), .unset, .unset, .unset] [(.int (own_max j0 (own_max j1 j2))), (.double (FP.i2d j2))])) τ → Steps p.tables e below (s₁.setTop (entryFrame m #[(.int p1), (.int p2), (.int p3)] maxLocals)) τ := fun τ kt => pre708 τ (st709 τ kt)
        have pre726 : ∀ τ, Steps p.tables e below (T709.setTop (mkF m 161 #[.val (.int p1), .val (.int p2), .val (.int p3), .val (.int t2), .val (.int t1), .val (.int t0), .val (.int j0), .val (.int j1), .val (.int j2), .val (.double (FP.i2d j0)), .second, .val (.double (FP.i2d j1)), .second, .val (.double (FP.i2d j2)), .second, .val (.ref q), .val (.int (1 : Int32)), .val (.int (1 : Int32)), .unset, .unset] [(.int t1), (.ref q)])) τ → Steps p.tables e below (s₁.setTop (entryFrame m #[(.int p1), (.int p2), (.int p3)] maxLocals)) τ := fun τ kt => pre710 τ (by
          show Steps p.tables e below (T709.setTop (mkF m 145 #[.val (.int p1), .val (.int p2), .val (.int p3), .val (.int t2), .val (.int t1), .val (.int t0), .val (.int j0), .val (.int j1), .val (.int j2), .val (.double (FP.i2d j0)), .second, .val (.double (FP.i2d j1)), .second, .val (.double (FP.i2d j2)), .second, .val (.ref q), .val (.int (1 : Int32)), .unset, .unset, .unset] [(.int (own_max j0 (own_max j1 j2))), (.double (FP.i2d j2))])) τ
          refine own_i2d X709.here hx rfl (Jvm.hb hby at_145) rfl ?_
          show Steps p.tables e below (T709.setTop (mkF m 146 #[.val (.int p1), .val (.int p2), .val (.int p3), .val (.int t2), .val (.int t1), .val (.int t0), .val (.int j0), .val (.int j1), .val (.int j2), .val (.double (FP.i2d j0)), .second, .val (.double (FP.i2d j1)), .second, .val (.double (FP.i2d j2)), .second, .val (.ref q), .val (.int (1 : Int32)), .unset, .unset, .unset] [(.double (FP.i2d (own_max j0 (own_max j1 j2)))), (.double (FP.i2d j2))])) τ
          refine own_dcmp X709.here hx rfl (Jvm.hb hby at_146) rfl ?_
          show Steps p.tables e below (T709.setTop (mkF m 147 #[.val (.int p1), .val (.int p2), .val (.int p3), .val (.int t2), .val (.int t1), .val (.int t0), .val (.int j0), .val (.int j1), .val (.int j2), .val (.double (FP.i2d j0)), .second, .val (.double (FP.i2d j1)), .second, .val (.double (FP.i2d j2)), .second, .val (.ref q), .val (.int (1 : Int32)), .unset, .unset, .unset] [(.int (cmpValue (FP.dcmp (FP.i2d j2) (FP.i2d (own_max j0 (own_max j1 j2)))) .l))])) τ
          refine XS.ifNo X709.here hx rfl (Jvm.hb hby at_147) rfl ((if0 _ _).trans (teq (own_eq (by first | rfl | (simp only [own_max_int]; omega)) _)).2) ?_
          show Steps p.tables e below (T709.setTop (mkF m 150 #[.val (.int p1), .val (.int p2), .val (.int p3), .val (.int t2), .val (.int t1), .val (.int t0), .val (.int j0), .val (.int j1), .val (.int j2), .val (.double (FP.i2d j0)), .second, .val (.double (FP.i2d j1)), .second, .val (.double (FP.i2d j2)), .second, .val (.ref q), .val (.int (1 : Int32)), .unset, .unset, .unset] [])) τ
          refine XS.iconst X709.here hx rfl (Jvm.hb hby at_150) ?_
          show Steps p.tables e below (T709.setTop (mkF m 151 #[.val (.int p1), .val (.int p2), .val (.int p3), .val (.int t2), .val (.int t1), .val (.int t0), .val (.int j0), .val (.int j1), .val (.int j2), .val (.double (FP.i2d j0)), .second, .val (.double (FP.i2d j1)), .second, .val (.double (FP.i2d j2)), .second, .val (.ref q), .val (.int (1 : Int32)), .unset, .unset, .unset] [(.int (1 : Int32))])) τ
          refine XS.goto X709.here hx rfl (pc0 := 151) (pc' := 155) rfl (Jvm.hb hby at_151) (by decide) (by decide) ?_
          show Steps p.tables e below (T709.setTop (mkF m 155 #[.val (.int p1), .val (.int p2), .val (.int p3), .val (.int t2), .val (.int t1), .val (.int t0), .val (.int j0), .val (.int j1), .val (.int j2), .val (.double (FP.i2d j0)), .second, .val (.double (FP.i2d j1)), .second, .val (.double (FP.i2d j2)), .second, .val (.ref q), .val (.int (1 : Int32)), .unset, .unset, .unset] [(.int (1 : Int32))])) τ
          refine XS.istore X709.here hx rfl (Jvm.hb hby at_155) rfl (l' := #[.val (.int p1), .val (.int p2), .val (.int p3), .val (.int t2), .val (.int t1), .val (.int t0), .val (.int j0), .val (.int j1), .val (.int j2), .val (.double (FP.i2d j0)), .second, .val (.double (FP.i2d j1)), .second, .val (.double (FP.i2d j2)), .second, .val (.ref q), .val (.int (1 : Int32)), .val (.int (1 : Int32)), .unset, .unset]) rfl ?_
          show Steps p.tables e below (T709.setTop (mkF m 157 #[.val (.int p1), .val (.int p2), .val (.int p3), .val (.int t2), .val (.int t1), .val (.int t0), .val (.int j0), .val (.int j1), .val (.int j2), .val (.double (FP.i2d j0)), .second, .val (.double (FP.i2d j1)), .second, .val (.double (FP.i2d j2)), .second, .val (.ref q), .val (.int (1 : Int32)), .val (.int (1 : Int32)), .unset, .unset] [])) τ
          refine XS.aload X709.here hx rfl (Jvm.hb hby at_157) rfl rfl ?_
          show Steps p.tables e below (T709.setTop (mkF m 159 #[.val (.int p1), .val (.int p2), .val (.int p3), .val (.int t2), .val (.int t1), .val (.int t0), .val (.int j0), .val (.int j1), .val (.int j2), .val (.double (FP.i2d j0)), .second, .val (.double (FP.i2d j1)), .second, .val (.double (FP.i2d j2)), .second, .val (.ref q), .val (.int (1 : Int32)), .val (.int (1 : Int32)), .unset, .unset] [(.ref q)])) τ
          refine XS.iload X709.here hx rfl (Jvm.hb hby at_159) rfl ?_
          exact kt)
        obtain ⟨cq727, kq727, qa727, qb727, qc727⟩ := isOf hZ eq709 f702
        obtain ⟨_, _, ⟨T727, L727, k727, n727⟩, -, X727, ⟨Lc727, hQ727, l727, y727, z727⟩, st727⟩ := X709.virtualBack hx (y := (⟨"com/example/counterpath/counterpath/core/CappedMaximum", "removeAfter", "(I)V"⟩ : MethodName)) (z := (⟨"com/example/counterpath/counterpath/core/CappedMaximum", "removeAfter", "(I)V"⟩ : MethodName)) hown (mvT hZ (hw _ (List.mem_of_getElem? (i := 33) rfl))) (mvT hZ (hw _ (List.mem_of_getElem? (i := 34) rfl))) (notFace_of_selects (args := #[]) (mvT hZ (hw _ (List.mem_of_getElem? (i := 36) rfl)))) (mvT hZ (hw _ (List.mem_of_getElem? (i := 36) rfl))) (mvT hZ (hw _ (List.mem_of_getElem? (i := 35) rfl))) (by decide) (backOf (W := 0) (rmRem_23_x l Z a0 hw [] q t1 A B kA kB (0 : Int32) t1 t2 (0 : UInt64) (FP.i2d j1) (FP.i2d j2) T700.heap n0 (Nat.le_trans Z0 K700.1) f702 f1_700 f2_700 f3_700 f4_700 f5_700 f6_700 naA naB nAB g_q gA gB (fun z => Int32.lt_asymm z l21)) hZ (hw _ (List.mem_of_getElem? (i := 37) rfl)) (hw _ (List.mem_of_getElem? (i := 2) rfl)) (by decide) (by decide)) qa727 qc727 (g := (mkF m 161 #[.val (.int p1), .val (.int p2), .val (.int p3), .val (.int t2), .val (.int t1), .val (.int t0), .val (.int j0), .val (.int j1), .val (.int j2), .val (.double (FP.i2d j0)), .second, .val (.double (FP.i2d j1)), .second, .val (.double (FP.i2d j2)), .second, .val (.ref q), .val (.int (1 : Int32)), .val (.int (1 : Int32)), .unset, .unset] [(.int t1), (.ref q)])) rfl (by rw [hml]; rfl) (Steps.refl _) (argsL := [(.int t1)]) (rest := []) (lenOf own_pd__I_V rfl) rfl (by show 2 * 0 + _ ≤ _; exact Nat.le_of_eq rfl) (Jvm.hb hby at_161) (fun _ _ => ⟨rfl, eq709, (by decide : 3 + 0 ≤ _), (by decide : 10 + 0 ≤ _)⟩)
        dsimp only [Pt.U, Pt.locs, Pt.cells, Pt.slots] at X727 l727 y727 z727 st727 hQ727
        subst l727 y727 z727
        obtain ⟨rfl, Nq727, Kq727, f1_727, f2_727, f3_727, f4_727, f5_727, f6_727⟩ := hQ727
        have N727 := Fr.app N709 Nq727
        have K727 : Keep h0 T727.heap [] := K700.trans Kq727 (allS (Or.inr sz_q) (allS (Or.inr sz_A) (allS (Or.inr sz_B) (all0))))
        have pre728 : ∀ τ, Steps p.tables e below (T727.setTop (mkF m 164 #[.val (.int p1), .val (.int p2), .val (.int p3), .val (.int t2), .val (.int t1), .val (.int t0), .val (.int j0), .val (.int j1), .val (.int j2), .val (.double (FP.i2d j0)), .second, .val (.double (FP.i2d j1)), .second, .val (.double (FP.i2d j2)), .second, .val (.ref q), .val (.int (1 : Int32)), .val (.int (1 : Int32)), .unset, .unset] [])) τ → Steps p.tables e below (s₁.setTop (entryFrame m #[(.int p1), (.int p2), (.int p3)] maxLocals)) τ := fun τ kt => pre726 τ ((st727).trans kt)
        have f729 := f702.keep Kq727
        have pre730 : ∀ τ, Steps p.tables e below (T727.setTop (mkF m 166 #[.val (.int p1), .val (.int p2), .val (.int p3), .val (.int t2), .val (.int t1), .val (.int t0), .val (.int j0), .val (.int j1), .val (.int j2), .val (.double (FP.i2d j0)), .second, .val (.double (FP.i2d j1)), .second, .val (.double (FP.i2d j2)), .second, .val (.ref q), .val (.int (1 : Int32)), .val (.int (1 : Int32)), .unset, .unset] [(.ref q)])) τ → Steps p.tables e below (s₁.setTop (entryFrame m #[(.int p1), (.int p2), (.int p3)] maxLocals)) τ := fun τ kt => pre728 τ (by
          show Steps p.tables e below (T727.setTop (mkF m 164 #[.val (.int p1), .val (.int p2), .val (.int p3), .val (.int t2), .val (.int t1), .val (.int t0), .val (.int j0), .val (.int j1), .val (.int j2), .val (.double (FP.i2d j0)), .second, .val (.double (FP.i2d j1)), .second, .val (.double (FP.i2d j2)), .second, .val (.ref q), .val (.int (1 : Int32)), .val (.int (1 : Int32)), .unset, .unset] [])) τ
          refine XS.aload X727.here hx rfl (Jvm.hb hby at_164) rfl rfl ?_
          exact kt)
        obtain ⟨cq731, kq731, qa731, qb731, qc731⟩ := isOf hZ rfl f729
        obtain ⟨_, _, ⟨T731, L731, k731, n731⟩, -, X731, ⟨Lc731, hQ731, l731, y731, z731⟩, st731⟩ := X727.virtualBack hx (y := (⟨"com/example/counterpath/counterpath/core/CappedMaximum", "maximum", "()D"⟩ : MethodName)) (z := (⟨"com/example/counterpath/counterpath/core/CappedMaximum", "maximum", "()D"⟩ : MethodName)) hown (mvT hZ (hw _ (List.mem_of_getElem? (i := 24) rfl))) (mvT hZ (hw _ (List.mem_of_getElem? (i := 25) rfl))) (notFace_of_selects (args := #[]) (mvT hZ (hw _ (List.mem_of_getElem? (i := 27) rfl)))) (mvT hZ (hw _ (List.mem_of_getElem? (i := 27) rfl))) (mvT hZ (hw _ (List.mem_of_getElem? (i := 26) rfl))) (by decide) (backOf (W := 0) (rmMax_23 l Z a0 hw [] q A B kA kB (0 : Int32) t1 t2 (0 : UInt64) (FP.i2d j1) (FP.i2d j2) T727.heap n0 (Nat.le_trans Z0 K727.1) f729 f1_727 f2_727 f3_727 f4_727 f5_727 f6_727 naA naB nAB g_q gA gB) hZ (hw _ (List.mem_of_getElem? (i := 28) rfl)) (hw _ (List.mem_of_getElem? (i := 2) rfl)) (by decide) (by decide)) qa731 qc731 (g := (mkF m 166 #[.val (.int p1), .val (.int p2), .val (.int p3), .val (.int t2), .val (.int t1), .val (.int t0), .val (.int j0), .val (.int j1), .val (.int j2), .val (.double (FP.i2d j0)), .second, .val (.double (FP.i2d j1)), .second, .val (.double (FP.i2d j2)), .second, .val (.ref q), .val (.int (1 : Int32)), .val (.int (1 : Int32)), .unset, .unset] [(.ref q)])) rfl (by rw [hml]; rfl) (Steps.refl _) (argsL := []) (rest := []) (lenOf own_pd___D rfl) rfl (by show 2 * 0 + _ ≤ _; exact Nat.le_of_eq rfl) (Jvm.hb hby at_166) (fun _ _ => ⟨rfl, rfl, (by decide : 3 + 0 ≤ _), (by decide : 10 + 0 ≤ _)⟩)
        dsimp only [Pt.U, Pt.locs, Pt.cells, Pt.slots] at X731 l731 y731 z731 st731 hQ731
        subst l731 y731 z731
        obtain ⟨rfl, Nq731, eq731⟩ := hQ731
        have N731 := Fr.app N727 Nq731
        have pre732 : ∀ τ, Steps p.tables e below (T731.setTop (mkF m 169 #[.val (.int p1), .val (.int p2), .val (.int p3), .val (.int t2), .val (.int t1), .val (.int t0), .val (.int j0), .val (.int j1), .val (.int j2), .val (.double (FP.i2d j0)), .second, .val (.double (FP.i2d j1)), .second, .val (.double (FP.i2d j2)), .second, .val (.ref q), .val (.int (1 : Int32)), .val (.int (1 : Int32)), .unset, .unset] [(.double (FP.i2d j2))])) τ → Steps p.tables e below (s₁.setTop (entryFrame m #[(.int p1), (.int p2), (.int p3)] maxLocals)) τ := fun τ kt => pre730 τ ((st731).trans kt)
        have pre733 : ∀ τ, Steps p.tables e below (T731.setTop (mkF m 173 #[.val (.int p1), .val (.int p2), .val (.int p3), .val (.int t2), .val (.int t1), .val (.int t0), .val (.int j0), .val (.int j1), .val (.int j2), .val (.double (FP.i2d j0)), .second, .val (.double (FP.i2d j1)), .second, .val (.double (FP.i2d j2)), .second, .val (.ref q), .val (.int (1 : Int32)), .val (.int (1 : Int32)), .unset, .unset] [(.int j2), (.int j1), (.double (FP.i2d j2))])) τ → Steps p.tables e below (s₁.setTop (entryFrame m #[(.int p1), (.int p2), (.int p3)] maxLocals)) τ := fun τ kt => pre732 τ (by
          show Steps p.tables e below (T731.setTop (mkF m 169 #[.val (.int p1), .val (.int p2), .val (.int p3), .val (.int t2), .val (.int t1), .val (.int t0), .val (.int j0), .val (.int j1), .val (.int j2), .val (.double (FP.i2d j0)), .second, .val (.double (FP.i2d j1)), .second, .val (.double (FP.i2d j2)), .second, .val (.ref q), .val (.int (1 : Int32)), .val (.int (1 : Int32)), .unset, .unset] [(.double (FP.i2d j2))])) τ
          refine XS.iload X731.here hx rfl (Jvm.hb hby at_169) rfl ?_
          show Steps p.tables e below (T731.setTop (mkF m 171 #[.val (.int p1), .val (.int p2), .val (.int p3), .val (.int t2), .val (.int t1), .val (.int t0), .val (.int j0), .val (.int j1), .val (.int j2), .val (.double (FP.i2d j0)), .second, .val (.double (FP.i2d j1)), .second, .val (.double (FP.i2d j2)), .second, .val (.ref q), .val (.int (1 : Int32)), .val (.int (1 : Int32)), .unset, .unset] [(.int j1), (.double (FP.i2d j2))])) τ
          refine XS.iload X731.here hx rfl (Jvm.hb hby at_171) rfl ?_
          exact kt)
        obtain ⟨_, _, ⟨T734, L734, k734, n734⟩, -, X734, ⟨Lc734, hQ734, l734, y734, z734⟩, st734⟩ := Jvm.LawKit.callS X731 hx (y := (⟨"java/lang/Math", "max", "(II)I"⟩ : MethodName)) hown (mvT hZ (hw _ (List.mem_of_getElem? (i := 29) rfl))) (mvT hZ (hw _ (List.mem_of_getElem? (i := 30) rfl))) (mvT hZ (hw _ (List.mem_of_getElem? (i := 31) rfl))) (mvT hZ (hw _ (List.mem_of_getElem? (i := 32) rfl))) (by decide) (backOf (W := 2) (rmM l Z a0 hw [] j1 j2 T727.heap n0 (Nat.le_trans Z0 K727.1)) hZ (hw _ (List.mem_of_getElem? (i := 32) rfl)) (hw _ (List.mem_of_getElem? (i := 31) rfl)) (by decide) (by decide)) (g := (mkF m 173 #[.val (.int p1), .val (.int p2), .val (.int p3), .val (.int t2), .val (.int t1), .val (.int t0), .val (.int j0), .val (.int j1), .val (.int j2), .val (.double (FP.i2d j0)), .second, .val (.double (FP.i2d j1)), .second, .val (.double (FP.i2d j2)), .second, .val (.ref q), .val (.int (1 : Int32)), .val (.int (1 : Int32)), .unset, .unset] [(.int j2), (.int j1), (.double (FP.i2d j2))])) rfl (by rw [hml]; rfl) (argsL := [(.int j1), (.int j2)]) (rest := [(.double (FP.i2d j2))]) (lenOf own_pd__II_I rfl) rfl (by show 2 * 0 + _ ≤ _; exact Nat.le_of_eq rfl) (Jvm.hb hby at_173) (fun _ _ => ⟨rfl, eq731, (by decide : 3 + 0 ≤ _), (by decide : 10 + 0 ≤ _)⟩)
        dsimp only [Pt.U, Pt.locs, Pt.cells, Pt.slots] at X734 l734 y734 z734 st734 hQ734
        subst l734 y734 z734
        obtain ⟨rfl, Nq734, eq734⟩ := hQ734
        have N734 := Fr.app N731 Nq734
        have pre735 : ∀ τ, Steps p.tables e below (T734.setTop (mkF m 176 #[.val (.int p1), .val (.int p2), .val (.int p3), .val (.int t2), .val (.int t1), .val (.int t0), .val (.int j0), .val (.int j1), .val (.int j2), .val (.double (FP.i2d j0)), .second, .val (.double (FP.i2d j1)), .second, .val (.double (FP.i2d j2)), .second, .val (.ref q), .val (.int (1 : Int32)), .val (.int (1 : Int32)), .unset, .unset] [(.int (own_max j1 j2)), (.double (FP.i2d j2))])) τ → Steps p.tables e below (s₁.setTop (entryFrame m #[(.int p1), (.int p2), (.int p3)] maxLocals)) τ := fun τ kt => pre733 τ (st734 τ kt)
        have pre736 : ∀ τ, Steps p.tables e below (T734.setTop (mkF m 191 #[.val (.int p1), .val (.int p2), .val (.int p3), .val (.int t2), .val (.int t1), .val (.int t0), .val (.int j0), .val (.int j1), .val (.int j2), .val (.double (FP.i2d j0)), .second, .val (.double (FP.i2d j1)), .second, .val (.double (FP.i2d j2)), .second, .val (.ref q), .val (.int (1 : Int32)), .val (.int (1 : Int32)), .val (.int (1 : Int32)), .unset] [(.int t2), (.ref q)])) τ → Steps p.tables e below (s₁.setTop (entryFrame m #[(.int p1), (.int p2), (.int p3)] maxLocals)) τ := fun τ kt => pre735 τ (by
          show Steps p.tables e below (T734.setTop (mkF m 176 #[.val (.int p1), .val (.int p2), .val (.int p3), .val (.int t2), .val (.int t1), .val (.int t0), .val (.int j0), .val (.int j1), .val (.int j2), .val (.double (FP.i2d j0)), .second, .val (.double (FP.i2d j1)), .second, .val (.double (FP.i2d j2)), .second, .val (.ref q), .val (.int (1 : Int32)), .val (.int (1 : Int32)), .unset, .unset] [(.int (own_max j1 j2)), (.double (FP.i2d j2))])) τ
          refine own_i2d X734.here hx rfl (Jvm.hb hby at_176) rfl ?_
          show Steps p.tables e below (T734.setTop (mkF m 177 #[.val (.int p1), .val (.int p2), .val (.int p3), .val (.int t2), .val (.int t1), .val (.int t0), .val (.int j0), .val (.int j1), .val (.int j2), .val (.double (FP.i2d j0)), .second, .val (.double (FP.i2d j1)), .second, .val (.double (FP.i2d j2)), .second, .val (.ref q), .val (.int (1 : Int32)), .val (.int (1 : Int32)), .unset, .unset] [(.double (FP.i2d (own_max j1 j2))), (.double (FP.i2d j2))])) τ
          refine own_dcmp X734.here hx rfl (Jvm.hb hby at_177) rfl ?_
          show Steps p.tables e below (T734.setTop (mkF m 178 #[.val (.int p1), .val (.int p2), .val (.int p3), .val (.int t2), .val (.int t1), .val (.int t0), .val (.int j0), .val (.int j1), .val (.int j2), .val (.double (FP.i2d j0)), .second, .val (.double (FP.i2d j1)), .second, .val (.double (FP.i2d j2)), .second, .val (.ref q), .val (.int (1 : Int32)), .val (.int (1 : Int32)), .unset, .unset] [(.int (cmpValue (FP.dcmp (FP.i2d j2) (FP.i2d (own_max j1 j2))) .l))])) τ
          refine XS.ifNo X734.here hx rfl (Jvm.hb hby at_178) rfl ((if0 _ _).trans (teq (own_eq (by first | rfl | (simp only [own_max_int]; omega)) _)).2) ?_
          show Steps p.tables e below (T734.setTop (mkF m 181 #[.val (.int p1), .val (.int p2), .val (.int p3), .val (.int t2), .val (.int t1), .val (.int t0), .val (.int j0), .val (.int j1), .val (.int j2), .val (.double (FP.i2d j0)), .second, .val (.double (FP.i2d j1)), .second, .val (.double (FP.i2d j2)), .second, .val (.ref q), .val (.int (1 : Int32)), .val (.int (1 : Int32)), .unset, .unset] [])) τ
          refine XS.iconst X734.here hx rfl (Jvm.hb hby at_181) ?_
          show Steps p.tables e below (T734.setTop (mkF m 182 #[.val (.int p1), .val (.int p2), .val (.int p3), .val (.int t2), .val (.int t1), .val (.int t0), .val (.int j0), .val (.int j1), .val (.int j2), .val (.double (FP.i2d j0)), .second, .val (.double (FP.i2d j1)), .second, .val (.double (FP.i2d j2)), .second, .val (.ref q), .val (.int (1 : Int32)), .val (.int (1 : Int32)), .unset, .unset] [(.int (1 : Int32))])) τ
          refine XS.goto X734.here hx rfl (pc0 := 182) (pc' := 186) rfl (Jvm.hb hby at_182) (by decide) (by decide) ?_
          show Steps p.tables e below (T734.setTop (mkF m 186 #[.val (.int p1), .val (.int p2), .val (.int p3), .val (.int t2), .val (.int t1), .val (.int t0), .val (.int j0), .val (.int j1), .val (.int j2), .val (.double (FP.i2d j0)), .second, .val (.double (FP.i2d j1)), .second, .val (.double (FP.i2d j2)), .second, .val (.ref q), .val (.int (1 : Int32)), .val (.int (1 : Int32)), .unset, .unset] [(.int (1 : Int32))])) τ
          refine XS.istore X734.here hx rfl (Jvm.hb hby at_186) rfl (l' := #[.val (.int p1), .val (.int p2), .val (.int p3), .val (.int t2), .val (.int t1), .val (.int t0), .val (.int j0), .val (.int j1), .val (.int j2), .val (.double (FP.i2d j0)), .second, .val (.double (FP.i2d j1)), .second, .val (.double (FP.i2d j2)), .second, .val (.ref q), .val (.int (1 : Int32)), .val (.int (1 : Int32)), .val (.int (1 : Int32)), .unset]) rfl ?_
          show Steps p.tables e below (T734.setTop (mkF m 188 #[.val (.int p1), .val (.int p2), .val (.int p3), .val (.int t2), .val (.int t1), .val (.int t0), .val (.int j0), .val (.int j1), .val (.int j2), .val (.double (FP.i2d j0)), .second, .val (.double (FP.i2d j1)), .second, .val (.double (FP.i2d j2)), .second, .val (.ref q), .val (.int (1 : Int32)), .val (.int (1 : Int32)), .val (.int (1 : Int32)), .unset] [])) τ
          refine XS.aload X734.here hx rfl (Jvm.hb hby at_188) rfl rfl ?_
          show Steps p.tables e below (T734.setTop (mkF m 190 #[.val (.int p1), .val (.int p2), .val (.int p3), .val (.int t2), .val (.int t1), .val (.int t0), .val (.int j0), .val (.int j1), .val (.int j2), .val (.double (FP.i2d j0)), .second, .val (.double (FP.i2d j1)), .second, .val (.double (FP.i2d j2)), .second, .val (.ref q), .val (.int (1 : Int32)), .val (.int (1 : Int32)), .val (.int (1 : Int32)), .unset] [(.ref q)])) τ
          refine XS.iloadN X734.here hx rfl (Jvm.hb hby at_190) rfl ?_
          exact kt)
        obtain ⟨cq737, kq737, qa737, qb737, qc737⟩ := isOf hZ eq734 f729
        obtain ⟨_, _, ⟨T737, L737, k737, n737⟩, -, X737, ⟨Lc737, hQ737, l737, y737, z737⟩, st737⟩ := X734.virtualBack hx (y := (⟨"com/example/counterpath/counterpath/core/CappedMaximum", "removeAfter", "(I)V"⟩ : MethodName)) (z := (⟨"com/example/counterpath/counterpath/core/CappedMaximum", "removeAfter", "(I)V"⟩ : MethodName)) hown (mvT hZ (hw _ (List.mem_of_getElem? (i := 33) rfl))) (mvT hZ (hw _ (List.mem_of_getElem? (i := 34) rfl))) (notFace_of_selects (args := #[]) (mvT hZ (hw _ (List.mem_of_getElem? (i := 36) rfl)))) (mvT hZ (hw _ (List.mem_of_getElem? (i := 36) rfl))) (mvT hZ (hw _ (List.mem_of_getElem? (i := 35) rfl))) (by decide) (backOf (W := 0) (rmRem_23_x l Z a0 hw [] q t2 A B kA kB (0 : Int32) t1 t2 (0 : UInt64) (FP.i2d j1) (FP.i2d j2) T727.heap n0 (Nat.le_trans Z0 K727.1) f729 f1_727 f2_727 f3_727 f4_727 f5_727 f6_727 naA naB nAB g_q gA gB (fun z => Int32.lt_irrefl z)) hZ (hw _ (List.mem_of_getElem? (i := 37) rfl)) (hw _ (List.mem_of_getElem? (i := 2) rfl)) (by decide) (by decide)) qa737 qc737 (g := (mkF m 191 #[.val (.int p1), .val (.int p2), .val (.int p3), .val (.int t2), .val (.int t1), .val (.int t0), .val (.int j0), .val (.int j1), .val (.int j2), .val (.double (FP.i2d j0)), .second, .val (.double (FP.i2d j1)), .second, .val (.double (FP.i2d j2)), .second, .val (.ref q), .val (.int (1 : Int32)), .val (.int (1 : Int32)), .val (.int (1 : Int32)), .unset] [(.int t2), (.ref q)])) rfl (by rw [hml]; rfl) (Steps.refl _) (argsL := [(.int t2)]) (rest := []) (lenOf own_pd__I_V rfl) rfl (by show 2 * 0 + _ ≤ _; exact Nat.le_of_eq rfl) (Jvm.hb hby at_191) (fun _ _ => ⟨rfl, eq734, (by decide : 3 + 0 ≤ _), (by decide : 10 + 0 ≤ _)⟩)
        dsimp only [Pt.U, Pt.locs, Pt.cells, Pt.slots] at X737 l737 y737 z737 st737 hQ737
        subst l737 y737 z737
        obtain ⟨rfl, Nq737, Kq737, f1_737, f2_737, f3_737, f4_737, f5_737, f6_737⟩ := hQ737
        have N737 := Fr.app N734 Nq737
        have K737 : Keep h0 T737.heap [] := K727.trans Kq737 (allS (Or.inr sz_q) (allS (Or.inr sz_A) (allS (Or.inr sz_B) (all0))))
        have pre738 : ∀ τ, Steps p.tables e below (T737.setTop (mkF m 194 #[.val (.int p1), .val (.int p2), .val (.int p3), .val (.int t2), .val (.int t1), .val (.int t0), .val (.int j0), .val (.int j1), .val (.int j2), .val (.double (FP.i2d j0)), .second, .val (.double (FP.i2d j1)), .second, .val (.double (FP.i2d j2)), .second, .val (.ref q), .val (.int (1 : Int32)), .val (.int (1 : Int32)), .val (.int (1 : Int32)), .unset] [])) τ → Steps p.tables e below (s₁.setTop (entryFrame m #[(.int p1), (.int p2), (.int p3)] maxLocals)) τ := fun τ kt => pre736 τ ((st737).trans kt)
        have f739 := f729.keep Kq737
        have pre740 : ∀ τ, Steps p.tables e below (T737.setTop (mkF m 196 #[.val (.int p1), .val (.int p2), .val (.int p3), .val (.int t2), .val (.int t1), .val (.int t0), .val (.int j0), .val (.int j1), .val (.int j2), .val (.double (FP.i2d j0)), .second, .val (.double (FP.i2d j1)), .second, .val (.double (FP.i2d j2)), .second, .val (.ref q), .val (.int (1 : Int32)), .val (.int (1 : Int32)), .val (.int (1 : Int32)), .unset] [(.ref q)])) τ → Steps p.tables e below (s₁.setTop (entryFrame m #[(.int p1), (.int p2), (.int p3)] maxLocals)) τ := fun τ kt => pre738 τ (by
          show Steps p.tables e below (T737.setTop (mkF m 194 #[.val (.int p1), .val (.int p2), .val (.int p3), .val (.int t2), .val (.int t1), .val (.int t0), .val (.int j0), .val (.int j1), .val (.int j2), .val (.double (FP.i2d j0)), .second, .val (.double (FP.i2d j1)), .second, .val (.double (FP.i2d j2)), .second, .val (.ref q), .val (.int (1 : Int32)), .val (.int (1 : Int32)), .val (.int (1 : Int32)), .unset] [])) τ
          refine XS.aload X737.here hx rfl (Jvm.hb hby at_194) rfl rfl ?_
          exact kt)
        obtain ⟨cq741, kq741, qa741, qb741, qc741⟩ := isOf hZ rfl f739
        obtain ⟨_, _, ⟨T741, L741, k741, n741⟩, -, X741, ⟨Lc741, hQ741, l741, y741, z741⟩, st741⟩ := X737.virtualBack hx (y := (⟨"com/example/counterpath/counterpath/core/CappedMaximum", "maximum", "()D"⟩ : MethodName)) (z := (⟨"com/example/counterpath/counterpath/core/CappedMaximum", "maximum", "()D"⟩ : MethodName)) hown (mvT hZ (hw _ (List.mem_of_getElem? (i := 24) rfl))) (mvT hZ (hw _ (List.mem_of_getElem? (i := 25) rfl))) (notFace_of_selects (args := #[]) (mvT hZ (hw _ (List.mem_of_getElem? (i := 27) rfl)))) (mvT hZ (hw _ (List.mem_of_getElem? (i := 27) rfl))) (mvT hZ (hw _ (List.mem_of_getElem? (i := 26) rfl))) (by decide) (backOf (W := 0) (rmMax_23 l Z a0 hw [] q A B kA kB (0 : Int32) t1 t2 (0 : UInt64) (FP.i2d j1) (FP.i2d j2) T737.heap n0 (Nat.le_trans Z0 K737.1) f739 f1_737 f2_737 f3_737 f4_737 f5_737 f6_737 naA naB nAB g_q gA gB) hZ (hw _ (List.mem_of_getElem? (i := 28) rfl)) (hw _ (List.mem_of_getElem? (i := 2) rfl)) (by decide) (by decide)) qa741 qc741 (g := (mkF m 196 #[.val (.int p1), .val (.int p2), .val (.int p3), .val (.int t2), .val (.int t1), .val (.int t0), .val (.int j0), .val (.int j1), .val (.int j2), .val (.double (FP.i2d j0)), .second, .val (.double (FP.i2d j1)), .second, .val (.double (FP.i2d j2)), .second, .val (.ref q), .val (.int (1 : Int32)), .val (.int (1 : Int32)), .val (.int (1 : Int32)), .unset] [(.ref q)])) rfl (by rw [hml]; rfl) (Steps.refl _) (argsL := []) (rest := []) (lenOf own_pd___D rfl) rfl (by show 2 * 0 + _ ≤ _; exact Nat.le_of_eq rfl) (Jvm.hb hby at_196) (fun _ _ => ⟨rfl, rfl, (by decide : 3 + 0 ≤ _), (by decide : 10 + 0 ≤ _)⟩)
        dsimp only [Pt.U, Pt.locs, Pt.cells, Pt.slots] at X741 l741 y741 z741 st741 hQ741
        subst l741 y741 z741
        obtain ⟨rfl, Nq741, eq741⟩ := hQ741
        have N741 := Fr.app N737 Nq741
        have pre742 : ∀ τ, Steps p.tables e below (T741.setTop (mkF m 199 #[.val (.int p1), .val (.int p2), .val (.int p3), .val (.int t2), .val (.int t1), .val (.int t0), .val (.int j0), .val (.int j1), .val (.int j2), .val (.double (FP.i2d j0)), .second, .val (.double (FP.i2d j1)), .second, .val (.double (FP.i2d j2)), .second, .val (.ref q), .val (.int (1 : Int32)), .val (.int (1 : Int32)), .val (.int (1 : Int32)), .unset] [(.double (FP.i2d j2))])) τ → Steps p.tables e below (s₁.setTop (entryFrame m #[(.int p1), (.int p2), (.int p3)] maxLocals)) τ := fun τ kt => pre740 τ ((st741).trans kt)
        have pre743 : ∀ τ, Steps p.tables e below (T741.setTop (mkF m 237 #[.val (.int p1), .val (.int p2), .val (.int p3), .val (.int t2), .val (.int t1), .val (.int t0), .val (.int j0), .val (.int j1), .val (.int j2), .val (.double (FP.i2d j0)), .second, .val (.double (FP.i2d j1)), .second, .val (.double (FP.i2d j2)), .second, .val (.ref q), .val (.int (1 : Int32)), .val (.int (1 : Int32)), .val (.int (1 : Int32)), .val (.int (1 : Int32))] [(.int (1 : Int32))])) τ → Steps p.tables e below (s₁.setTop (entryFrame m #[(.int p1), (.int p2), (.int p3)] maxLocals)) τ := fun τ kt => pre742 τ (by
          show Steps p.tables e below (T741.setTop (mkF m 199 #[.val (.int p1), .val (.int p2), .val (.int p3), .val (.int t2), .val (.int t1), .val (.int t0), .val (.int j0), .val (.int j1), .val (.int j2), .val (.double (FP.i2d j0)), .second, .val (.double (FP.i2d j1)), .second, .val (.double (FP.i2d j2)), .second, .val (.ref q), .val (.int (1 : Int32)), .val (.int (1 : Int32)), .val (.int (1 : Int32)), .unset] [(.double (FP.i2d j2))])) τ
          refine own_dload X741.here hx rfl (Jvm.hb hby at_199) rfl ?_
          show Steps p.tables e below (T741.setTop (mkF m 201 #[.val (.int p1), .val (.int p2), .val (.int p3), .val (.int t2), .val (.int t1), .val (.int t0), .val (.int j0), .val (.int j1), .val (.int j2), .val (.double (FP.i2d j0)), .second, .val (.double (FP.i2d j1)), .second, .val (.double (FP.i2d j2)), .second, .val (.ref q), .val (.int (1 : Int32)), .val (.int (1 : Int32)), .val (.int (1 : Int32)), .unset] [(.double (FP.i2d j2)), (.double (FP.i2d j2))])) τ
          refine own_dcmp X741.here hx rfl (Jvm.hb hby at_201) rfl ?_
          show Steps p.tables e below (T741.setTop (mkF m 202 #[.val (.int p1), .val (.int p2), .val (.int p3), .val (.int t2), .val (.int t1), .val (.int t0), .val (.int j0), .val (.int j1), .val (.int j2), .val (.double (FP.i2d j0)), .second, .val (.double (FP.i2d j1)), .second, .val (.double (FP.i2d j2)), .second, .val (.ref q), .val (.int (1 : Int32)), .val (.int (1 : Int32)), .val (.int (1 : Int32)), .unset] [(.int (cmpValue (FP.dcmp (FP.i2d j2) (FP.i2d j2)) .l))])) τ
          refine XS.ifNo X741.here hx rfl (Jvm.hb hby at_202) rfl ((if0 _ _).trans (teq (own_eq (by first | rfl | (simp only [own_max_int]; omega)) _)).2) ?_
          show Steps p.tables e below (T741.setTop (mkF m 205 #[.val (.int p1), .val (.int p2), .val (.int p3), .val (.int t2), .val (.int t1), .val (.int t0), .val (.int j0), .val (.int j1), .val (.int j2), .val (.double (FP.i2d j0)), .second, .val (.double (FP.i2d j1)), .second, .val (.double (FP.i2d j2)), .second, .val (.ref q), .val (.int (1 : Int32)), .val (.int (1 : Int32)), .val (.int (1 : Int32)), .unset] [])) τ
          refine XS.iconst X741.here hx rfl (Jvm.hb hby at_205) ?_
          show Steps p.tables e below (T741.setTop (mkF m 206 #[.val (.int p1), .val (.int p2), .val (.int p3), .val (.int t2), .val (.int t1), .val (.int t0), .val (.int j0), .val (.int j1), .val (.int j2), .val (.double (FP.i2d j0)), .second, .val (.double (FP.i2d j1)), .second, .val (.double (FP.i2d j2)), .second, .val (.ref q), .val (.int (1 : Int32)), .val (.int (1 : Int32)), .val (.int (1 : Int32)), .unset] [(.int (1 : Int32))])) τ
          refine XS.goto X741.here hx rfl (pc0 := 206) (pc' := 210) rfl (Jvm.hb hby at_206) (by decide) (by decide) ?_
          show Steps p.tables e below (T741.setTop (mkF m 210 #[.val (.int p1), .val (.int p2), .val (.int p3), .val (.int t2), .val (.int t1), .val (.int t0), .val (.int j0), .val (.int j1), .val (.int j2), .val (.double (FP.i2d j0)), .second, .val (.double (FP.i2d j1)), .second, .val (.double (FP.i2d j2)), .second, .val (.ref q), .val (.int (1 : Int32)), .val (.int (1 : Int32)), .val (.int (1 : Int32)), .unset] [(.int (1 : Int32))])) τ
          refine XS.istore X741.here hx rfl (Jvm.hb hby at_210) rfl (l' := #[.val (.int p1), .val (.int p2), .val (.int p3), .val (.int t2), .val (.int t1), .val (.int t0), .val (.int j0), .val (.int j1), .val (.int j2), .val (.double (FP.i2d j0)), .second, .val (.double (FP.i2d j1)), .second, .val (.double (FP.i2d j2)), .second, .val (.ref q), .val (.int (1 : Int32)), .val (.int (1 : Int32)), .val (.int (1 : Int32)), .val (.int (1 : Int32))]) rfl ?_
          show Steps p.tables e below (T741.setTop (mkF m 212 #[.val (.int p1), .val (.int p2), .val (.int p3), .val (.int t2), .val (.int t1), .val (.int t0), .val (.int j0), .val (.int j1), .val (.int j2), .val (.double (FP.i2d j0)), .second, .val (.double (FP.i2d j1)), .second, .val (.double (FP.i2d j2)), .second, .val (.ref q), .val (.int (1 : Int32)), .val (.int (1 : Int32)), .val (.int (1 : Int32)), .val (.int (1 : Int32))] [])) τ
          refine XS.iload X741.here hx rfl (Jvm.hb hby at_212) rfl ?_
          show Steps p.tables e below (T741.setTop (mkF m 214 #[.val (.int p1), .val (.int p2), .val (.int p3), .val (.int t2), .val (.int t1), .val (.int t0), .val (.int j0), .val (.int j1), .val (.int j2), .val (.double (FP.i2d j0)), .second, .val (.double (FP.i2d j1)), .second, .val (.double (FP.i2d j2)), .second, .val (.ref q), .val (.int (1 : Int32)), .val (.int (1 : Int32)), .val (.int (1 : Int32)), .val (.int (1 : Int32))] [(.int (1 : Int32))])) τ
          refine XS.ifNo X741.here hx rfl (Jvm.hb hby at_214) rfl ((if0 _ _).trans (feq (by decide)).1) ?_
          show Steps p.tables e below (T741.setTop (mkF m 217 #[.val (.int p1), .val (.int p2), .val (.int p3), .val (.int t2), .val (.int t1), .val (.int t0), .val (.int j0), .val (.int j1), .val (.int j2), .val (.double (FP.i2d j0)), .second, .val (.double (FP.i2d j1)), .second, .val (.double (FP.i2d j2)), .second, .val (.ref q), .val (.int (1 : Int32)), .val (.int (1 : Int32)), .val (.int (1 : Int32)), .val (.int (1 : Int32))] [])) τ
          refine XS.iload X741.here hx rfl (Jvm.hb hby at_217) rfl ?_
          show Steps p.tables e below (T741.setTop (mkF m 219 #[.val (.int p1), .val (.int p2), .val (.int p3), .val (.int t2), .val (.int t1), .val (.int t0), .val (.int j0), .val (.int j1), .val (.int j2), .val (.double (FP.i2d j0)), .second, .val (.double (FP.i2d j1)), .second, .val (.double (FP.i2d j2)), .second, .val (.ref q), .val (.int (1 : Int32)), .val (.int (1 : Int32)), .val (.int (1 : Int32)), .val (.int (1 : Int32))] [(.int (1 : Int32))])) τ
          refine XS.ifNo X741.here hx rfl (Jvm.hb hby at_219) rfl ((if0 _ _).trans (feq (by decide)).1) ?_
          show Steps p.tables e below (T741.setTop (mkF m 222 #[.val (.int p1), .val (.int p2), .val (.int p3), .val (.int t2), .val (.int t1), .val (.int t0), .val (.int j0), .val (.int j1), .val (.int j2), .val (.double (FP.i2d j0)), .second, .val (.double (FP.i2d j1)), .second, .val (.double (FP.i2d j2)), .second, .val (.ref q), .val (.int (1 : Int32)), .val (.int (1 : Int32)), .val (.int (1 : Int32)), .val (.int (1 : Int32))] [])) τ
          refine XS.iload X741.here hx rfl (Jvm.hb hby at_222) rfl ?_
          show Steps p.tables e below (T741.setTop (mkF m 224 #[.val (.int p1), .val (.int p2), .val (.int p3), .val (.int t2), .val (.int t1), .val (.int t0), .val (.int j0), .val (.int j1), .val (.int j2), .val (.double (FP.i2d j0)), .second, .val (.double (FP.i2d j1)), .second, .val (.double (FP.i2d j2)), .second, .val (.ref q), .val (.int (1 : Int32)), .val (.int (1 : Int32)), .val (.int (1 : Int32)), .val (.int (1 : Int32))] [(.int (1 : Int32))])) τ
          refine XS.ifNo X741.here hx rfl (Jvm.hb hby at_224) rfl ((if0 _ _).trans (feq (by decide)).1) ?_
          show Steps p.tables e below (T741.setTop (mkF m 227 #[.val (.int p1), .val (.int p2), .val (.int p3), .val (.int t2), .val (.int t1), .val (.int t0), .val (.int j0), .val (.int j1), .val (.int j2), .val (.double (FP.i2d j0)), .second, .val (.double (FP.i2d j1)), .second, .val (.double (FP.i2d j2)), .second, .val (.ref q), .val (.int (1 : Int32)), .val (.int (1 : Int32)), .val (.int (1 : Int32)), .val (.int (1 : Int32))] [])) τ
          refine XS.iload X741.here hx rfl (Jvm.hb hby at_227) rfl ?_
          show Steps p.tables e below (T741.setTop (mkF m 229 #[.val (.int p1), .val (.int p2), .val (.int p3), .val (.int t2), .val (.int t1), .val (.int t0), .val (.int j0), .val (.int j1), .val (.int j2), .val (.double (FP.i2d j0)), .second, .val (.double (FP.i2d j1)), .second, .val (.double (FP.i2d j2)), .second, .val (.ref q), .val (.int (1 : Int32)), .val (.int (1 : Int32)), .val (.int (1 : Int32)), .val (.int (1 : Int32))] [(.int (1 : Int32))])) τ
          refine XS.ifNo X741.here hx rfl (Jvm.hb hby at_229) rfl ((if0 _ _).trans (feq (by decide)).1) ?_
          show Steps p.tables e below (T741.setTop (mkF m 232 #[.val (.int p1), .val (.int p2), .val (.int p3), .val (.int t2), .val (.int t1), .val (.int t0), .val (.int j0), .val (.int j1), .val (.int j2), .val (.double (FP.i2d j0)), .second, .val (.double (FP.i2d j1)), .second, .val (.double (FP.i2d j2)), .second, .val (.ref q), .val (.int (1 : Int32)), .val (.int (1 : Int32)), .val (.int (1 : Int32)), .val (.int (1 : Int32))] [])) τ
          refine XS.iconst X741.here hx rfl (Jvm.hb hby at_232) ?_
          show Steps p.tables e below (T741.setTop (mkF m 233 #[.val (.int p1), .val (.int p2), .val (.int p3), .val (.int t2), .val (.int t1), .val (.int t0), .val (.int j0), .val (.int j1), .val (.int j2), .val (.double (FP.i2d j0)), .second, .val (.double (FP.i2d j1)), .second, .val (.double (FP.i2d j2)), .second, .val (.ref q), .val (.int (1 : Int32)), .val (.int (1 : Int32)), .val (.int (1 : Int32)), .val (.int (1 : Int32))] [(.int (1 : Int32))])) τ
          refine XS.goto X741.here hx rfl (pc0 := 233) (pc' := 237) rfl (Jvm.hb hby at_233) (by decide) (by decide) ?_
          exact kt)
        obtain ⟨fs, hrL, hrun, hended, hW, hsame⟩ := X741.leave (v := some (.int (1 : Int32))) (fun h => by rw [Bd.returns] at h; cases h)
        refine ⟨_, _, pre743 _ ?_, hrun, hended, _, _, rfl, ?_, ⟨_, rfl⟩, hW, hsame.mono (by decide) (by decide)⟩
        · show Steps p.tables e below (T741.setTop (mkF m 237 #[.val (.int p1), .val (.int p2), .val (.int p3), .val (.int t2), .val (.int t1), .val (.int t0), .val (.int j0), .val (.int j1), .val (.int j2), .val (.double (FP.i2d j0)), .second, .val (.double (FP.i2d j1)), .second, .val (.double (FP.i2d j2)), .second, .val (.ref q), .val (.int (1 : Int32)), .val (.int (1 : Int32)), .val (.int (1 : Int32)), .val (.int (1 : Int32))] [(.int (1 : Int32))])) _
          exact retN X741 hx (t := .boolean) Bd.returns (by simp) (Jvm.hb hby at_237) hrL
        · show Q0 n0 _ T741.heap _
          exact ⟨rfl, N741⟩
  · skip
    obtain ⟨cq816, kq816, qa816, qb816, qc816⟩ := isOf hZ eq136 f134
    obtain ⟨_, _, ⟨T816, L816, k816, n816⟩, -, X816, ⟨Lc816, hQ816, l816, y816, z816⟩, st816⟩ := X136.virtualBack hx (y := (⟨"com/example/counterpath/counterpath/core/CappedMaximum", "addFirst", "(ID)V"⟩ : MethodName)) (z := (⟨"com/example/counterpath/counterpath/core/CappedMaximum", "addFirst", "(ID)V"⟩ : MethodName)) hown (mvT hZ (hw _ (List.mem_of_getElem? (i := 19) rfl))) (mvT hZ (hw _ (List.mem_of_getElem? (i := 20) rfl))) (notFace_of_selects (args := #[]) (mvT hZ (hw _ (List.mem_of_getElem? (i := 22) rfl)))) (mvT hZ (hw _ (List.mem_of_getElem? (i := 22) rfl))) (mvT hZ (hw _ (List.mem_of_getElem? (i := 21) rfl))) (by decide) (backOf (W := 0) (rmAdd_23_ce l Z a0 hw [] q t1 (FP.i2d j1) A B kA kB (0 : Int32) (0 : Int32) t0 (0 : UInt64) (0 : UInt64) (FP.i2d j0) T117.heap n0 (Nat.le_trans Z0 K117.1) f134 f1_117 f2_117 f3_117 f4_117 f5_117 f6_117 naA naB nAB g_q gA gB (fun z => qa139 ((own_gt _ _ _).mp z))) hZ (hw _ (List.mem_of_getElem? (i := 23) rfl)) (hw _ (List.mem_of_getElem? (i := 2) rfl)) (by decide) (by decide)) qa816 qc816 (g := (mkF m 117 #[.val (.int p1), .val (.int p2), .val (.int p3), .val (.int t2), .val (.int t1), .val (.int t0), .val (.int j0), .val (.int j1), .val (.int j2), .val (.double (FP.i2d j0)), .second, .val (.double (FP.i2d j1)), .second, .val (.double (FP.i2d j2)), .second, .val (.ref q), .val (.int (1 : Int32)), .unset, .unset, .unset] [(.double (FP.i2d j1)), (.int t1), (.ref q)])) rfl (by rw [hml]; rfl) (Steps.refl _) (argsL := [(.int t1), (.double (FP.i2d j1))]) (rest := []) (lenOf own_pd__ID_V rfl) rfl (by show 2 * 0 + _ ≤ _; exact Nat.le_of_eq rfl) (Jvm.hb hby at_117) (fun _ _ => ⟨rfl, eq136, (by decide : 3 + 0 ≤ _), (by decide : 10 + 0 ≤ _)⟩)
    dsimp only [Pt.U, Pt.locs, Pt.cells, Pt.slots] at X816 l816 y816 z816 st816 hQ816
    subst l816 y816 z816
    obtain ⟨rfl, Nq816, Kq816, f1_816, f2_816, f3_816, f4_816, f5_816, f6_816⟩ := hQ816
    have N816 := Fr.app N136 Nq816
    have K816 : Keep h0 T816.heap [] := K117.trans Kq816 (allS (Or.inr sz_q) (allS (Or.inr sz_A) (allS (Or.inr sz_B) (all0))))
    have pre817 : ∀ τ, Steps p.tables e below (T816.setTop (mkF m 120 #[.val (.int p1), .val (.int p2), .val (.int p3), .val (.int t2), .val (.int t1), .val (.int t0), .val (.int j0), .val (.int j1), .val (.int j2), .val (.double (FP.i2d j0)), .second, .val (.double (FP.i2d j1)), .second, .val (.double (FP.i2d j2)), .second, .val (.ref q), .val (.int (1 : Int32)), .unset, .unset, .unset] [])) τ → Steps p.tables e below (s₁.setTop (entryFrame m #[(.int p1), (.int p2), (.int p3)] maxLocals)) τ := fun τ kt => pre138 τ ((st816).trans kt)
    have pre818 : ∀ τ, Steps p.tables e below (T816.setTop (mkF m 125 #[.val (.int p1), .val (.int p2), .val (.int p3), .val (.int t2), .val (.int t1), .val (.int t0), .val (.int j0), .val (.int j1), .val (.int j2), .val (.double (FP.i2d j0)), .second, .val (.double (FP.i2d j1)), .second, .val (.double (FP.i2d j2)), .second, .val (.ref q), .val (.int (1 : Int32)), .unset, .unset, .unset] [(.double (FP.i2d j2)), (.int t2), (.ref q)])) τ → Steps p.tables e below (s₁.setTop (entryFrame m #[(.int p1), (.int p2), (.int p3)] maxLocals)) τ := fun τ kt => pre817 τ (by
      show Steps p.tables e below (T816.setTop (mkF m 120 #[.val (.int p1), .val (.int p2), .val (.int p3), .val (.int t2), .val (.int t1), .val (.int t0), .val (.int j0), .val (.int j1), .val (.int j2), .val (.double (FP.i2d j0)), .second, .val (.double (FP.i2d j1)), .second, .val (.double (FP.i2d j2)), .second, .val (.ref q), .val (.int (1 : Int32)), .unset, .unset, .unset] [])) τ
      refine XS.aload X816.here hx rfl (Jvm.hb hby at_120) rfl rfl ?_
      show Steps p.tables e below (T816.setTop (mkF m 122 #[.val (.int p1), .val (.int p2), .val (.int p3), .val (.int t2), .val (.int t1), .val (.int t0), .val (.int j0), .val (.int j1), .val (.int j2), .val (.double (FP.i2d j0)), .second, .val (.double (FP.i2d j1)), .second, .val (.double (FP.i2d j2)), .second, .val (.ref q), .val (.int (1 : Int32)), .unset, .unset, .unset] [(.ref q)])) τ
      refine XS.iloadN X816.here hx rfl (Jvm.hb hby at_122) rfl ?_
      show Steps p.tables e below (T816.setTop (mkF m 123 #[.val (.int p1), .val (.int p2), .val (.int p3), .val (.int t2), .val (.int t1), .val (.int t0), .val (.int j0), .val (.int j1), .val (.int j2), .val (.double (FP.i2d j0)), .second, .val (.double (FP.i2d j1)), .second, .val (.double (FP.i2d j2)), .second, .val (.ref q), .val (.int (1 : Int32)), .unset, .unset, .unset] [(.int t2), (.ref q)])) τ
      refine own_dload X816.here hx rfl (Jvm.hb hby at_123) rfl ?_
      exact kt)
    by_cases qa819 : j2.toInt < j1.toInt
    · skip
      have f820 := f134.keep Kq816
      obtain ⟨cq821, kq821, qa821, qb821, qc821⟩ := isOf hZ rfl f820
      obtain ⟨_, _, ⟨T821, L821, k821, n821⟩, -, X821, ⟨Lc821, hQ821, l821, y821, z821⟩, st821⟩ := X816.virtualBack hx (y := (⟨"com/example/counterpath/counterpath/core/CappedMaximum", "addFirst", "(ID)V"⟩ : MethodName)) (z := (⟨"com/example/counterpath/counterpath/core/CappedMaximum", "addFirst", "(ID)V"⟩ : MethodName)) hown (mvT hZ (hw _ (List.mem_of_getElem? (i := 19) rfl))) (mvT hZ (hw _ (List.mem_of_getElem? (i := 20) rfl))) (notFace_of_selects (args := #[]) (mvT hZ (hw _ (List.mem_of_getElem? (i := 22) rfl)))) (mvT hZ (hw _ (List.mem_of_getElem? (i := 22) rfl))) (mvT hZ (hw _ (List.mem_of_getElem? (i := 21) rfl))) (by decide) (backOf (W := 0) (rmAdd_23_x l Z a0 hw [] q t2 (FP.i2d j2) A B kA kB (0 : Int32) (0 : Int32) t1 (0 : UInt64) (0 : UInt64) (FP.i2d j1) T816.heap n0 (Nat.le_trans Z0 K816.1) f820 f1_816 f2_816 f3_816 f4_816 f5_816 f6_816 naA naB nAB g_q gA gB ((own_gt _ _ _).mpr qa819)) hZ (hw _ (List.mem_of_getElem? (i := 23) rfl)) (hw _ (List.mem_of_getElem? (i := 2) rfl)) (by decide) (by decide)) qa821 qc821 (g := (mkF m 125 #[.val (.int p1), .val (.int p2), .val (.int p3), .val (.int t2), .val (.int t1), .val (.int t0), .val (.int j0), .val (.int j1), .val (.int j2), .val (.double (FP.i2d j0)), .second, .val (.double (FP.i2d j1)), .second, .val (.double (FP.i2d j2)), .second, .val (.ref q), .val (.int (1 : Int32)), .unset, .unset, .unset] [(.double (FP.i2d j2)), (.int t2), (.ref q)])) rfl (by rw [hml]; rfl) (Steps.refl _) (argsL := [(.int t2), (.double (FP.i2d j2))]) (rest := []) (lenOf own_pd__ID_V rfl) rfl (by show 2 * 0 + _ ≤ _; exact Nat.le_of_eq rfl) (Jvm.hb hby at_125) (fun _ _ => ⟨rfl, rfl, (by decide : 3 + 0 ≤ _), (by decide : 10 + 0 ≤ _)⟩)
      dsimp only [Pt.U, Pt.locs, Pt.cells, Pt.slots] at X821 l821 y821 z821 st821 hQ821
      subst l821 y821 z821
      obtain ⟨rfl, Nq821, Kq821, f1_821, f2_821, f3_821, f4_821, f5_821, f6_821⟩ := hQ821
      have N821 := Fr.app N816 Nq821
      have K821 : Keep h0 T821.heap [] := K816.trans Kq821 (allS (Or.inr sz_q) (allS (Or.inr sz_A) (allS (Or.inr sz_B) (all0))))
      have pre822 : ∀ τ, Steps p.tables e below (T821.setTop (mkF m 128 #[.val (.int p1), .val (.int p2), .val (.int p3), .val (.int t2), .val (.int t1), .val (.int t0), .val (.int j0), .val (.int j1), .val (.int j2), .val (.double (FP.i2d j0)), .second, .val (.double (FP.i2d j1)), .second, .val (.double (FP.i2d j2)), .second, .val (.ref q), .val (.int (1 : Int32)), .unset, .unset, .unset] [])) τ → Steps p.tables e below (s₁.setTop (entryFrame m #[(.int p1), (.int p2), (.int p3)] maxLocals)) τ := fun τ kt => pre818 τ ((st821).trans kt)
      have f823 := f820.keep Kq821
      have pre824 : ∀ τ, Steps p.tables e below (T821.setTop (mkF m 130 #[.val (.int p1), .val (.int p2), .val (.int p3), .val (.int t2), .val (.int t1), .val (.int t0), .val (.int j0), .val (.int j1), .val (.int j2), .val (.double (FP.i2d j0)), .second, .val (.double (FP.i2d j1)), .second, .val (.double (FP.i2d j2)), .second, .val (.ref q), .val (.int (1 : Int32)), .unset, .unset, .unset] [(.ref q)])) τ → Steps p.tables e below (s₁.setTop (entryFrame m #[(.int p1), (.int p2), (.int p3)] maxLocals)) τ := fun τ kt => pre822 τ (by
        show Steps p.tables e below (T821.setTop (mkF m 128 #[.val (.int p1), .val (.int p2), .val (.int p3), .val (.int t2), .val (.int t1), .val (.int t0), .val (.int j0), .val (.int j1), .val (.int j2), .val (.double (FP.i2d j0)), .second, .val (.double (FP.i2d j1)), .second, .val (.double (FP.i2d j2)), .second, .val (.ref q), .val (.int (1 : Int32)), .unset, .unset, .unset] [])) τ
        refine XS.aload X821.here hx rfl (Jvm.hb hby at_128) rfl rfl ?_
        exact kt)
      obtain ⟨cq825, kq825, qa825, qb825, qc825⟩ := isOf hZ rfl f823
      obtain ⟨_, _, ⟨T825, L825, k825, n825⟩, -, X825, ⟨Lc825, hQ825, l825, y825, z825⟩, st825⟩ := X821.virtualBack hx (y := (⟨"com/example/counterpath/counterpath/core/CappedMaximum", "maximum", "()D"⟩ : MethodName)) (z := (⟨"com/example/counterpath/counterpath/core/CappedMaximum", "maximum", "()D"⟩ : MethodName)) hown (mvT hZ (hw _ (List.mem_of_getElem? (i := 24) rfl))) (mvT hZ (hw _ (List.mem_of_getElem? (i := 25) rfl))) (notFace_of_selects (args := #[]) (mvT hZ (hw _ (List.mem_of_getElem? (i := 27) rfl)))) (mvT hZ (hw _ (List.mem_of_getElem? (i := 27) rfl))) (mvT hZ (hw _ (List.mem_of_getElem? (i := 26) rfl))) (by decide) (backOf (W := 0) (rmMax_13 l Z a0 hw [] q A B kA kB (0 : Int32) t2 t1 (0 : UInt64) (FP.i2d j2) (FP.i2d j1) T821.heap n0 (Nat.le_trans Z0 K821.1) f823 f1_821 f2_821 f3_821 f4_821 f5_821 f6_821 naA naB nAB g_q gA gB) hZ (hw _ (List.mem_of_getElem? (i := 28) rfl)) (hw _ (List.mem_of_getElem? (i := 2) rfl)) (by decide) (by decide)) qa825 qc825 (g := (mkF m 130 #[.val (.int p1), .val (.int p2), .val (.int p3), .val (.int t2), .val (.int t1), .val (.int t0), .val (.int j0), .val (.int j1), .val (.int j2), .val (.double (FP.i2d j0)), .second, .val (.double (FP.i2d j1)), .second, .val (.double (FP.i2d j2)), .second, .val (.ref q), .val (.int (1 : Int32)), .unset, .unset, .unset] [(.ref q)])) rfl (by rw [hml]; rfl) (Steps.refl _) (argsL := []) (rest := []) (lenOf own_pd___D rfl) rfl (by show 2 * 0 + _ ≤ _; exact Nat.le_of_eq rfl) (Jvm.hb hby at_130) (fun _ _ => ⟨rfl, rfl, (by decide : 3 + 0 ≤ _), (by decide : 10 + 0 ≤ _)⟩)
      dsimp only [Pt.U, Pt.locs, Pt.cells, Pt.slots] at X825 l825 y825 z825 st825 hQ825
      subst l825 y825 z825
      obtain ⟨rfl, Nq825, eq825⟩ := hQ825
      have N825 := Fr.app N821 Nq825
      have pre826 : ∀ τ, Steps p.tables e below (T825.setTop (mkF m 133 #[.val (.int p1), .val (.int p2), .val (.int p3), .val (.int t2), .val (.int t1), .val (.int t0), .val (.int j0), .val (.int j1), .val (.int j2), .val (.double (FP.i2d j0)), .second, .val (.double (FP.i2d j1)), .second, .val (.double (FP.i2d j2)), .second, .val (.ref q), .val (.int (1 : Int32)), .unset, .unset, .unset] [(.double (FP.i2d j1))])) τ → Steps p.tables e below (s₁.setTop (entryFrame m #[(.int p1), (.int p2), (.int p3)] maxLocals)) τ := fun τ kt => pre824 τ ((st825).trans kt)
      have pre827 : ∀ τ, Steps p.tables e below (T825.setTop (mkF m 139 #[.val (.int p1), .val (.int p2), .val (.int p3), .val (.int t2), .val (.int t1), .val (.int t0), .val (.int j0), .val (.int j1), .val (.int j2), .val (.double (FP.i2d j0)), .second, .val (.double (FP.i2d j1)), .second, .val (.double (FP.i2d j2)), .second, .val (.ref q), .val (.int (1 : Int32)), .unset, .unset, .unset] [(.int j2), (.int j1), (.int j0), (.double (FP.i2d j1))])) τ → Steps p.tables e below (s₁.setTop (entryFrame m #[(.int p1), (.int p2), (.int p3)] maxLocals)) τ := fun τ kt => pre826 τ (by
        show Steps p.tables e below (T825.setTop (mkF m 133 #[.val (.int p1), .val (.int p2), .val (.int p3), .val (.int t2), .val (.int t1), .val (.int t0), .val (.int j0), .val (.int j1), .val (.int j2), .val (.double (FP.i2d j0)), .second, .val (.double (FP.i2d j1)), .second, .val (.double (FP.i2d j2)), .second, .val (.ref q), .val (.int (1 : Int32)), .unset, .unset, .unset] [(.double (FP.i2d j1))])) τ
        refine XS.iload X825.here hx rfl (Jvm.hb hby at_133) rfl ?_
        show Steps p.tables e below (T825.setTop (mkF m 135 #[.val (.int p1), .val (.int p2), .val (.int p3), .val (.int t2), .val (.int t1), .val (.int t0), .val (.int j0), .val (.int j1), .val (.int j2), .val (.double (FP.i2d j0)), .second, .val (.double (FP.i2d j1)), .second, .val (.double (FP.i2d j2)), .second, .val (.ref q), .val (.int (1 : Int32)), .unset, .unset, .unset] [(.int j0), (.double (FP.i2d j1))])) τ
        refine XS.iload X825.here hx rfl (Jvm.hb hby at_135) rfl ?_
        show Steps p.tables e below (T825.setTop (mkF m 137 #[.val (.int p1), .val (.int p2), .val (.int p3), .val (.int t2), .val (.int t1), .val (.int t0), .val (.int j0), .val (.int j1), .val (.int j2), .val (.double (FP.i2d j0)), .second, .val (.double (FP.i2d j1)), .second, .val (.double (FP.i2d j2)), .second, .val (.ref q), .val (.int (1 : Int32)), .unset, .unset, .unset] [(.int j1), (.int j0), (.double (FP.i2d j1))])) τ
        refine XS.iload X825.here hx rfl (Jvm.hb hby at_137) rfl ?_
        exact kt)
      obtain ⟨_, _, ⟨T828, L828, k828, n828⟩, -, X828, ⟨Lc828, hQ828, l828, y828, z828⟩, st828⟩ := Jvm.LawKit.callS X825 hx (y := (⟨"java/lang/Math", "max", "(II)I"⟩ : MethodName)) hown (mvT hZ (hw _ (List.mem_of_getElem? (i := 29) rfl))) (mvT hZ (hw _ (List.mem_of_getElem? (i := 30) rfl))) (mvT hZ (hw _ (List.mem_of_getElem? (i := 31) rfl))) (mvT hZ (hw _ (List.mem_of_getElem? (i := 32) rfl))) (by decide) (backOf (W := 3) (rmM l Z a0 hw [] j1 j2 T821.heap n0 (Nat.le_trans Z0 K821.1)) hZ (hw _ (List.mem_of_getElem? (i := 32) rfl)) (hw _ (List.mem_of_getElem? (i := 31) rfl)) (by decide) (by decide)) (g := (mkF m 139 #[.val (.int p1), .val (.int p2), .val (.int p3), .val (.int t2), .val (.int t1), .val (.int t0), .val (.int j0), .val (.int j1), .val (.int j2), .val (.double (FP.i2d j0)), .second, .val (.double (FP.i2d j1)), .second, .val (.double (FP.i2d j2)), .second, .val (.ref q), .val (.int (1 : Int32)), .unset, .unset, .unset] [(.int j2), (.int j1), (.int j0), (.double (FP.i2d j1))])) rfl (by rw [hml]; rfl) (argsL := [(.int j1), (.int j2)]) (rest := [(.int j0), (.double (FP.i2d j1))]) (lenOf own_pd__II_I rfl) rfl (by show 2 * 0 + _ ≤ _; exact Nat.le_of_eq rfl) (Jvm.hb hby at_139) (fun _ _ => ⟨rfl, eq825, (by decide : 3 + 0 ≤ _), (by decide : 10 + 0 ≤ _)⟩)
      dsimp only [Pt.U, Pt.locs, Pt.cells, Pt.slots] at X828 l828 y828 z828 st828 hQ828
      subst l828 y828 z828
      obtain ⟨rfl, Nq828, eq828⟩ := hQ828
      have N828 := Fr.app N825 Nq828
      have pre829 : ∀ τ, Steps p.tables e below (T828.setTop (mkF m 142 #[.val (.int p1), .val (.int p2), .val (.int p3), .val (.int t2), .val (.int t1), .val (.int t0), .val (.int j0), .val (.int j1), .val (.int j2), .val (.double (FP.i2d j0)), .second, .val (.double (FP.i2d j1)), .second, .val (.double (FP.i2d j2)), .second, .val (.ref q), .val (.int (1 : Int32)), .unset, .unset, .unset] [(.int (own_max j1 j2)), (.int j0), (.double (FP.i2d j1))])) τ → Steps p.tables e below (s₁.setTop (entryFrame m #[(.int p1), (.int p2), (.int p3)] maxLocals)) τ := fun τ kt => pre827 τ (st828 τ kt)
      obtain ⟨_, _, ⟨T830, L830, k830, n830⟩, -, X830, ⟨Lc830, hQ830, l830, y830, z830⟩, st830⟩ := Jvm.LawKit.callS X828 hx (y := (⟨"java/lang/Math", "max", "(II)I"⟩ : MethodName)) hown (mvT hZ (hw _ (List.mem_of_getElem? (i := 29) rfl))) (mvT hZ (hw _ (List.mem_of_getElem? (i := 30) rfl))) (mvT hZ (hw _ (List.mem_of_getElem? (i := 31) rfl))) (mvT hZ (hw _ (List.mem_of_getElem? (i := 32) rfl))) (by decide) (backOf (W := 2) (rmM l Z a0 hw [] j0 (own_max j1 j2) T821.heap n0 (Nat.le_trans Z0 K821.1)) hZ (hw _ (List.mem_of_getElem? (i := 32) rfl)) (hw _ (List.mem_of_getElem? (i := 31) rfl)) (by decide) (by decide)) (g := (mkF m 142 #[.val (.int p1), .val (.int p2), .val (.int p3), .val (.int t2), .val (.int t1), .val (.int t0), .val (.int j0), .val (.int j1), .val (.int j2), .val (.double (FP.i2d j0)), .second, .val (.double (FP.i2d j1)), .second, .val (.double (FP.i2d j2)), .second, .val (.ref q), .val (.int (1 : Int32)), .unset, .unset, .unset] [(.int (own_max j1 j2)), (.int j0), (.double (FP.i2d j1))])) rfl (by rw [hml]; rfl) (argsL := [(.int j0), (.int (own_max j1 j2))]) (rest := [(.double (FP.i2d j1))]) (lenOf own_pd__II_I rfl) rfl (by show 2 * 0 + _ ≤ _; exact Nat.le_of_eq rfl) (Jvm.hb hby at_142) (fun _ _ => ⟨rfl, eq828, (by decide : 3 + 0 ≤ _), (by decide : 10 + 0 ≤ _)⟩)
      dsimp only [Pt.U, Pt.locs, Pt.cells, Pt.slots] at X830 l830 y830 z830 st830 hQ830
      subst l830 y830 z830
      obtain ⟨rfl, Nq830, eq830⟩ := hQ830
      have N830 := Fr.app N828 Nq830
      have pre831 : ∀ τ, Steps p.tables e below (T830.setTop (mkF m 145 #[.val (.int p1), .val (.int p2), .val (.int p3), .val (.int t2), .val (.int t1), .val (.int t0), .val (.int j0), .val (.int j1), .val (.int j2), .val (.double (FP.i2d j0)), .second, .val (.double (FP.i2d j1)), .second, .val (.double (FP.i2d j2)), .second, .val (.ref q), .val (.int (1 : Int32)), .unset, .unset, .unset] [(.int (own_max j0 (own_max j1 j2))), (.double (FP.i2d j1))])) τ → Steps p.tables e below (s₁.setTop (entryFrame m #[(.int p1), (.int p2), (.int p3)] maxLocals)) τ := fun τ kt => pre829 τ (st830 τ kt)
      have pre847 : ∀ τ, Steps p.tables e below (T830.setTop (mkF m 161 #[.val (.int p1), .val (.int p2), .val (.int p3), .val (.int t2), .val (.int t1), .val (.int t0), .val (.int j0), .val (.int j1), .val (.int j2), .val (.double (FP.i2d j0)), .second, .val (.double (FP.i2d j1)), .second, .val (.double (FP.i2d j2)), .second, .val (.ref q), .val (.int (1 : Int32)), .val (.int (1 : Int32)), .unset, .unset] [(.int t1), (.ref q)])) τ → Steps p.tables e below (s₁.setTop (entryFrame m #[(.int p1), (.int p2), (.int p3)] maxLocals)) τ := fun τ kt => pre831 τ (by
        show Steps p.tables e below (T830.setTop (mkF m 145 #[.val (.int p1), .val (.int p2), .val (.int p3), .val (.int t2), .val (.int t1), .val (.int t0), .val (.int j0), .val (.int j1), .val (.int j2), .val (.double (FP.i2d j0)), .second, .val (.double (FP.i2d j1)), .second, .val (.double (FP.i2d j2)), .second, .val (.ref q), .val (.int (1 : Int32)), .unset, .unset, .unset] [(.int (own_max j0 (own_max j1 j2))), (.double (FP.i2d j1))])) τ
        refine own_i2d X830.here hx rfl (Jvm.hb hby at_145) rfl ?_
        show Steps p.tables e below (T830.setTop (mkF m 146 #[.val (.int p1), .val (.int p2), .val (.int p3), .val (.int t2), .val (.int t1), .val (.int t0), .val (.int j0), .val (.int j1), .val (.int j2), .val (.double (FP.i2d j0)), .second, .val (.double (FP.i2d j1)), .second, .val (.double (FP.i2d j2)), .second, .val (.ref q), .val (.int (1 : Int32)), .unset, .unset, .unset] [(.double (FP.i2d (own_max j0 (own_max j1 j2)))), (.double (FP.i2d j1))])) τ
        refine own_dcmp X830.here hx rfl (Jvm.hb hby at_146) rfl ?_
        show Steps p.tables e below (T830.setTop (mkF m 147 #[.val (.int p1), .val (.int p2), .val (.int p3), .val (.int t2), .val (.int t1), .val (.int t0), .val (.int j0), .val (.int j1), .val (.int j2), .val (.double (FP.i2d j0)), .second, .val (.double (FP.i2d j1)), .second, .val (.double (FP.i2d j2)), .second, .val (.ref q), .val (.int (1 : Int32)), .unset, .unset, .unset] [(.int (cmpValue (FP.dcmp (FP.i2d j1) (FP.i2d (own_max j0 (own_max j1 j2)))) .l))])) τ
        refine XS.ifNo X830.here hx rfl (Jvm.hb hby at_147) rfl ((if0 _ _).trans (teq (own_eq (by first | rfl | (simp only [own_max_int]; omega)) _)).2) ?_
        show Steps p.tables e below (T830.setTop (mkF m 150 #[.val (.int p1), .val (.int p2), .val (.int p3), .val (.int t2), .val (.int t1), .val (.int t0), .val (.int j0), .val (.int j1), .val (.int j2), .val (.double (FP.i2d j0)), .second, .val (.double (FP.i2d j1)), .second, .val (.double (FP.i2d j2)), .second, .val (.ref q), .val (.int (1 : Int32)), .unset, .unset, .unset] [])) τ
        refine XS.iconst X830.here hx rfl (Jvm.hb hby at_150) ?_
        show Steps p.tables e below (T830.setTop (mkF m 151 #[.val (.int p1), .val (.int p2), .val (.int p3), .val (.int t2), .val (.int t1), .val (.int t0), .val (.int j0), .val (.int j1), .val (.int j2), .val (.double (FP.i2d j0)), .second, .val (.double (FP.i2d j1)), .second, .val (.double (FP.i2d j2)), .second, .val (.ref q), .val (.int (1 : Int32)), .unset, .unset, .unset] [(.int (1 : Int32))])) τ
        refine XS.goto X830.here hx rfl (pc0 := 151) (pc' := 155) rfl (Jvm.hb hby at_151) (by decide) (by decide) ?_
        show Steps p.tables e below (T830.setTop (mkF m 155 #[.val (.int p1), .val (.int p2), .val (.int p3), .val (.int t2), .val (.int t1), .val (.int t0), .val (.int j0), .val (.int j1), .val (.int j2), .val (.double (FP.i2d j0)), .second, .val (.double (FP.i2d j1)), .second, .val (.double (FP.i2d j2)), .second, .val (.ref q), .val (.int (1 : Int32)), .unset, .unset, .unset] [(.int (1 : Int32))])) τ
        refine XS.istore X830.here hx rfl (Jvm.hb hby at_155) rfl (l' := #[.val (.int p1), .val (.int p2), .val (.int p3), .val (.int t2), .val (.int t1), .val (.int t0), .val (.int j0), .val (.int j1), .val (.int j2), .val (.double (FP.i2d j0)), .second, .val (.double (FP.i2d j1)), .second, .val (.double (FP.i2d j2)), .second, .val (.ref q), .val (.int (1 : Int32)), .val (.int (1 : Int32)), .unset, .unset]) rfl ?_
        show Steps p.tables e below (T830.setTop (mkF m 157 #[.val (.int p1), .val (.int p2), .val (.int p3), .val (.int t2), .val (.int t1), .val (.int t0), .val (.int j0), .val (.int j1), .val (.int j2), .val (.double (FP.i2d j0)), .second, .val (.double (FP.i2d j1)), .second, .val (.double (FP.i2d j2)), .second, .val (.ref q), .val (.int (1 : Int32)), .val (.int (1 : Int32)), .unset, .unset] [])) τ
        refine XS.aload X830.here hx rfl (Jvm.hb hby at_157) rfl rfl ?_
        show Steps p.tables e below (T830.setTop (mkF m 159 #[.val (.int p1), .val (.int p2), .val (.int p3), .val (.int t2), .val (.int t1), .val (.int t0), .val (.int j0), .val (.int j1), .val (.int j2), .val (.double (FP.i2d j0)), .second, .val (.double (FP.i2d j1)), .second, .val (.double (FP.i2d j2)), .second, .val (.ref q), .val (.int (1 : Int32)), .val (.int (1 : Int32)), .unset, .unset] [(.ref q)])) τ
        refine XS.iload X830.here hx rfl (Jvm.hb hby at_159) rfl ?_
        exact kt)
      obtain ⟨cq848, kq848, qa848, qb848, qc848⟩ := isOf hZ eq830 f823
      obtain ⟨_, _, ⟨T848, L848, k848, n848⟩, -, X848, ⟨Lc848, hQ848, l848, y848, z848⟩, st848⟩ := X830.virtualBack hx (y := (⟨"com/example/counterpath/counterpath/core/CappedMaximum", "removeAfter", "(I)V"⟩ : MethodName)) (z := (⟨"com/example/counterpath/counterpath/core/CappedMaximum", "removeAfter", "(I)V"⟩ : MethodName)) hown (mvT hZ (hw _ (List.mem_of_getElem? (i := 33) rfl))) (mvT hZ (hw _ (List.mem_of_getElem? (i := 34) rfl))) (notFace_of_selects (args := #[]) (mvT hZ (hw _ (List.mem_of_getElem? (i := 36) rfl)))) (mvT hZ (hw _ (List.mem_of_getElem? (i := 36) rfl))) (mvT hZ (hw _ (List.mem_of_getElem? (i := 35) rfl))) (by decide) (backOf (W := 0) (rmRem_13_x l Z a0 hw [] q t1 A B kA kB (0 : Int32) t2 t1 (0 : UInt64) (FP.i2d j2) (FP.i2d j1) T821.heap n0 (Nat.le_trans Z0 K821.1) f823 f1_821 f2_821 f3_821 f4_821 f5_821 f6_821 naA naB nAB g_q gA gB (fun z => Int32.lt_irrefl z)) hZ (hw _ (List.mem_of_getElem? (i := 37) rfl)) (hw _ (List.mem_of_getElem? (i := 2) rfl)) (by decide) (by decide)) qa848 qc848 (g := (mkF m 161 #[.val (.int p1), .val (.int p2), .val (.int p3), .val (.int t2), .val (.int t1), .val (.int t0), .val (.int j0), .val (.int j1), .val (.int j2), .val (.double (FP.i2d j0)), .second, .val (.double (FP.i2d j1)), .second, .val (.double (FP.i2d j2)), .second, .val (.ref q), .val (.int (1 : Int32)), .val (.int (1 : Int32)), .unset, .unset] [(.int t1), (.ref q)])) rfl (by rw [hml]; rfl) (Steps.refl _) (argsL := [(.int t1)]) (rest := []) (lenOf own_pd__I_V rfl) rfl (by show 2 * 0 + _ ≤ _; exact Nat.le_of_eq rfl) (Jvm.hb hby at_161) (fun _ _ => ⟨rfl, eq830, (by decide : 3 + 0 ≤ _), (by decide : 10 + 0 ≤ _)⟩)
      dsimp only [Pt.U, Pt.locs, Pt.cells, Pt.slots] at X848 l848 y848 z848 st848 hQ848
      subst l848 y848 z848
      obtain ⟨rfl, Nq848, Kq848, f1_848, f2_848, f3_848, f4_848, f5_848, f6_848⟩ := hQ848
      have N848 := Fr.app N830 Nq848
      have K848 : Keep h0 T848.heap [] := K821.trans Kq848 (allS (Or.inr sz_q) (allS (Or.inr sz_A) (allS (Or.inr sz_B) (all0))))
      have pre849 : ∀ τ, Steps p.tables e below (T848.setTop (mkF m 164 #[.val (.int p1), .val (.int p2), .val (.int p3), .val (.int t2), .val (.int t1), .val (.int t0), .val (.int j0), .val (.int j1), .val (.int j2), .val (.double (FP.i2d j0)), .second, .val (.double (FP.i2d j1)), .second, .val (.double (FP.i2d j2)), .second, .val (.ref q), .val (.int (1 : Int32)), .val (.int (1 : Int32)), .unset, .unset] [])) τ → Steps p.tables e below (s₁.setTop (entryFrame m #[(.int p1), (.int p2), (.int p3)] maxLocals)) τ := fun τ kt => pre847 τ ((st848).trans kt)
      have f850 := f823.keep Kq848
      have pre851 : ∀ τ, Steps p.tables e below (T848.setTop (mkF m 166 #[.val (.int p1), .val (.int p2), .val (.int p3), .val (.int t2), .val (.int t1), .val (.int t0), .val (.int j0), .val (.int j1), .val (.int j2), .val (.double (FP.i2d j0)), .second, .val (.double (FP.i2d j1)), .second, .val (.double (FP.i2d j2)), .second, .val (.ref q), .val (.int (1 : Int32)), .val (.int (1 : Int32)), .unset, .unset] [(.ref q)])) τ → Steps p.tables e below (s₁.setTop (entryFrame m #[(.int p1), (.int p2), (.int p3)] maxLocals)) τ := fun τ kt => pre849 τ (by
        show Steps p.tables e below (T848.setTop (mkF m 164 #[.val (.int p1), .val (.int p2), .val (.int p3), .val (.int t2), .val (.int t1), .val (.int t0), .val (.int j0), .val (.int j1), .val (.int j2), .val (.double (FP.i2d j0)), .second, .val (.double (FP.i2d j1)), .second, .val (.double (FP.i2d j2)), .second, .val (.ref q), .val (.int (1 : Int32)), .val (.int (1 : Int32)), .unset, .unset] [])) τ
        refine XS.aload X848.here hx rfl (Jvm.hb hby at_164) rfl rfl ?_
        exact kt)
      obtain ⟨cq852, kq852, qa852, qb852, qc852⟩ := isOf hZ rfl f850
      obtain ⟨_, _, ⟨T852, L852, k852, n852⟩, -, X852, ⟨Lc852, hQ852, l852, y852, z852⟩, st852⟩ := X848.virtualBack hx (y := (⟨"com/example/counterpath/counterpath/core/CappedMaximum", "maximum", "()D"⟩ : MethodName)) (z := (⟨"com/example/counterpath/counterpath/core/CappedMaximum", "maximum", "()D"⟩ : MethodName)) hown (mvT hZ (hw _ (List.mem_of_getElem? (i := 24) rfl))) (mvT hZ (hw _ (List.mem_of_getElem? (i := 25) rfl))) (notFace_of_selects (args := #[]) (mvT hZ (hw _ (List.mem_of_getElem? (i := 27) rfl)))) (mvT hZ (hw _ (List.mem_of_getElem? (i := 27) rfl))) (mvT hZ (hw _ (List.mem_of_getElem? (i := 26) rfl))) (by decide) (backOf (W := 0) (rmMax_13 l Z a0 hw [] q A B kA kB (0 : Int32) t2 t1 (0 : UInt64) (FP.i2d j2) (FP.i2d j1) T848.heap n0 (Nat.le_trans Z0 K848.1) f850 f1_848 f2_848 f3_848 f4_848 f5_848 f6_848 naA naB nAB g_q gA gB) hZ (hw _ (List.mem_of_getElem? (i := 28) rfl)) (hw _ (List.mem_of_getElem? (i := 2) rfl)) (by decide) (by decide)) qa852 qc852 (g := (mkF m 166 #[.val (.int p1), .val (.int p2), .val (.int p3), .val (.int t2), .val (.int t1), .val (.int t0), .val (.int j0), .val (.int j1), .val (.int j2), .val (.double (FP.i2d j0)), .second, .val (.double (FP.i2d j1)), .second, .val (.double (FP.i2d j2)), .second, .val (.ref q), .val (.int (1 : Int32)), .val (.int (1 : Int32)), .unset, .unset] [(.ref q)])) rfl (by rw [hml]; rfl) (Steps.refl _) (argsL := []) (rest := []) (lenOf own_pd___D rfl) rfl (by show 2 * 0 + _ ≤ _; exact Nat.le_of_eq rfl) (Jvm.hb hby at_166) (fun _ _ => ⟨rfl, rfl, (by decide : 3 + 0 ≤ _), (by decide : 10 + 0 ≤ _)⟩)
      dsimp only [Pt.U, Pt.locs, Pt.cells, Pt.slots] at X852 l852 y852 z852 st852 hQ852
      subst l852 y852 z852
      obtain ⟨rfl, Nq852, eq852⟩ := hQ852
      have N852 := Fr.app N848 Nq852
      have pre853 : ∀ τ, Steps p.tables e below (T852.setTop (mkF m 169 #[.val (.int p1), .val (.int p2), .val (.int p3), .val (.int t2), .val (.int t1), .val (.int t0), .val (.int j0), .val (.int j1), .val (.int j2), .val (.double (FP.i2d j0)), .second, .val (.double (FP.i2d j1)), .second, .val (.double (FP.i2d j2)), .second, .val (.ref q), .val (.int (1 : Int32)), .val (.int (1 : Int32)), .unset, .unset] [(.double (FP.i2d j1))])) τ → Steps p.tables e below (s₁.setTop (entryFrame m #[(.int p1), (.int p2), (.int p3)] maxLocals)) τ := fun τ kt => pre851 τ ((st852).trans kt)
      have pre854 : ∀ τ, Steps p.tables e below (T852.setTop (mkF m 173 #[.val (.int p1), .val (.int p2), .val (.int p3), .val (.int t2), .val (.int t1), .val (.int t0), .val (.int j0), .val (.int j1), .val (.int j2), .val (.double (FP.i2d j0)), .second, .val (.double (FP.i2d j1)), .second, .val (.double (FP.i2d j2)), .second, .val (.ref q), .val (.int (1 : Int32)), .val (.int (1 : Int32)), .unset, .unset] [(.int j2), (.int j1), (.double (FP.i2d j1))])) τ → Steps p.tables e below (s₁.setTop (entryFrame m #[(.int p1), (.int p2), (.int p3)] maxLocals)) τ := fun τ kt => pre853 τ (by
        show Steps p.tables e below (T852.setTop (mkF m 169 #[.val (.int p1), .val (.int p2), .val (.int p3), .val (.int t2), .val (.int t1), .val (.int t0), .val (.int j0), .val (.int j1), .val (.int j2), .val (.double (FP.i2d j0)), .second, .val (.double (FP.i2d j1)), .second, .val (.double (FP.i2d j2)), .second, .val (.ref q), .val (.int (1 : Int32)), .val (.int (1 : Int32)), .unset, .unset] [(.double (FP.i2d j1))])) τ
        refine XS.iload X852.here hx rfl (Jvm.hb hby at_169) rfl ?_
        show Steps p.tables e below (T852.setTop (mkF m 171 #[.val (.int p1), .val (.int p2), .val (.int p3), .val (.int t2), .val (.int t1), .val (.int t0), .val (.int j0), .val (.int j1), .val (.int j2), .val (.double (FP.i2d j0)), .second, .val (.double (FP.i2d j1)), .second, .val (.double (FP.i2d j2)), .second, .val (.ref q), .val (.int (1 : Int32)), .val (.int (1 : Int32)), .unset, .unset] [(.int j1), (.double (FP.i2d j1))])) τ
        refine XS.iload X852.here hx rfl (Jvm.hb hby at_171) rfl ?_
        exact kt)
      obtain ⟨_, _, ⟨T855, L855, k855, n855⟩, -, X855, ⟨Lc855, hQ855, l855, y855, z855⟩, st855⟩ := Jvm.LawKit.callS X852 hx (y := (⟨"java/lang/Math", "max", "(II)I"⟩ : MethodName)) hown (mvT hZ (hw _ (List.mem_of_getElem? (i := 29) rfl))) (mvT hZ (hw _ (List.mem_of_getElem? (i := 30) rfl))) (mvT hZ (hw _ (List.mem_of_getElem? (i := 31) rfl))) (mvT hZ (hw _ (List.mem_of_getElem? (i := 32) rfl))) (by decide) (backOf (W := 2) (rmM l Z a0 hw [] j1 j2 T848.heap n0 (Nat.le_trans Z0 K848.1)) hZ (hw _ (List.mem_of_getElem? (i := 32) rfl)) (hw _ (List.mem_of_getElem? (i := 31) rfl)) (by decide) (by decide)) (g := (mkF m 173 #[.val (.int p1), .val (.int p2), .val (.int p3), .val (.int t2), .val (.int t1), .val (.int t0), .val (.int j0), .val (.int j1), .val (.int j2), .val (.double (FP.i2d j0)), .second, .val (.double (FP.i2d j1)), .second, .val (.double (FP.i2d j2)), .second, .val (.ref q), .val (.int (1 : Int32)), .val (.int (1 : Int32)), .unset, .unset] [(.int j2), (.int j1), (.double (FP.i2d j1))])) rfl (by rw [hml]; rfl) (argsL := [(.int j1), (.int j2)]) (rest := [(.double (FP.i2d j1))]) (lenOf own_pd__II_I rfl) rfl (by show 2 * 0 + _ ≤ _; exact Nat.le_of_eq rfl) (Jvm.hb hby at_173) (fun _ _ => ⟨rfl, eq852, (by decide : 3 + 0 ≤ _), (by decide : 10 + 0 ≤ _)⟩)
      dsimp only [Pt.U, Pt.locs, Pt.cells, Pt.slots] at X855 l855 y855 z855 st855 hQ855
      subst l855 y855 z855
      obtain ⟨rfl, Nq855, eq855⟩ := hQ855
      have N855 := Fr.app N852 Nq855
      have pre856 : ∀ τ, Steps p.tables e below (T855.setTop (mkF m 176 #[.val (.int p1), .val (.int p2), .val (.int p3), .val (.int t2), .val (.int t1), .val (.int t0), .val (.int j0), .val (.int j1), .val (.int j2), .val (.double (FP.i2d j0)), .second, .val (.double (FP.i2d j1)), .second, .val (.double (FP.i2d j2)), .second, .val (.ref q), .val (.int (1 : Int32)), .val (.int (1 : Int32)), .unset, .unset] [(.int (own_max j1 j2)), (.double (FP.i2d j1))])) τ → Steps p.tables e below (s₁.setTop (entryFrame m #[(.int p1), (.int p2), (.int p3)] maxLocals)) τ := fun τ kt => pre854 τ (st855 τ kt)
      have pre857 : ∀ τ, Steps p.tables e below (T855.setTop (mkF m 191 #[.val (.int p1), .val (.int p2), .val (.int p3), .val (.int t2), .val (.int t1), .val (.int t0), .val (.int j0), .val (.int j1), .val (.int j2), .val (.double (FP.i2d j0)), .second, .val (.double (FP.i2d j1)), .second, .val (.double (FP.i2d j2)), .second, .val (.ref q), .val (.int (1 : Int32)), .val (.int (1 : Int32)), .val (.int (1 : Int32)), .unset] [(.int t2), (.ref q)])) τ → Steps p.tables e below (s₁.setTop (entryFrame m #[(.int p1), (.int p2), (.int p3)] maxLocals)) τ := fun τ kt => pre856 τ (by
        show Steps p.tables e below (T855.setTop (mkF m 176 #[.val (.int p1), .val (.int p2), .val (.int p3), .val (.int t2), .val (.int t1), .val (.int t0), .val (.int j0), .val (.int j1), .val (.int j2), .val (.double (FP.i2d j0)), .second, .val (.double (FP.i2d j1)), .second, .val (.double (FP.i2d j2)), .second, .val (.ref q), .val (.int (1 : Int32)), .val (.int (1 : Int32)), .unset, .unset] [(.int (own_max j1 j2)), (.double (FP.i2d j1))])) τ
        refine own_i2d X855.here hx rfl (Jvm.hb hby at_176) rfl ?_
        show Steps p.tables e below (T855.setTop (mkF m 177 #[.val (.int p1), .val (.int p2), .val (.int p3), .val (.int t2), .val (.int t1), .val (.int t0), .val (.int j0), .val (.int j1), .val (.int j2), .val (.double (FP.i2d j0)), .second, .val (.double (FP.i2d j1)), .second, .val (.double (FP.i2d j2)), .second, .val (.ref q), .val (.int (1 : Int32)), .val (.int (1 : Int32)), .unset, .unset] [(.double (FP.i2d (own_max j1 j2))), (.double (FP.i2d j1))])) τ
        refine own_dcmp X855.here hx rfl (Jvm.hb hby at_177) rfl ?_
        show Steps p.tables e below (T855.setTop (mkF m 178 #[.val (.int p1), .val (.int p2), .val (.int p3), .val (.int t2), .val (.int t1), .val (.int t0), .val (.int j0), .val (.int j1), .val (.int j2), .val (.double (FP.i2d j0)), .second, .val (.double (FP.i2d j1)), .second, .val (.double (FP.i2d j2)), .second, .val (.ref q), .val (.int (1 : Int32)), .val (.int (1 : Int32)), .unset, .unset] [(.int (cmpValue (FP.dcmp (FP.i2d j1) (FP.i2d (own_max j1 j2))) .l))])) τ
        refine XS.ifNo X855.here hx rfl (Jvm.hb hby at_178) rfl ((if0 _ _).trans (teq (own_eq (by first | rfl | (simp only [own_max_int]; omega)) _)).2) ?_
        show Steps p.tables e below (T855.setTop (mkF m 181 #[.val (.int p1), .val (.int p2), .val (.int p3), .val (.int t2), .val (.int t1), .val (.int t0), .val (.int j0), .val (.int j1), .val (.int j2), .val (.double (FP.i2d j0)), .second, .val (.double (FP.i2d j1)), .second, .val (.double (FP.i2d j2)), .second, .val (.ref q), .val (.int (1 : Int32)), .val (.int (1 : Int32)), .unset, .unset] [])) τ
        refine XS.iconst X855.here hx rfl (Jvm.hb hby at_181) ?_
        show Steps p.tables e below (T855.setTop (mkF m 182 #[.val (.int p1), .val (.int p2), .val (.int p3), .val (.int t2), .val (.int t1), .val (.int t0), .val (.int j0), .val (.int j1), .val (.int j2), .val (.double (FP.i2d j0)), .second, .val (.double (FP.i2d j1)), .second, .val (.double (FP.i2d j2)), .second, .val (.ref q), .val (.int (1 : Int32)), .val (.int (1 : Int32)), .unset, .unset] [(.int (1 : Int32))])) τ
        refine XS.goto X855.here hx rfl (pc0 := 182) (pc' := 186) rfl (Jvm.hb hby at_182) (by decide) (by decide) ?_
        show Steps p.tables e below (T855.setTop (mkF m 186 #[.val (.int p1), .val (.int p2), .val (.int p3), .val (.int t2), .val (.int t1), .val (.int t0), .val (.int j0), .val (.int j1), .val (.int j2), .val (.double (FP.i2d j0)), .second, .val (.double (FP.i2d j1)), .second, .val (.double (FP.i2d j2)), .second, .val (.ref q), .val (.int (1 : Int32)), .val (.int (1 : Int32)), .unset, .unset] [(.int (1 : Int32))])) τ
        refine XS.istore X855.here hx rfl (Jvm.hb hby at_186) rfl (l' := #[.val (.int p1), .val (.int p2), .val (.int p3), .val (.int t2), .val (.int t1), .val (.int t0), .val (.int j0), .val (.int j1), .val (.int j2), .val (.double (FP.i2d j0)), .second, .val (.double (FP.i2d j1)), .second, .val (.double (FP.i2d j2)), .second, .val (.ref q), .val (.int (1 : Int32)), .val (.int (1 : Int32)), .val (.int (1 : Int32)), .unset]) rfl ?_
        show Steps p.tables e below (T855.setTop (mkF m 188 #[.val (.int p1), .val (.int p2), .val (.int p3), .val (.int t2), .val (.int t1), .val (.int t0), .val (.int j0), .val (.int j1), .val (.int j2), .val (.double (FP.i2d j0)), .second, .val (.double (FP.i2d j1)), .second, .val (.double (FP.i2d j2)), .second, .val (.ref q), .val (.int (1 : Int32)), .val (.int (1 : Int32)), .val (.int (1 : Int32)), .unset] [])) τ
        refine XS.aload X855.here hx rfl (Jvm.hb hby at_188) rfl rfl ?_
        show Steps p.tables e below (T855.setTop (mkF m 190 #[.val (.int p1), .val (.int p2), .val (.int p3), .val (.int t2), .val (.int t1), .val (.int t0), .val (.int j0), .val (.int j1), .val (.int j2), .val (.double (FP.i2d j0)), .second, .val (.double (FP.i2d j1)), .second, .val (.double (FP.i2d j2)), .second, .val (.ref q), .val (.int (1 : Int32)), .val (.int (1 : Int32)), .val (.int (1 : Int32)), .unset] [(.ref q)])) τ
        refine XS.iloadN X855.here hx rfl (Jvm.hb hby at_190) rfl ?_
        exact kt)
      obtain ⟨cq858, kq858, qa858, qb858, qc858⟩ := isOf hZ eq855 f850
      obtain ⟨_, _, ⟨T858, L858, k858, n858⟩, -, X858, ⟨Lc858, hQ858, l858, y858, z858⟩, st858⟩ := X855.virtualBack hx (y := (⟨"com/example/counterpath/counterpath/core/CappedMaximum", "removeAfter", "(I)V"⟩ : MethodName)) (z := (⟨"com/example/counterpath/counterpath/core/CappedMaximum", "removeAfter", "(I)V"⟩ : MethodName)) hown (mvT hZ (hw _ (List.mem_of_getElem? (i := 33) rfl))) (mvT hZ (hw _ (List.mem_of_getElem? (i := 34) rfl))) (notFace_of_selects (args := #[]) (mvT hZ (hw _ (List.mem_of_getElem? (i := 36) rfl)))) (mvT hZ (hw _ (List.mem_of_getElem? (i := 36) rfl))) (mvT hZ (hw _ (List.mem_of_getElem? (i := 35) rfl))) (by decide) (backOf (W := 0) (rmRem_13_cx l Z a0 hw [] q t2 A B kA kB (0 : Int32) t2 t1 (0 : UInt64) (FP.i2d j2) (FP.i2d j1) T848.heap n0 (Nat.le_trans Z0 K848.1) f850 f1_848 f2_848 f3_848 f4_848 f5_848 f6_848 naA naB nAB g_q gA gB (l21) (fun z => Int32.lt_irrefl z)) hZ (hw _ (List.mem_of_getElem? (i := 37) rfl)) (hw _ (List.mem_of_getElem? (i := 2) rfl)) (by decide) (by decide)) qa858 qc858 (g := (mkF m 191 #[.val (.int p1), .val (.int p2), .val (.int p3), .val (.int t2), .val (.int t1), .val (.int t0), .val (.int j0), .val (.int j1), .val (.int j2), .val (.double (FP.i2d j0)), .second, .val (.double (FP.i2d j1)), .second, .val (.double (FP.i2d j2)), .second, .val (.ref q), .val (.int (1 : Int32)), .val (.int (1 : Int32)), .val (.int (1 : Int32)), .unset] [(.int t2), (.ref q)])) rfl (by rw [hml]; rfl) (Steps.refl _) (argsL := [(.int t2)]) (rest := []) (lenOf own_pd__I_V rfl) rfl (by show 2 * 0 + _ ≤ _; exact Nat.le_of_eq rfl) (Jvm.hb hby at_191) (fun _ _ => ⟨rfl, eq855, (by decide : 3 + 0 ≤ _), (by decide : 10 + 0 ≤ _)⟩)
      dsimp only [Pt.U, Pt.locs, Pt.cells, Pt.slots] at X858 l858 y858 z858 st858 hQ858
      subst l858 y858 z858
      obtain ⟨rfl, Nq858, Kq858, f1_858, f2_858, f3_858, f4_858, f5_858, f6_858⟩ := hQ858
      have N858 := Fr.app N855 Nq858
      have K858 : Keep h0 T858.heap [] := K848.trans Kq858 (allS (Or.inr sz_q) (allS (Or.inr sz_A) (allS (Or.inr sz_B) (all0))))
      have pre859 : ∀ τ, Steps p.tables e below (T858.setTop (mkF m 194 #[.val (.int p1), .val (.int p2), .val (.int p3), .val (.int t2), .val (.int t1), .val (.int t0), .val (.int j0), .val (.int j1), .val (.int j2), .val (.double (FP.i2d j0)), .second, .val (.double (FP.i2d j1)), .second, .val (.double (FP.i2d j2)), .second, .val (.ref q), .val (.int (1 : Int32)), .val (.int (1 : Int32)), .val (.int (1 : Int32)), .unset] [])) τ → Steps p.tables e below (s₁.setTop (entryFrame m #[(.int p1), (.int p2), (.int p3)] maxLocals)) τ := fun τ kt => pre857 τ ((st858).trans kt)
      have f860 := f850.keep Kq858
      have pre861 : ∀ τ, Steps p.tables e below (T858.setTop (mkF m 196 #[.val (.int p1), .val (.int p2), .val (.int p3), .val (.int t2), .val (.int t1), .val (.int t0), .val (.int j0), .val (.int j1), .val (.int j2), .val (.double (FP.i2d j0)), .second, .val (.double (FP.i2d j1)), .second, .val (.double (FP.i2d j2)), .second, .val (.ref q), .val (.int (1 : Int32)), .val (.int (1 : Int32)), .val (.int (1 : Int32)), .unset] [(.ref q)])) τ → Steps p.tables e below (s₁.setTop (entryFrame m #[(.int p1), (.int p2), (.int p3)] maxLocals)) τ := fun τ kt => pre859 τ (by
        show Steps p.tables e below (T858.setTop (mkF m 194 #[.val (.int p1), .val (.int p2), .val (.int p3), .val (.int t2), .val (.int t1), .val (.int t0), .val (.int j0), .val (.int j1), .val (.int j2), .val (.double (FP.i2d j0)), .second, .val (.double (FP.i2d j1)), .second, .val (.double (FP.i2d j2)), .second, .val (.ref q), .val (.int (1 : Int32)), .val (.int (1 : Int32)), .val (.int (1 : Int32)), .unset] [])) τ
        refine XS.aload X858.here hx rfl (Jvm.hb hby at_194) rfl rfl ?_
        exact kt)
      obtain ⟨cq862, kq862, qa862, qb862, qc862⟩ := isOf hZ rfl f860
      obtain ⟨_, _, ⟨T862, L862, k862, n862⟩, -, X862, ⟨Lc862, hQ862, l862, y862, z862⟩, st862⟩ := X858.virtualBack hx (y := (⟨"com/example/counterpath/counterpath/core/CappedMaximum", "maximum", "()D"⟩ : MethodName)) (z := (⟨"com/example/counterpath/counterpath/core/CappedMaximum", "maximum", "()D"⟩ : MethodName)) hown (mvT hZ (hw _ (List.mem_of_getElem? (i := 24) rfl))) (mvT hZ (hw _ (List.mem_of_getElem? (i := 25) rfl))) (notFace_of_selects (args := #[]) (mvT hZ (hw _ (List.mem_of_getElem? (i := 27) rfl)))) (mvT hZ (hw _ (List.mem_of_getElem? (i := 27) rfl))) (mvT hZ (hw _ (List.mem_of_getElem? (i := 26) rfl))) (by decide) (backOf (W := 0) (rmMax_12 l Z a0 hw [] q A B kA kB (0 : Int32) t2 t1 (0 : UInt64) (FP.i2d j2) (FP.i2d j1) T858.heap n0 (Nat.le_trans Z0 K858.1) f860 f1_858 f2_858 f3_858 f4_858 f5_858 f6_858 naA naB nAB g_q gA gB) hZ (hw _ (List.mem_of_getElem? (i := 28) rfl)) (hw _ (List.mem_of_getElem? (i := 2) rfl)) (by decide) (by decide)) qa862 qc862 (g := (mkF m 196 #[.val (.int p1), .val (.int p2), .val (.int p3), .val (.int t2), .val (.int t1), .val (.int t0), .val (.int j0), .val (.int j1), .val (.int j2), .val (.double (FP.i2d j0)), .second, .val (.double (FP.i2d j1)), .second, .val (.double (FP.i2d j2)), .second, .val (.ref q), .val (.int (1 : Int32)), .val (.int (1 : Int32)), .val (.int (1 : Int32)), .unset] [(.ref q)])) rfl (by rw [hml]; rfl) (Steps.refl _) (argsL := []) (rest := []) (lenOf own_pd___D rfl) rfl (by show 2 * 0 + _ ≤ _; exact Nat.le_of_eq rfl) (Jvm.hb hby at_196) (fun _ _ => ⟨rfl, rfl, (by decide : 3 + 0 ≤ _), (by decide : 10 + 0 ≤ _)⟩)
      dsimp only [Pt.U, Pt.locs, Pt.cells, Pt.slots] at X862 l862 y862 z862 st862 hQ862
      subst l862 y862 z862
      obtain ⟨rfl, Nq862, eq862⟩ := hQ862
      have N862 := Fr.app N858 Nq862
      have pre863 : ∀ τ, Steps p.tables e below (T862.setTop (mkF m 199 #[.val (.int p1), .val (.int p2), .val (.int p3), .val (.int t2), .val (.int t1), .val (.int t0), .val (.int j0), .val (.int j1), .val (.int j2), .val (.double (FP.i2d j0)), .second, .val (.double (FP.i2d j1)), .second, .val (.double (FP.i2d j2)), .second, .val (.ref q), .val (.int (1 : Int32)), .val (.int (1 : Int32)), .val (.int (1 : Int32)), .unset] [(.double (FP.i2d j2))])) τ → Steps p.tables e below (s₁.setTop (entryFrame m #[(.int p1), (.int p2), (.int p3)] maxLocals)) τ := fun τ kt => pre861 τ ((st862).trans kt)
      have pre864 : ∀ τ, Steps p.tables e below (T862.setTop (mkF m 237 #[.val (.int p1), .val (.int p2), .val (.int p3), .val (.int t2), .val (.int t1), .val (.int t0), .val (.int j0), .val (.int j1), .val (.int j2), .val (.double (FP.i2d j0)), .second, .val (.double (FP.i2d j1)), .second, .val (.double (FP.i2d j2)), .second, .val (.ref q), .val (.int (1 : Int32)), .val (.int (1 : Int32)), .val (.int (1 : Int32)), .val (.int (1 : Int32))] [(.int (1 : Int32))])) τ → Steps p.tables e below (s₁.setTop (entryFrame m #[(.int p1), (.int p2), (.int p3)] maxLocals)) τ := fun τ kt => pre863 τ (by
        show Steps p.tables e below (T862.setTop (mkF m 199 #[.val (.int p1), .val (.int p2), .val (.int p3), .val (.int t2), .val (.int t1), .val (.int t0), .val (.int j0), .val (.int j1), .val (.int j2), .val (.double (FP.i2d j0)), .second, .val (.double (FP.i2d j1)), .second, .val (.double (FP.i2d j2)), .second, .val (.ref q), .val (.int (1 : Int32)), .val (.int (1 : Int32)), .val (.int (1 : Int32)), .unset] [(.double (FP.i2d j2))])) τ
        refine own_dload X862.here hx rfl (Jvm.hb hby at_199) rfl ?_
        show Steps p.tables e below (T862.setTop (mkF m 201 #[.val (.int p1), .val (.int p2), .val (.int p3), .val (.int t2), .val (.int t1), .val (.int t0), .val (.int j0), .val (.int j1), .val (.int j2), .val (.double (FP.i2d j0)), .second, .val (.double (FP.i2d j1)), .second, .val (.double (FP.i2d j2)), .second, .val (.ref q), .val (.int (1 : Int32)), .val (.int (1 : Int32)), .val (.int (1 : Int32)), .unset] [(.double (FP.i2d j2)), (.double (FP.i2d j2))])) τ
        refine own_dcmp X862.here hx rfl (Jvm.hb hby at_201) rfl ?_
        show Steps p.tables e below (T862.setTop (mkF m 202 #[.val (.int p1), .val (.int p2), .val (.int p3), .val (.int t2), .val (.int t1), .val (.int t0), .val (.int j0), .val (.int j1), .val (.int j2), .val (.double (FP.i2d j0)), .second, .val (.double (FP.i2d j1)), .second, .val (.double (FP.i2d j2)), .second, .val (.ref q), .val (.int (1 : Int32)), .val (.int (1 : Int32)), .val (.int (1 : Int32)), .unset] [(.int (cmpValue (FP.dcmp (FP.i2d j2) (FP.i2d j2)) .l))])) τ
        refine XS.ifNo X862.here hx rfl (Jvm.hb hby at_202) rfl ((if0 _ _).trans (teq (own_eq (by first | rfl | (simp only [own_max_int]; omega)) _)).2) ?_
        show Steps p.tables e below (T862.setTop (mkF m 205 #[.val (.int p1), .val (.int p2), .val (.int p3), .val (.int t2), .val (.int t1), .val (.int t0), .val (.int j0), .val (.int j1), .val (.int j2), .val (.double (FP.i2d j0)), .second, .val (.double (FP.i2d j1)), .second, .val (.double (FP.i2d j2)), .second, .val (.ref q), .val (.int (1 : Int32)), .val (.int (1 : Int32)), .val (.int (1 : Int32)), .unset] [])) τ
        refine XS.iconst X862.here hx rfl (Jvm.hb hby at_205) ?_
        show Steps p.tables e below (T862.setTop (mkF m 206 #[.val (.int p1), .val (.int p2), .val (.int p3), .val (.int t2), .val (.int t1), .val (.int t0), .val (.int j0), .val (.int j1), .val (.int j2), .val (.double (FP.i2d j0)), .second, .val (.double (FP.i2d j1)), .second, .val (.double (FP.i2d j2)), .second, .val (.ref q), .val (.int (1 : Int32)), .val (.int (1 : Int32)), .val (.int (1 : Int32)), .unset] [(.int (1 : Int32))])) τ
        refine XS.goto X862.here hx rfl (pc0 := 206) (pc' := 210) rfl (Jvm.hb hby at_206) (by decide) (by decide) ?_
        show Steps p.tables e below (T862.setTop (mkF m 210 #[.val (.int p1), .val (.int p2), .val (.int p3), .val (.int t2), .val (.int t1), .val (.int t0), .val (.int j0), .val (.int j1), .val (.int j2), .val (.double (FP.i2d j0)), .second, .val (.double (FP.i2d j1)), .second, .val (.double (FP.i2d j2)), .second, .val (.ref q), .val (.int (1 : Int32)), .val (.int (1 : Int32)), .val (.int (1 : Int32)), .unset] [(.int (1 : Int32))])) τ
        refine XS.istore X862.here hx rfl (Jvm.hb hby at_210) rfl (l' := #[.val (.int p1), .val (.int p2), .val (.int p3), .val (.int t2), .val (.int t1), .val (.int t0), .val (.int j0), .val (.int j1), .val (.int j2), .val (.double (FP.i2d j0)), .second, .val (.double (FP.i2d j1)), .second, .val (.double (FP.i2d j2)), .second, .val (.ref q), .val (.int (1 : Int32)), .val (.int (1 : Int32)), .val (.int (1 : Int32)), .val (.int (1 : Int32))]) rfl ?_
        show Steps p.tables e below (T862.setTop (mkF m 212 #[.val (.int p1), .val (.int p2), .val (.int p3), .val (.int t2), .val (.int t1), .val (.int t0), .val (.int j0), .val (.int j1), .val (.int j2), .val (.double (FP.i2d j0)), .second, .val (.double (FP.i2d j1)), .second, .val (.double (FP.i2d j2)), .second, .val (.ref q), .val (.int (1 : Int32)), .val (.int (1 : Int32)), .val (.int (1 : Int32)), .val (.int (1 : Int32))] [])) τ
        refine XS.iload X862.here hx rfl (Jvm.hb hby at_212) rfl ?_
        show Steps p.tables e below (T862.setTop (mkF m 214 #[.val (.int p1), .val (.int p2), .val (.int p3), .val (.int t2), .val (.int t1), .val (.int t0), .val (.int j0), .val (.int j1), .val (.int j2), .val (.double (FP.i2d j0)), .second, .val (.double (FP.i2d j1)), .second, .val (.double (FP.i2d j2)), .second, .val (.ref q), .val (.int (1 : Int32)), .val (.int (1 : Int32)), .val (.int (1 : Int32)), .val (.int (1 : Int32))] [(.int (1 : Int32))])) τ
        refine XS.ifNo X862.here hx rfl (Jvm.hb hby at_214) rfl ((if0 _ _).trans (feq (by decide)).1) ?_
        show Steps p.tables e below (T862.setTop (mkF m 217 #[.val (.int p1), .val (.int p2), .val (.int p3), .val (.int t2), .val (.int t1), .val (.int t0), .val (.int j0), .val (.int j1), .val (.int j2), .val (.double (FP.i2d j0)), .second, .val (.double (FP.i2d j1)), .second, .val (.double (FP.i2d j2)), .second, .val (.ref q), .val (.int (1 : Int32)), .val (.int (1 : Int32)), .val (.int (1 : Int32)), .val (.int (1 : Int32))] [])) τ
        refine XS.iload X862.here hx rfl (Jvm.hb hby at_217) rfl ?_
        show Steps p.tables e below (T862.setTop (mkF m 219 #[.val (.int p1), .val (.int p2), .val (.int p3), .val (.int t2), .val (.int t1), .val (.int t0), .val (.int j0), .val (.int j1), .val (.int j2), .val (.double (FP.i2d j0)), .second, .val (.double (FP.i2d j1)), .second, .val (.double (FP.i2d j2)), .second, .val (.ref q), .val (.int (1 : Int32)), .val (.int (1 : Int32)), .val (.int (1 : Int32)), .val (.int (1 : Int32))] [(.int (1 : Int32))])) τ
        refine XS.ifNo X862.here hx rfl (Jvm.hb hby at_219) rfl ((if0 _ _).trans (feq (by decide)).1) ?_
        show Steps p.tables e below (T862.setTop (mkF m 222 #[.val (.int p1), .val (.int p2), .val (.int p3), .val (.int t2), .val (.int t1), .val (.int t0), .val (.int j0), .val (.int j1), .val (.int j2), .val (.double (FP.i2d j0)), .second, .val (.double (FP.i2d j1)), .second, .val (.double (FP.i2d j2)), .second, .val (.ref q), .val (.int (1 : Int32)), .val (.int (1 : Int32)), .val (.int (1 : Int32)), .val (.int (1 : Int32))] [])) τ
        refine XS.iload X862.here hx rfl (Jvm.hb hby at_222) rfl ?_
        show Steps p.tables e below (T862.setTop (mkF m 224 #[.val (.int p1), .val (.int p2), .val (.int p3), .val (.int t2), .val (.int t1), .val (.int t0), .val (.int j0), .val (.int j1), .val (.int j2), .val (.double (FP.i2d j0)), .second, .val (.double (FP.i2d j1)), .second, .val (.double (FP.i2d j2)), .second, .val (.ref q), .val (.int (1 : Int32)), .val (.int (1 : Int32)), .val (.int (1 : Int32)), .val (.int (1 : Int32))] [(.int (1 : Int32))])) τ
        refine XS.ifNo X862.here hx rfl (Jvm.hb hby at_224) rfl ((if0 _ _).trans (feq (by decide)).1) ?_
        show Steps p.tables e below (T862.setTop (mkF m 227 #[.val (.int p1), .val (.int p2), .val (.int p3), .val (.int t2), .val (.int t1), .val (.int t0), .val (.int j0), .val (.int j1), .val (.int j2), .val (.double (FP.i2d j0)), .second, .val (.double (FP.i2d j1)), .second, .val (.double (FP.i2d j2)), .second, .val (.ref q), .val (.int (1 : Int32)), .val (.int (1 : Int32)), .val (.int (1 : Int32)), .val (.int (1 : Int32))] [])) τ
        refine XS.iload X862.here hx rfl (Jvm.hb hby at_227) rfl ?_
        show Steps p.tables e below (T862.setTop (mkF m 229 #[.val (.int p1), .val (.int p2), .val (.int p3), .val (.int t2), .val (.int t1), .val (.int t0), .val (.int j0), .val (.int j1), .val (.int j2), .val (.double (FP.i2d j0)), .second, .val (.double (FP.i2d j1)), .second, .val (.double (FP.i2d j2)), .second, .val (.ref q), .val (.int (1 : Int32)), .val (.int (1 : Int32)), .val (.int (1 : Int32)), .val (.int (1 : Int32))] [(.int (1 : Int32))])) τ
        refine XS.ifNo X862.here hx rfl (Jvm.hb hby at_229) rfl ((if0 _ _).trans (feq (by decide)).1) ?_
        show Steps p.tables e below (T862.setTop (mkF m 232 #[.val (.int p1), .val (.int p2), .val (.int p3), .val (.int t2), .val (.int t1), .val (.int t0), .val (.int j0), .val (.int j1), .val (.int j2), .val (.double (FP.i2d j0)), .second, .val (.double (FP.i2d j1)), .second, .val (.double (FP.i2d j2)), .second, .val (.ref q), .val (.int (1 : Int32)), .val (.int (1 : Int32)), .val (.int (1 : Int32)), .val (.int (1 : Int32))] [])) τ
        refine XS.iconst X862.here hx rfl (Jvm.hb hby at_232) ?_
        show Steps p.tables e below (T862.setTop (mkF m 233 #[.val (.int p1), .val (.int p2), .val (.int p3), .val (.int t2), .val (.int t1), .val (.int t0), .val (.int j0), .val (.int j1), .val (.int j2), .val (.double (FP.i2d j0)), .second, .val (.double (FP.i2d j1)), .second, .val (.double (FP.i2d j2)), .second, .val (.ref q), .val (.int (1 : Int32)), .val (.int (1 : Int32)), .val (.int (1 : Int32)), .val (.int (1 : Int32))] [(.int (1 : Int32))])) τ
        refine XS.goto X862.here hx rfl (pc0 := 233) (pc' := 237) rfl (Jvm.hb hby at_233) (by decide) (by decide) ?_
        exact kt)
      obtain ⟨fs, hrL, hrun, hended, hW, hsame⟩ := X862.leave (v := some (.int (1 : Int32))) (fun h => by rw [Bd.returns] at h; cases h)
      refine ⟨_, _, pre864 _ ?_, hrun, hended, _, _, rfl, ?_, ⟨_, rfl⟩, hW, hsame.mono (by decide) (by decide)⟩
      · show Steps p.tables e below (T862.setTop (mkF m 237 #[.val (.int p1), .val (.int p2), .val (.int p3), .val (.int t2), .val (.int t1), .val (.int t0), .val (.int j0), .val (.int j1), .val (.int j2), .val (.double (FP.i2d j0)), .second, .val (.double (FP.i2d j1)), .second, .val (.double (FP.i2d j2)), .second, .val (.ref q), .val (.int (1 : Int32)), .val (.int (1 : Int32)), .val (.int (1 : Int32)), .val (.int (1 : Int32))] [(.int (1 : Int32))])) _
        exact retN X862 hx (t := .boolean) Bd.returns (by simp) (Jvm.hb hby at_237) hrL
      · show Q0 n0 _ T862.heap _
        exact ⟨rfl, N862⟩
    · skip
      have f865 := f134.keep Kq816
      obtain ⟨cq866, kq866, qa866, qb866, qc866⟩ := isOf hZ rfl f865
      obtain ⟨_, _, ⟨T866, L866, k866, n866⟩, -, X866, ⟨Lc866, hQ866, l866, y866, z866⟩, st866⟩ := X816.virtualBack hx (y := (⟨"com/example/counterpath/counterpath/core/CappedMaximum", "addFirst", "(ID)V"⟩ : MethodName)) (z := (⟨"com/example/counterpath/counterpath/core/CappedMaximum", "addFirst", "(ID)V"⟩ : MethodName)) hown (mvT hZ (hw _ (List.mem_of_getElem? (i := 19) rfl))) (mvT hZ (hw _ (List.mem_of_getElem? (i := 20) rfl))) (notFace_of_selects (args := #[]) (mvT hZ (hw _ (List.mem_of_getElem? (i := 22) rfl)))) (mvT hZ (hw _ (List.mem_of_getElem? (i := 22) rfl))) (mvT hZ (hw _ (List.mem_of_getElem? (i := 21) rfl))) (by decide) (backOf (W := 0) (rmAdd_23_ce l Z a0 hw [] q t2 (FP.i2d j2) A B kA kB (0 : Int32) (0 : Int32) t1 (0 : UInt64) (0 : UInt64) (FP.i2d j1) T816.heap n0 (Nat.le_trans Z0 K816.1) f865 f1_816 f2_816 f3_816 f4_816 f5_816 f6_816 naA naB nAB g_q gA gB (fun z => qa819 ((own_gt _ _ _).mp z))) hZ (hw _ (List.mem_of_getElem? (i := 23) rfl)) (hw _ (List.mem_of_getElem? (i := 2) rfl)) (by decide) (by decide)) qa866 qc866 (g := (mkF m 125 #[.val (.int p1), .val (.int p2), .val (.int p3), .val (.int t2), .val (.int t1), .val (.int t0), .val (.int j0), .val (.int j1), .val (.int j2), .val (.double (FP.i2d j0)), .second, .val (.double (FP.i2d j1)), .second, .val (.double (FP.i2d j2)), .second, .val (.ref q), .val (.int (1 : Int32)), .unset, .unset, .unset] [(.double (FP.i2d j2)), (.int t2), (.ref q)])) rfl (by rw [hml]; rfl) (Steps.refl _) (argsL := [(.int t2), (.double (FP.i2d j2))]) (rest := []) (lenOf own_pd__ID_V rfl) rfl (by show 2 * 0 + _ ≤ _; exact Nat.le_of_eq rfl) (Jvm.hb hby at_125) (fun _ _ => ⟨rfl, rfl, (by decide : 3 + 0 ≤ _), (by decide : 10 + 0 ≤ _)⟩)
      dsimp only [Pt.U, Pt.locs, Pt.cells, Pt.slots] at X866 l866 y866 z866 st866 hQ866
      subst l866 y866 z866
      obtain ⟨rfl, Nq866, Kq866, f1_866, f2_866, f3_866, f4_866, f5_866, f6_866⟩ := hQ866
      have N866 := Fr.app N816 Nq866
      have K866 : Keep h0 T866.heap [] := K816.trans Kq866 (allS (Or.inr sz_q) (allS (Or.inr sz_A) (allS (Or.inr sz_B) (all0))))
      have pre867 : ∀ τ, Steps p.tables e below (T866.setTop (mkF m 128 #[.val (.int p1), .val (.int p2), .val (.int p3), .val (.int t2), .val (.int t1), .val (.int t0), .val (.int j0), .val (.int j1), .val (.int j2), .val (.double (FP.i2d j0)), .second, .val (.double (FP.i2d j1)), .second, .val (.double (FP.i2d j2)), .second, .val (.ref q), .val (.int (1 : Int32)), .unset, .unset, .unset] [])) τ → Steps p.tables e below (s₁.setTop (entryFrame m #[(.int p1), (.int p2), (.int p3)] maxLocals)) τ := fun τ kt => pre818 τ ((st866).trans kt)
      have f868 := f865.keep Kq866
      have pre869 : ∀ τ, Steps p.tables e below (T866.setTop (mkF m 130 #[.val (.int p1), .val (.int p2), .val (.int p3), .val (.int t2), .val (.int t1), .val (.int t0), .val (.int j0), .val (.int j1), .val (.int j2), .val (.double (FP.i2d j0)), .second, .val (.double (FP.i2d j1)), .second, .val (.double (FP.i2d j2)), .second, .val (.ref q), .val (.int (1 : Int32)), .unset, .unset, .unset] [(.ref q)])) τ → Steps p.tables e below (s₁.setTop (entryFrame m #[(.int p1), (.int p2), (.int p3)] maxLocals)) τ := fun τ kt => pre867 τ (by
        show Steps p.tables e below (T866.setTop (mkF m 128 #[.val (.int p1), .val (.int p2), .val (.int p3), .val (.int t2), .val (.int t1), .val (.int t0), .val (.int j0), .val (.int j1), .val (.int j2), .val (.double (FP.i2d j0)), .second, .val (.double (FP.i2d j1)), .second, .val (.double (FP.i2d j2)), .second, .val (.ref q), .val (.int (1 : Int32)), .unset, .unset, .unset] [])) τ
        refine XS.aload X866.here hx rfl (Jvm.hb hby at_128) rfl rfl ?_
        exact kt)
      obtain ⟨cq870, kq870, qa870, qb870, qc870⟩ := isOf hZ rfl f868
      obtain ⟨_, _, ⟨T870, L870, k870, n870⟩, -, X870, ⟨Lc870, hQ870, l870, y870, z870⟩, st870⟩ := X866.virtualBack hx (y := (⟨"com/example/counterpath/counterpath/core/CappedMaximum", "maximum", "()D"⟩ : MethodName)) (z := (⟨"com/example/counterpath/counterpath/core/CappedMaximum", "maximum", "()D"⟩ : MethodName)) hown (mvT hZ (hw _ (List.mem_of_getElem? (i := 24) rfl))) (mvT hZ (hw _ (List.mem_of_getElem? (i := 25) rfl))) (notFace_of_selects (args := #[]) (mvT hZ (hw _ (List.mem_of_getElem? (i := 27) rfl)))) (mvT hZ (hw _ (List.mem_of_getElem? (i := 27) rfl))) (mvT hZ (hw _ (List.mem_of_getElem? (i := 26) rfl))) (by decide) (backOf (W := 0) (rmMax_23 l Z a0 hw [] q A B kA kB (0 : Int32) (0 : Int32) t2 (0 : UInt64) (0 : UInt64) (FP.i2d j2) T866.heap n0 (Nat.le_trans Z0 K866.1) f868 f1_866 f2_866 f3_866 f4_866 f5_866 f6_866 naA naB nAB g_q gA gB) hZ (hw _ (List.mem_of_getElem? (i := 28) rfl)) (hw _ (List.mem_of_getElem? (i := 2) rfl)) (by decide) (by decide)) qa870 qc870 (g := (mkF m 130 #[.val (.int p1), .val (.int p2), .val (.int p3), .val (.int t2), .val (.int t1), .val (.int t0), .val (.int j0), .val (.int j1), .val (.int j2), .val (.double (FP.i2d j0)), .second, .val (.double (FP.i2d j1)), .second, .val (.double (FP.i2d j2)), .second, .val (.ref q), .val (.int (1 : Int32)), .unset, .unset, .unset] [(.ref q)])) rfl (by rw [hml]; rfl) (Steps.refl _) (argsL := []) (rest := []) (lenOf own_pd___D rfl) rfl (by show 2 * 0 + _ ≤ _; exact Nat.le_of_eq rfl) (Jvm.hb hby at_130) (fun _ _ => ⟨rfl, rfl, (by decide : 3 + 0 ≤ _), (by decide : 10 + 0 ≤ _)⟩)
      dsimp only [Pt.U, Pt.locs, Pt.cells, Pt.slots] at X870 l870 y870 z870 st870 hQ870
      subst l870 y870 z870
      obtain ⟨rfl, Nq870, eq870⟩ := hQ870
      have N870 := Fr.app N866 Nq870
      have pre871 : ∀ τ, Steps p.tables e below (T870.setTop (mkF m 133 #[.val (.int p1), .val (.int p2), .val (.int p3), .val (.int t2), .val (.int t1), .val (.int t0), .val (.int j0), .val (.int j1), .val (.int j2), .val (.double (FP.i2d j0)), .second, .val (.double (FP.i2d j1)), .second, .val (.double (FP.i2d j2)), .second, .val (.ref q), .val (.int (1 : Int32)), .unset, .unset, .unset] [(.double (FP.i2d j2))])) τ → Steps p.tables e below (s₁.setTop (entryFrame m #[(.int p1), (.int p2), (.int p3)] maxLocals)) τ := fun τ kt => pre869 τ ((st870).trans kt)
      have pre872 : ∀ τ, Steps p.tables e below (T870.setTop (mkF m 139 #[.val (.int p1), .val (.int p2), .val (.int p3), .val (.int t2), .val (.int t1), .val (.int t0), .val (.int j0), .val (.int j1), .val (.int j2), .val (.double (FP.i2d j0)), .second, .val (.double (FP.i2d j1)), .second, .val (.double (FP.i2d j2)), .second, .val (.ref q), .val (.int (1 : Int32)), .unset, .unset, .unset] [(.int j2), (.int j1), (.int j0), (.double (FP.i2d j2))])) τ → Steps p.tables e below (s₁.setTop (entryFrame m #[(.int p1), (.int p2), (.int p3)] maxLocals)) τ := fun τ kt => pre871 τ (by
        show Steps p.tables e below (T870.setTop (mkF m 133 #[.val (.int p1), .val (.int p2), .val (.int p3), .val (.int t2), .val (.int t1), .val (.int t0), .val (.int j0), .val (.int j1), .val (.int j2), .val (.double (FP.i2d j0)), .second, .val (.double (FP.i2d j1)), .second, .val (.double (FP.i2d j2)), .second, .val (.ref q), .val (.int (1 : Int32)), .unset, .unset, .unset] [(.double (FP.i2d j2))])) τ
        refine XS.iload X870.here hx rfl (Jvm.hb hby at_133) rfl ?_
        show Steps p.tables e below (T870.setTop (mkF m 135 #[.val (.int p1), .val (.int p2), .val (.int p3), .val (.int t2), .val (.int t1), .val (.int t0), .val (.int j0), .val (.int j1), .val (.int j2), .val (.double (FP.i2d j0)), .second, .val (.double (FP.i2d j1)), .second, .val (.double (FP.i2d j2)), .second, .val (.ref q), .val (.int (1 : Int32)), .unset, .unset, .unset] [(.int j0), (.double (FP.i2d j2))])) τ
        refine XS.iload X870.here hx rfl (Jvm.hb hby at_135) rfl ?_
        show Steps p.tables e below (T870.setTop (mkF m 137 #[.val (.int p1), .val (.int p2), .val (.int p3), .val (.int t2), .val (.int t1), .val (.int t0), .val (.int j0), .val (.int j1), .val (.int j2), .val (.double (FP.i2d j0)), .second, .val (.double (FP.i2d j1)), .second, .val (.double (FP.i2d j2)), .second, .val (.ref q), .val (.int (1 : Int32)), .unset, .unset, .unset] [(.int j1), (.int j0), (.double (FP.i2d j2))])) τ
        refine XS.iload X870.here hx rfl (Jvm.hb hby at_137) rfl ?_
        exact kt)
      obtain ⟨_, _, ⟨T873, L873, k873, n873⟩, -, X873, ⟨Lc873, hQ873, l873, y873, z873⟩, st873⟩ := Jvm.LawKit.callS X870 hx (y := (⟨"java/lang/Math", "max", "(II)I"⟩ : MethodName)) hown (mvT hZ (hw _ (List.mem_of_getElem? (i := 29) rfl))) (mvT hZ (hw _ (List.mem_of_getElem? (i := 30) rfl))) (mvT hZ (hw _ (List.mem_of_getElem? (i := 31) rfl))) (mvT hZ (hw _ (List.mem_of_getElem? (i := 32) rfl))) (by decide) (backOf (W := 3) (rmM l Z a0 hw [] j1 j2 T866.heap n0 (Nat.le_trans Z0 K866.1)) hZ (hw _ (List.mem_of_getElem? (i := 32) rfl)) (hw _ (List.mem_of_getElem? (i := 31) rfl)) (by decide) (by decide)) (g := (mkF m 139 #[.val (.int p1), .val (.int p2), .val (.int p3), .val (.int t2), .val (.int t1), .val (.int t0), .val (.int j0), .val (.int j1), .val (.int j2), .val (.double (FP.i2d j0)), .second, .val (.double (FP.i2d j1)), .second, .val (.double (FP.i2d j2)), .second, .val (.ref q), .val (.int (1 : Int32)), .unset, .unset, .unset] [(.int j2), (.int j1), (.int j0), (.double (FP.i2d j2))])) rfl (by rw [hml]; rfl) (argsL := [(.int j1), (.int j2)]) (rest := [(.int j0), (.double (FP.i2d j2))]) (lenOf own_pd__II_I rfl) rfl (by show 2 * 0 + _ ≤ _; exact Nat.le_of_eq rfl) (Jvm.hb hby at_139) (fun _ _ => ⟨rfl, eq870, (by decide : 3 + 0 ≤ _), (by decide : 10 + 0 ≤ _)⟩)
      dsimp only [Pt.U, Pt.locs, Pt.cells, Pt.slots] at X873 l873 y873 z873 st873 hQ873
      subst l873 y873 z873
      obtain ⟨rfl, Nq873, eq873⟩ := hQ873
      have N873 := Fr.app N870 Nq873
      have pre874 : ∀ τ, Steps p.tables e below (T873.setTop (mkF m 142 #[.val (.int p1), .val (.int p2), .val (.int p3), .val (.int t2), .val (.int t1), .val (.int t0), .val (.int j0), .val (.int j1), .val (.int j2), .val (.double (FP.i2d j0)), .second, .val (.double (FP.i2d j1)), .second, .val (.double (FP.i2d j2)), .second, .val (.ref q), .val (.int (1 : Int32)), .unset, .unset, .unset] [(.int (own_max j1 j2)), (.int j0), (.double (FP.i2d j2))])) τ → Steps p.tables e below (s₁.setTop (entryFrame m #[(.int p1), (.int p2), (.int p3)] maxLocals)) τ := fun τ kt => pre872 τ (st873 τ kt)
      obtain ⟨_, _, ⟨T875, L875, k875, n875⟩, -, X875, ⟨Lc875, hQ875, l875, y875, z875⟩, st875⟩ := Jvm.LawKit.callS X873 hx (y := (⟨"java/lang/Math", "max", "(II)I"⟩ : MethodName)) hown (mvT hZ (hw _ (List.mem_of_getElem? (i := 29) rfl))) (mvT hZ (hw _ (List.mem_of_getElem? (i := 30) rfl))) (mvT hZ (hw _ (List.mem_of_getElem? (i := 31) rfl))) (mvT hZ (hw _ (List.mem_of_getElem? (i := 32) rfl))) (by decide) (backOf (W := 2) (rmM l Z a0 hw [] j0 (own_max j1 j2) T866.heap n0 (Nat.le_trans Z0 K866.1)) hZ (hw _ (List.mem_of_getElem? (i := 32) rfl)) (hw _ (List.mem_of_getElem? (i := 31) rfl)) (by decide) (by decide)) (g := (mkF m 142 #[.val (.int p1), .val (.int p2), .val (.int p3), .val (.int t2), .val (.int t1), .val (.int t0), .val (.int j0), .val (.int j1), .val (.int j2), .val (.double (FP.i2d j0)), .second, .val (.double (FP.i2d j1)), .second, .val (.double (FP.i2d j2)), .second, .val (.ref q), .val (.int (1 : Int32)), .unset, .unset, .unset] [(.int (own_max j1 j2)), (.int j0), (.double (FP.i2d j2))])) rfl (by rw [hml]; rfl) (argsL := [(.int j0), (.int (own_max j1 j2))]) (rest := [(.double (FP.i2d j2))]) (lenOf own_pd__II_I rfl) rfl (by show 2 * 0 + _ ≤ _; exact Nat.le_of_eq rfl) (Jvm.hb hby at_142) (fun _ _ => ⟨rfl, eq873, (by decide : 3 + 0 ≤ _), (by decide : 10 + 0 ≤ _)⟩)
      dsimp only [Pt.U, Pt.locs, Pt.cells, Pt.slots] at X875 l875 y875 z875 st875 hQ875
      subst l875 y875 z875
      obtain ⟨rfl, Nq875, eq875⟩ := hQ875
      have N875 := Fr.app N873 Nq875
      have pre876 : ∀ τ, Steps p.tables e below (T875.setTop (mkF m 145 #[.val (.int p1), .val (.int p2), .val (.int p3), .val (.int t2), .val (.int t1), .val (.int t0), .val (.int j0), .val (.int j1), .val (.int j2), .val (.double (FP.i2d j0)), .second, .val (.double (FP.i2d j1)), .second, .val (.double (FP.i2d j2)), .second, .val (.ref q), .val (.int (1 : Int32)), .unset, .unset, .unset] [(.int (own_max j0 (own_max j1 j2))), (.double (FP.i2d j2))])) τ → Steps p.tables e below (s₁.setTop (entryFrame m #[(.int p1), (.int p2), (.int p3)] maxLocals)) τ := fun τ kt => pre874 τ (st875 τ kt)
      have pre877 : ∀ τ, Steps p.tables e below (T875.setTop (mkF m 161 #[.val (.int p1), .val (.int p2), .val (.int p3), .val (.int t2), .val (.int t1), .val (.int t0), .val (.int j0), .val (.int j1), .val (.int j2), .val (.double (FP.i2d j0)), .second, .val (.double (FP.i2d j1)), .second, .val (.double (FP.i2d j2)), .second, .val (.ref q), .val (.int (1 : Int32)), .val (.int (1 : Int32)), .unset, .unset] [(.int t1), (.ref q)])) τ → Steps p.tables e below (s₁.setTop (entryFrame m #[(.int p1), (.int p2), (.int p3)] maxLocals)) τ := fun τ kt => pre876 τ (by
        show Steps p.tables e below (T875.setTop (mkF m 145 #[.val (.int p1), .val (.int p2), .val (.int p3), .val (.int t2), .val (.int t1), .val (.int t0), .val (.int j0), .val (.int j1), .val (.int j2), .val (.double (FP.i2d j0)), .second, .val (.double (FP.i2d j1)), .second, .val (.double (FP.i2d j2)), .second, .val (.ref q), .val (.int (1 : Int32)), .unset, .unset, .unset] [(.int (own_max j0 (own_max j1 j2))), (.double (FP.i2d j2))])) τ
        refine own_i2d X875.here hx rfl (Jvm.hb hby at_145) rfl ?_
        show Steps p.tables e below (T875.setTop (mkF m 146 #[.val (.int p1), .val (.int p2), .val (.int p3), .val (.int t2), .val (.int t1), .val (.int t0), .val (.int j0), .val (.int j1), .val (.int j2), .val (.double (FP.i2d j0)), .second, .val (.double (FP.i2d j1)), .second, .val (.double (FP.i2d j2)), .second, .val (.ref q), .val (.int (1 : Int32)), .unset, .unset, .unset] [(.double (FP.i2d (own_max j0 (own_max j1 j2)))), (.double (FP.i2d j2))])) τ
        refine own_dcmp X875.here hx rfl (Jvm.hb hby at_146) rfl ?_
        show Steps p.tables e below (T875.setTop (mkF m 147 #[.val (.int p1), .val (.int p2), .val (.int p3), .val (.int t2), .val (.int t1), .val (.int t0), .val (.int j0), .val (.int j1), .val (.int j2), .val (.double (FP.i2d j0)), .second, .val (.double (FP.i2d j1)), .second, .val (.double (FP.i2d j2)), .second, .val (.ref q), .val (.int (1 : Int32)), .unset, .unset, .unset] [(.int (cmpValue (FP.dcmp (FP.i2d j2) (FP.i2d (own_max j0 (own_max j1 j2)))) .l))])) τ
        refine XS.ifNo X875.here hx rfl (Jvm.hb hby at_147) rfl ((if0 _ _).trans (teq (own_eq (by first | rfl | (simp only [own_max_int]; omega)) _)).2) ?_
        show Steps p.tables e below (T875.setTop (mkF m 150 #[.val (.int p1), .val (.int p2), .val (.int p3), .val (.int t2), .val (.int t1), .val (.int t0), .val (.int j0), .val (.int j1), .val (.int j2), .val (.double (FP.i2d j0)), .second, .val (.double (FP.i2d j1)), .second, .val (.double (FP.i2d j2)), .second, .val (.ref q), .val (.int (1 : Int32)), .unset, .unset, .unset] [])) τ
        refine XS.iconst X875.here hx rfl (Jvm.hb hby at_150) ?_
        show Steps p.tables e below (T875.setTop (mkF m 151 #[.val (.int p1), .val (.int p2), .val (.int p3), .val (.int t2), .val (.int t1), .val (.int t0), .val (.int j0), .val (.int j1), .val (.int j2), .val (.double (FP.i2d j0)), .second, .val (.double (FP.i2d j1)), .second, .val (.double (FP.i2d j2)), .second, .val (.ref q), .val (.int (1 : Int32)), .unset, .unset, .unset] [(.int (1 : Int32))])) τ
        refine XS.goto X875.here hx rfl (pc0 := 151) (pc' := 155) rfl (Jvm.hb hby at_151) (by decide) (by decide) ?_
        show Steps p.tables e below (T875.setTop (mkF m 155 #[.val (.int p1), .val (.int p2), .val (.int p3), .val (.int t2), .val (.int t1), .val (.int t0), .val (.int j0), .val (.int j1), .val (.int j2), .val (.double (FP.i2d j0)), .second, .val (.double (FP.i2d j1)), .second, .val (.double (FP.i2d j2)), .second, .val (.ref q), .val (.int (1 : Int32)), .unset, .unset, .unset] [(.int (1 : Int32))])) τ
        refine XS.istore X875.here hx rfl (Jvm.hb hby at_155) rfl (l' := #[.val (.int p1), .val (.int p2), .val (.int p3), .val (.int t2), .val (.int t1), .val (.int t0), .val (.int j0), .val (.int j1), .val (.int j2), .val (.double (FP.i2d j0)), .second, .val (.double (FP.i2d j1)), .second, .val (.double (FP.i2d j2)), .second, .val (.ref q), .val (.int (1 : Int32)), .val (.int (1 : Int32)), .unset, .unset]) rfl ?_
        show Steps p.tables e below (T875.setTop (mkF m 157 #[.val (.int p1), .val (.int p2), .val (.int p3), .val (.int t2), .val (.int t1), .val (.int t0), .val (.int j0), .val (.int j1), .val (.int j2), .val (.double (FP.i2d j0)), .second, .val (.double (FP.i2d j1)), .second, .val (.double (FP.i2d j2)), .second, .val (.ref q), .val (.int (1 : Int32)), .val (.int (1 : Int32)), .unset, .unset] [])) τ
        refine XS.aload X875.here hx rfl (Jvm.hb hby at_157) rfl rfl ?_
        show Steps p.tables e below (T875.setTop (mkF m 159 #[.val (.int p1), .val (.int p2), .val (.int p3), .val (.int t2), .val (.int t1), .val (.int t0), .val (.int j0), .val (.int j1), .val (.int j2), .val (.double (FP.i2d j0)), .second, .val (.double (FP.i2d j1)), .second, .val (.double (FP.i2d j2)), .second, .val (.ref q), .val (.int (1 : Int32)), .val (.int (1 : Int32)), .unset, .unset] [(.ref q)])) τ
        refine XS.iload X875.here hx rfl (Jvm.hb hby at_159) rfl ?_
        exact kt)
      obtain ⟨cq878, kq878, qa878, qb878, qc878⟩ := isOf hZ eq875 f868
      obtain ⟨_, _, ⟨T878, L878, k878, n878⟩, -, X878, ⟨Lc878, hQ878, l878, y878, z878⟩, st878⟩ := X875.virtualBack hx (y := (⟨"com/example/counterpath/counterpath/core/CappedMaximum", "removeAfter", "(I)V"⟩ : MethodName)) (z := (⟨"com/example/counterpath/counterpath/core/CappedMaximum", "removeAfter", "(I)V"⟩ : MethodName)) hown (mvT hZ (hw _ (List.mem_of_getElem? (i := 33) rfl))) (mvT hZ (hw _ (List.mem_of_getElem? (i := 34) rfl))) (notFace_of_selects (args := #[]) (mvT hZ (hw _ (List.mem_of_getElem? (i := 36) rfl)))) (mvT hZ (hw _ (List.mem_of_getElem? (i := 36) rfl))) (mvT hZ (hw _ (List.mem_of_getElem? (i := 35) rfl))) (by decide) (backOf (W := 0) (rmRem_23_x l Z a0 hw [] q t1 A B kA kB (0 : Int32) (0 : Int32) t2 (0 : UInt64) (0 : UInt64) (FP.i2d j2) T866.heap n0 (Nat.le_trans Z0 K866.1) f868 f1_866 f2_866 f3_866 f4_866 f5_866 f6_866 naA naB nAB g_q gA gB (fun z => Int32.lt_asymm z l21)) hZ (hw _ (List.mem_of_getElem? (i := 37) rfl)) (hw _ (List.mem_of_getElem? (i := 2) rfl)) (by decide) (by decide)) qa878 qc878 (g := (mkF m 161 #[.val (.int p1), .val (.int p2), .val (.int p3), .val (.int t2), .val (.int t1), .val (.int t0), .val (.int j0), .val (.int j1), .val (.int j2), .val (.double (FP.i2d j0)), .second, .val (.double (FP.i2d j1)), .second, .val (.double (FP.i2d j2)), .second, .val (.ref q), .val (.int (1 : Int32)), .val (.int (1 : Int32)), .unset, .unset] [(.int t1), (.ref q)])) rfl (by rw [hml]; rfl) (Steps.refl _) (argsL := [(.int t1)]) (rest := []) (lenOf own_pd__I_V rfl) rfl (by show 2 * 0 + _ ≤ _; exact Nat.le_of_eq rfl) (Jvm.hb hby at_161) (fun _ _ => ⟨rfl, eq875, (by decide : 3 + 0 ≤ _), (by decide : 10 + 0 ≤ _)⟩)
      dsimp only [Pt.U, Pt.locs, Pt.cells, Pt.slots] at X878 l878 y878 z878 st878 hQ878
      subst l878 y878 z878
      obtain ⟨rfl, Nq878, Kq878, f1_878, f2_878, f3_878, f4_878, f5_878, f6_878⟩ := hQ878
      have N878 := Fr.app N875 Nq878
      have K878 : Keep h0 T878.heap [] := K866.trans Kq878 (allS (Or.inr sz_q) (allS (Or.inr sz_A) (allS (Or.inr sz_B) (all0))))
      have pre879 : ∀ τ, Steps p.tables e below (T878.setTop (mkF m 164 #[.val (.int p1), .val (.int p2), .val (.int p3), .val (.int t2), .val (.int t1), .val (.int t0), .val (.int j0), .val (.int j1), .val (.int j2), .val (.double (FP.i2d j0)), .second, .val (.double (FP.i2d j1)), .second, .val (.double (FP.i2d j2)), .second, .val (.ref q), .val (.int (1 : Int32)), .val (.int (1 : Int32)), .unset, .unset] [])) τ → Steps p.tables e below (s₁.setTop (entryFrame m #[(.int p1), (.int p2), (.int p3)] maxLocals)) τ := fun τ kt => pre877 τ ((st878).trans kt)
      have f880 := f868.keep Kq878
      have pre881 : ∀ τ, Steps p.tables e below (T878.setTop (mkF m 166 #[.val (.int p1), .val (.int p2), .val (.int p3), .val (.int t2), .val (.int t1), .val (.int t0), .val (.int j0), .val (.int j1), .val (.int j2), .val (.double (FP.i2d j0)), .second, .val (.double (FP.i2d j1)), .second, .val (.double (FP.i2d j2)), .second, .val (.ref q), .val (.int (1 : Int32)), .val (.int (1 : Int32)), .unset, .unset] [(.ref q)])) τ → Steps p.tables e below (s₁.setTop (entryFrame m #[(.int p1), (.int p2), (.int p3)] maxLocals)) τ := fun τ kt => pre879 τ (by
        show Steps p.tables e below (T878.setTop (mkF m 164 #[.val (.int p1), .val (.int p2), .val (.int p3), .val (.int t2), .val (.int t1), .val (.int t0), .val (.int j0), .val (.int j1), .val (.int j2), .val (.double (FP.i2d j0)), .second, .val (.double (FP.i2d j1)), .second, .val (.double (FP.i2d j2)), .second, .val (.ref q), .val (.int (1 : Int32)), .val (.int (1 : Int32)), .unset, .unset] [])) τ
        refine XS.aload X878.here hx rfl (Jvm.hb hby at_164) rfl rfl ?_
        exact kt)
      obtain ⟨cq882, kq882, qa882, qb882, qc882⟩ := isOf hZ rfl f880
      obtain ⟨_, _, ⟨T882, L882, k882, n882⟩, -, X882, ⟨Lc882, hQ882, l882, y882, z882⟩, st882⟩ := X878.virtualBack hx (y := (⟨"com/example/counterpath/counterpath/core/CappedMaximum", "maximum", "()D"⟩ : MethodName)) (z := (⟨"com/example/counterpath/counterpath/core/CappedMaximum", "maximum", "()D"⟩ : MethodName)) hown (mvT hZ (hw _ (List.mem_of_getElem? (i := 24) rfl))) (mvT hZ (hw _ (List.mem_of_getElem? (i := 25) rfl))) (notFace_of_selects (args := #[]) (mvT hZ (hw _ (List.mem_of_getElem? (i := 27) rfl)))) (mvT hZ (hw _ (List.mem_of_getElem? (i := 27) rfl))) (mvT hZ (hw _ (List.mem_of_getElem? (i := 26) rfl))) (by decide) (backOf (W := 0) (rmMax_23 l Z a0 hw [] q A B kA kB (0 : Int32) (0 : Int32) t2 (0 : UInt64) (0 : UInt64) (FP.i2d j2) T878.heap n0 (Nat.le_trans Z0 K878.1) f880 f1_878 f2_878 f3_878 f4_878 f5_878 f6_878 naA naB nAB g_q gA gB) hZ (hw _ (List.mem_of_getElem? (i := 28) rfl)) (hw _ (List.mem_of_getElem? (i := 2) rfl)) (by decide) (by decide)) qa882 qc882 (g := (mkF m 166 #[.val (.int p1), .val (.int p2), .val (.int p3), .val (.int t2), .val (.int t1), .val (.int t0), .val (.int j0), .val (.int j1), .val (.int j2), .val (.double (FP.i2d j0)), .second, .val (.double (FP.i2d j1)), .second, .val (.double (FP.i2d j2)), .second, .val (.ref q), .val (.int (1 : Int32)), .val (.int (1 : Int32)), .unset, .unset] [(.ref q)])) rfl (by rw [hml]; rfl) (Steps.refl _) (argsL := []) (rest := []) (lenOf own_pd___D rfl) rfl (by show 2 * 0 + _ ≤ _; exact Nat.le_of_eq rfl) (Jvm.hb hby at_166) (fun _ _ => ⟨rfl, rfl, (by decide : 3 + 0 ≤ _), (by decide : 10 + 0 ≤ _)⟩)
      dsimp only [Pt.U, Pt.locs, Pt.cells, Pt.slots] at X882 l882 y882 z882 st882 hQ882
      subst l882 y882 z882
      obtain ⟨rfl, Nq882, eq882⟩ := hQ882
      have N882 := Fr.app N878 Nq882
      have pre883 : ∀ τ, Steps p.tables e below (T882.setTop (mkF m 169 #[.val (.int p1), .val (.int p2), .val (.int p3), .val (.int t2), .val (.int t1), .val (.int t0), .val (.int j0), .val (.int j1), .val (.int j2), .val (.double (FP.i2d j0)), .second, .val (.double (FP.i2d j1)), .second, .val (.double (FP.i2d j2)), .second, .val (.ref q), .val (.int (1 : Int32)), .val (.int (1 : Int32)), .unset, .unset] [(.double (FP.i2d j2))])) τ → Steps p.tables e below (s₁.setTop (entryFrame m #[(.int p1), (.int p2), (.int p3)] maxLocals)) τ := fun τ kt => pre881 τ ((st882).trans kt)
      have pre884 : ∀ τ, Steps p.tables e below (T882.setTop (mkF m 173 #[.val (.int p1), .val (.int p2), .val (.int p3), .val (.int t2), .val (.int t1), .val (.int t0), .val (.int j0), .val (.int j1), .val (.int j2), .val (.double (FP.i2d j0)), .second, .val (.double (FP.i2d j1)), .second, .val (.double (FP.i2d j2)), .second, .val (.ref q), .val (.int (1 : Int32)), .val (.int (1 : Int32)), .unset, .unset] [(.int j2), (.int j1), (.double (FP.i2d j2))])) τ → Steps p.tables e below (s₁.setTop (entryFrame m #[(.int p1), (.int p2), (.int p3)] maxLocals)) τ := fun τ kt => pre883 τ (by
        show Steps p.tables e below (T882.setTop (mkF m 169 #[.val (.int p1), .val (.int p2), .val (.int p3), .val (.int t2), .val (.int t1), .val (.int t0), .val (.int j0), .val (.int j1), .val (.int j2), .val (.double (FP.i2d j0)), .second, .val (.double (FP.i2d j1)), .second, .val (.double (FP.i2d j2)), .second, .val (.ref q), .val (.int (1 : Int32)), .val (.int (1 : Int32)), .unset, .unset] [(.double (FP.i2d j2))])) τ
        refine XS.iload X882.here hx rfl (Jvm.hb hby at_169) rfl ?_
        show Steps p.tables e below (T882.setTop (mkF m 171 #[.val (.int p1), .val (.int p2), .val (.int p3), .val (.int t2), .val (.int t1), .val (.int t0), .val (.int j0), .val (.int j1), .val (.int j2), .val (.double (FP.i2d j0)), .second, .val (.double (FP.i2d j1)), .second, .val (.double (FP.i2d j2)), .second, .val (.ref q), .val (.int (1 : Int32)), .val (.int (1 : Int32)), .unset, .unset] [(.int j1), (.double (FP.i2d j2))])) τ
        refine XS.iload X882.here hx rfl (Jvm.hb hby at_171) rfl ?_
        exact kt)
      obtain ⟨_, _, ⟨T885, L885, k885, n885⟩, -, X885, ⟨Lc885, hQ885, l885, y885, z885⟩, st885⟩ := Jvm.LawKit.callS X882 hx (y := (⟨"java/lang/Math", "max", "(II)I"⟩ : MethodName)) hown (mvT hZ (hw _ (List.mem_of_getElem? (i := 29) rfl))) (mvT hZ (hw _ (List.mem_of_getElem? (i := 30) rfl))) (mvT hZ (hw _ (List.mem_of_getElem? (i := 31) rfl))) (mvT hZ (hw _ (List.mem_of_getElem? (i := 32) rfl))) (by decide) (backOf (W := 2) (rmM l Z a0 hw [] j1 j2 T878.heap n0 (Nat.le_trans Z0 K878.1)) hZ (hw _ (List.mem_of_getElem? (i := 32) rfl)) (hw _ (List.mem_of_getElem? (i := 31) rfl)) (by decide) (by decide)) (g := (mkF m 173 #[.val (.int p1), .val (.int p2), .val (.int p3), .val (.int t2), .val (.int t1), .val (.int t0), .val (.int j0), .val (.int j1), .val (.int j2), .val (.double (FP.i2d j0)), .second, .val (.double (FP.i2d j1)), .second, .val (.double (FP.i2d j2)), .second, .val (.ref q), .val (.int (1 : Int32)), .val (.int (1 : Int32)), .unset, .unset] [(.int j2), (.int j1), (.double (FP.i2d j2))])) rfl (by rw [hml]; rfl) (argsL := [(.int j1), (.int j2)]) (rest := [(.double (FP.i2d j2))]) (lenOf own_pd__II_I rfl) rfl (by show 2 * 0 + _ ≤ _; exact Nat.le_of_eq rfl) (Jvm.hb hby at_173) (fun _ _ => ⟨rfl, eq882, (by decide : 3 + 0 ≤ _), (by decide : 10 + 0 ≤ _)⟩)
      dsimp only [Pt.U, Pt.locs, Pt.cells, Pt.slots] at X885 l885 y885 z885 st885 hQ885
      subst l885 y885 z885
      obtain ⟨rfl, Nq885, eq885⟩ := hQ885
      have N885 := Fr.app N882 Nq885
      have pre886 : ∀ τ, Steps p.tables e below (T885.setTop (mkF m 176 #[.val (.int p1), .val (.int p2), .val (.int p3), .val (.int t2), .val (.int t1), .val (.int t0), .val (.int j0), .val (.int j1), .val (.int j2), .val (.double (FP.i2d j0)), .second, .val (.double (FP.i2d j1)), .second, .val (.double (FP.i2d j2)), .second, .val (.ref q), .val (.int (1 : Int32)), .val (.int (1 : Int32)), .unset, .unset] [(.int (own_max j1 j2)), (.double (FP.i2d j2))])) τ → Steps p.tables e below (s₁.setTop (entryFrame m #[(.int p1), (.int p2), (.int p3)] maxLocals)) τ := fun τ kt => pre884 τ (st885 τ kt)
      have pre887 : ∀ τ, Steps p.tables e below (T885.setTop (mkF m 191 #[.val (.int p1), .val (.int p2), .val (.int p3), .val (.int t2), .val (.int t1), .val (.int t0), .val (.int j0), .val (.int j1), .val (.int j2), .val (.double (FP.i2d j0)), .second, .val (.double (FP.i2d j1)), .second, .val (.double (FP.i2d j2)), .second, .val (.ref q), .val (.int (1 : Int32)), .val (.int (1 : Int32)), .val (.int (1 : Int32)), .unset] [(.int t2), (.ref q)])) τ → Steps p.tables e below (s₁.setTop (entryFrame m #[(.int p1), (.int p2), (.int p3)] maxLocals)) τ := fun τ kt => pre886 τ (by
        show Steps p.tables e below (T885.setTop (mkF m 176 #[.val (.int p1), .val (.int p2), .val (.int p3), .val (.int t2), .val (.int t1), .val (.int t0), .val (.int j0), .val (.int j1), .val (.int j2), .val (.double (FP.i2d j0)), .second, .val (.double (FP.i2d j1)), .second, .val (.double (FP.i2d j2)), .second, .val (.ref q), .val (.int (1 : Int32)), .val (.int (1 : Int32)), .unset, .unset] [(.int (own_max j1 j2)), (.double (FP.i2d j2))])) τ
        refine own_i2d X885.here hx rfl (Jvm.hb hby at_176) rfl ?_
        show Steps p.tables e below (T885.setTop (mkF m 177 #[.val (.int p1), .val (.int p2), .val (.int p3), .val (.int t2), .val (.int t1), .val (.int t0), .val (.int j0), .val (.int j1), .val (.int j2), .val (.double (FP.i2d j0)), .second, .val (.double (FP.i2d j1)), .second, .val (.double (FP.i2d j2)), .second, .val (.ref q), .val (.int (1 : Int32)), .val (.int (1 : Int32)), .unset, .unset] [(.double (FP.i2d (own_max j1 j2))), (.double (FP.i2d j2))])) τ
        refine own_dcmp X885.here hx rfl (Jvm.hb hby at_177) rfl ?_
        show Steps p.tables e below (T885.setTop (mkF m 178 #[.val (.int p1), .val (.int p2), .val (.int p3), .val (.int t2), .val (.int t1), .val (.int t0), .val (.int j0), .val (.int j1), .val (.int j2), .val (.double (FP.i2d j0)), .second, .val (.double (FP.i2d j1)), .second, .val (.double (FP.i2d j2)), .second, .val (.ref q), .val (.int (1 : Int32)), .val (.int (1 : Int32)), .unset, .unset] [(.int (cmpValue (FP.dcmp (FP.i2d j2) (FP.i2d (own_max j1 j2))) .l))])) τ
        refine XS.ifNo X885.here hx rfl (Jvm.hb hby at_178) rfl ((if0 _ _).trans (teq (own_eq (by first | rfl | (simp only [own_max_int]; omega)) _)).2) ?_
        show Steps p.tables e below (T885.setTop (mkF m 181 #[.val (.int p1), .val (.int p2), .val (.int p3), .val (.int t2), .val (.int t1), .val (.int t0), .val (.int j0), .val (.int j1), .val (.int j2), .val (.double (FP.i2d j0)), .second, .val (.double (FP.i2d j1)), .second, .val (.double (FP.i2d j2)), .second, .val (.ref q), .val (.int (1 : Int32)), .val (.int (1 : Int32)), .unset, .unset] [])) τ
        refine XS.iconst X885.here hx rfl (Jvm.hb hby at_181) ?_
        show Steps p.tables e below (T885.setTop (mkF m 182 #[.val (.int p1), .val (.int p2), .val (.int p3), .val (.int t2), .val (.int t1), .val (.int t0), .val (.int j0), .val (.int j1), .val (.int j2), .val (.double (FP.i2d j0)), .second, .val (.double (FP.i2d j1)), .second, .val (.double (FP.i2d j2)), .second, .val (.ref q), .val (.int (1 : Int32)), .val (.int (1 : Int32)), .unset, .unset] [(.int (1 : Int32))])) τ
        refine XS.goto X885.here hx rfl (pc0 := 182) (pc' := 186) rfl (Jvm.hb hby at_182) (by decide) (by decide) ?_
        show Steps p.tables e below (T885.setTop (mkF m 186 #[.val (.int p1), .val (.int p2), .val (.int p3), .val (.int t2), .val (.int t1), .val (.int t0), .val (.int j0), .val (.int j1), .val (.int j2), .val (.double (FP.i2d j0)), .second, .val (.double (FP.i2d j1)), .second, .val (.double (FP.i2d j2)), .second, .val (.ref q), .val (.int (1 : Int32)), .val (.int (1 : Int32)), .unset, .unset] [(.int (1 : Int32))])) τ
        refine XS.istore X885.here hx rfl (Jvm.hb hby at_186) rfl (l' := #[.val (.int p1), .val (.int p2), .val (.int p3), .val (.int t2), .val (.int t1), .val (.int t0), .val (.int j0), .val (.int j1), .val (.int j2), .val (.double (FP.i2d j0)), .second, .val (.double (FP.i2d j1)), .second, .val (.double (FP.i2d j2)), .second, .val (.ref q), .val (.int (1 : Int32)), .val (.int (1 : Int32)), .val (.int (1 : Int32)), .unset]) rfl ?_
        show Steps p.tables e below (T885.setTop (mkF m 188 #[.val (.int p1), .val (.int p2), .val (.int p3), .val (.int t2), .val (.int t1), .val (.int t0), .val (.int j0), .val (.int j1), .val (.int j2), .val (.double (FP.i2d j0)), .second, .val (.double (FP.i2d j1)), .second, .val (.double (FP.i2d j2)), .second, .val (.ref q), .val (.int (1 : Int32)), .val (.int (1 : Int32)), .val (.int (1 : Int32)), .unset] [])) τ
        refine XS.aload X885.here hx rfl (Jvm.hb hby at_188) rfl rfl ?_
        show Steps p.tables e below (T885.setTop (mkF m 190 #[.val (.int p1), .val (.int p2), .val (.int p3), .val (.int t2), .val (.int t1), .val (.int t0), .val (.int j0), .val (.int j1), .val (.int j2), .val (.double (FP.i2d j0)), .second, .val (.double (FP.i2d j1)), .second, .val (.double (FP.i2d j2)), .second, .val (.ref q), .val (.int (1 : Int32)), .val (.int (1 : Int32)), .val (.int (1 : Int32)), .unset] [(.ref q)])) τ
        refine XS.iloadN X885.here hx rfl (Jvm.hb hby at_190) rfl ?_
        exact kt)
      obtain ⟨cq888, kq888, qa888, qb888, qc888⟩ := isOf hZ eq885 f880
      obtain ⟨_, _, ⟨T888, L888, k888, n888⟩, -, X888, ⟨Lc888, hQ888, l888, y888, z888⟩, st888⟩ := X885.virtualBack hx (y := (⟨"com/example/counterpath/counterpath/core/CappedMaximum", "removeAfter", "(I)V"⟩ : MethodName)) (z := (⟨"com/example/counterpath/counterpath/core/CappedMaximum", "removeAfter", "(I)V"⟩ : MethodName)) hown (mvT hZ (hw _ (List.mem_of_getElem? (i := 33) rfl))) (mvT hZ (hw _ (List.mem_of_getElem? (i := 34) rfl))) (notFace_of_selects (args := #[]) (mvT hZ (hw _ (List.mem_of_getElem? (i := 36) rfl)))) (mvT hZ (hw _ (List.mem_of_getElem? (i := 36) rfl))) (mvT hZ (hw _ (List.mem_of_getElem? (i := 35) rfl))) (by decide) (backOf (W := 0) (rmRem_23_x l Z a0 hw [] q t2 A B kA kB (0 : Int32) (0 : Int32) t2 (0 : UInt64) (0 : UInt64) (FP.i2d j2) T878.heap n0 (Nat.le_trans Z0 K878.1) f880 f1_878 f2_878 f3_878 f4_878 f5_878 f6_878 naA naB nAB g_q gA gB (fun z => Int32.lt_irrefl z)) hZ (hw _ (List.mem_of_getElem? (i := 37) rfl)) (hw _ (List.mem_of_getElem? (i := 2) rfl)) (by decide) (by decide)) qa888 qc888 (g := (mkF m 191 #[.val (.int p1), .val (.int p2), .val (.int p3), .val (.int t2), .val (.int t1), .val (.int t0), .val (.int j0), .val (.int j1), .val (.int j2), .val (.double (FP.i2d j0)), .second, .val (.double (FP.i2d j1)), .second, .val (.double (FP.i2d j2)), .second, .val (.ref q), .val (.int (1 : Int32)), .val (.int (1 : Int32)), .val (.int (1 : Int32)), .unset] [(.int t2), (.ref q)])) rfl (by rw [hml]; rfl) (Steps.refl _) (argsL := [(.int t2)]) (rest := []) (lenOf own_pd__I_V rfl) rfl (by show 2 * 0 + _ ≤ _; exact Nat.le_of_eq rfl) (Jvm.hb hby at_191) (fun _ _ => ⟨rfl, eq885, (by decide : 3 + 0 ≤ _), (by decide : 10 + 0 ≤ _)⟩)
      dsimp only [Pt.U, Pt.locs, Pt.cells, Pt.slots] at X888 l888 y888 z888 st888 hQ888
      subst l888 y888 z888
      obtain ⟨rfl, Nq888, Kq888, f1_888, f2_888, f3_888, f4_888, f5_888, f6_888⟩ := hQ888
      have N888 := Fr.app N885 Nq888
      have K888 : Keep h0 T888.heap [] := K878.trans Kq888 (allS (Or.inr sz_q) (allS (Or.inr sz_A) (allS (Or.inr sz_B) (all0))))
      have pre889 : ∀ τ, Steps p.tables e below (T888.setTop (mkF m 194 #[.val (.int p1), .val (.int p2), .val (.int p3), .val (.int t2), .val (.int t1), .val (.int t0), .val (.int j0), .val (.int j1), .val (.int j2), .val (.double (FP.i2d j0)), .second, .val (.double (FP.i2d j1)), .second, .val (.double (FP.i2d j2)), .second, .val (.ref q), .val (.int (1 : Int32)), .val (.int (1 : Int32)), .val (.int (1 : Int32)), .unset] [])) τ → Steps p.tables e below (s₁.setTop (entryFrame m #[(.int p1), (.int p2), (.int p3)] maxLocals)) τ := fun τ kt => pre887 τ ((st888).trans kt)
      have f890 := f880.keep Kq888
      have pre891 : ∀ τ, Steps p.tables e below (T888.setTop (mkF m 196 #[.val (.int p1), .val (.int p2), .val (.int p3), .val (.int t2), .val (.int t1), .val (.int t0), .val (.int j0), .val (.int j1), .val (.int j2), .val (.double (FP.i2d j0)), .second, .val (.double (FP.i2d j1)), .second, .val (.double (FP.i2d j2)), .second, .val (.ref q), .val (.int (1 : Int32)), .val (.int (1 : Int32)), .val (.int (1 : Int32)), .unset] [(.ref q)])) τ → Steps p.tables e below (s₁.setTop (entryFrame m #[(.int p1), (.int p2), (.int p3)] maxLocals)) τ := fun τ kt => pre889 τ (by
        show Steps p.tables e below (T888.setTop (mkF m 194 #[.val (.int p1), .val (.int p2), .val (.int p3), .val (.int t2), .val (.int t1), .val (.int t0), .val (.int j0), .val (.int j1), .val (.int j2), .val (.double (FP.i2d j0)), .second, .val (.double (FP.i2d j1)), .second, .val (.double (FP.i2d j2)), .second, .val (.ref q), .val (.int (1 : Int32)), .val (.int (1 : Int32)), .val (.int (1 : Int32)), .unset] [])) τ
        refine XS.aload X888.here hx rfl (Jvm.hb hby at_194) rfl rfl ?_
        exact kt)
      obtain ⟨cq892, kq892, qa892, qb892, qc892⟩ := isOf hZ rfl f890
      obtain ⟨_, _, ⟨T892, L892, k892, n892⟩, -, X892, ⟨Lc892, hQ892, l892, y892, z892⟩, st892⟩ := X888.virtualBack hx (y := (⟨"com/example/counterpath/counterpath/core/CappedMaximum", "maximum", "()D"⟩ : MethodName)) (z := (⟨"com/example/counterpath/counterpath/core/CappedMaximum", "maximum", "()D"⟩ : MethodName)) hown (mvT hZ (hw _ (List.mem_of_getElem? (i := 24) rfl))) (mvT hZ (hw _ (List.mem_of_getElem? (i := 25) rfl))) (notFace_of_selects (args := #[]) (mvT hZ (hw _ (List.mem_of_getElem? (i := 27) rfl)))) (mvT hZ (hw _ (List.mem_of_getElem? (i := 27) rfl))) (mvT hZ (hw _ (List.mem_of_getElem? (i := 26) rfl))) (by decide) (backOf (W := 0) (rmMax_23 l Z a0 hw [] q A B kA kB (0 : Int32) (0 : Int32) t2 (0 : UInt64) (0 : UInt64) (FP.i2d j2) T888.heap n0 (Nat.le_trans Z0 K888.1) f890 f1_888 f2_888 f3_888 f4_888 f5_888 f6_888 naA naB nAB g_q gA gB) hZ (hw _ (List.mem_of_getElem? (i := 28) rfl)) (hw _ (List.mem_of_getElem? (i := 2) rfl)) (by decide) (by decide)) qa892 qc892 (g := (mkF m 196 #[.val (.int p1), .val (.int p2), .val (.int p3), .val (.int t2), .val (.int t1), .val (.int t0), .val (.int j0), .val (.int j1), .val (.int j2), .val (.double (FP.i2d j0)), .second, .val (.double (FP.i2d j1)), .second, .val (.double (FP.i2d j2)), .second, .val (.ref q), .val (.int (1 : Int32)), .val (.int (1 : Int32)), .val (.int (1 : Int32)), .unset] [(.ref q)])) rfl (by rw [hml]; rfl) (Steps.refl _) (argsL := []) (rest := []) (lenOf own_pd___D rfl) rfl (by show 2 * 0 + _ ≤ _; exact Nat.le_of_eq rfl) (Jvm.hb hby at_196) (fun _ _ => ⟨rfl, rfl, (by decide : 3 + 0 ≤ _), (by decide : 10 + 0 ≤ _)⟩)
      dsimp only [Pt.U, Pt.locs, Pt.cells, Pt.slots] at X892 l892 y892 z892 st892 hQ892
      subst l892 y892 z892
      obtain ⟨rfl, Nq892, eq892⟩ := hQ892
      have N892 := Fr.app N888 Nq892
      have pre893 : ∀ τ, Steps p.tables e below (T892.setTop (mkF m 199 #[.val (.int p1), .val (.int p2), .val (.int p3), .val (.int t2), .val (.int t1), .val (.int t0), .val (.int j0), .val (.int j1), .val (.int j2), .val (.double (FP.i2d j0)), .second, .val (.double (FP.i2d j1)), .second, .val (.double (FP.i2d j2)), .second, .val (.ref q), .val (.int (1 : Int32)), .val (.int (1 : Int32)), .val (.int (1 : Int32)), .unset] [(.double (FP.i2d j2))])) τ → Steps p.tables e below (s₁.setTop (entryFrame m #[(.int p1), (.int p2), (.int p3)] maxLocals)) τ := fun τ kt => pre891 τ ((st892).trans kt)
      have pre894 : ∀ τ, Steps p.tables e below (T892.setTop (mkF m 237 #[.val (.int p1), .val (.int p2), .val (.int p3), .val (.int t2), .val (.int t1), .val (.int t0), .val (.int j0), .val (.int j1), .val (.int j2), .val (.double (FP.i2d j0)), .second, .val (.double (FP.i2d j1)), .second, .val (.double (FP.i2d j2)), .second, .val (.ref q), .val (.int (1 : Int32)), .val (.int (1 : Int32)), .val (.int (1 : Int32)), .val (.int (1 : Int32))] [(.int (1 : Int32))])) τ → Steps p.tables e below (s₁.setTop (entryFrame m #[(.int p1), (.int p2), (.int p3)] maxLocals)) τ := fun τ kt => pre893 τ (by
        show Steps p.tables e below (T892.setTop (mkF m 199 #[.val (.int p1), .val (.int p2), .val (.int p3), .val (.int t2), .val (.int t1), .val (.int t0), .val (.int j0), .val (.int j1), .val (.int j2), .val (.double (FP.i2d j0)), .second, .val (.double (FP.i2d j1)), .second, .val (.double (FP.i2d j2)), .second, .val (.ref q), .val (.int (1 : Int32)), .val (.int (1 : Int32)), .val (.int (1 : Int32)), .unset] [(.double (FP.i2d j2))])) τ
        refine own_dload X892.here hx rfl (Jvm.hb hby at_199) rfl ?_
        show Steps p.tables e below (T892.setTop (mkF m 201 #[.val (.int p1), .val (.int p2), .val (.int p3), .val (.int t2), .val (.int t1), .val (.int t0), .val (.int j0), .val (.int j1), .val (.int j2), .val (.double (FP.i2d j0)), .second, .val (.double (FP.i2d j1)), .second, .val (.double (FP.i2d j2)), .second, .val (.ref q), .val (.int (1 : Int32)), .val (.int (1 : Int32)), .val (.int (1 : Int32)), .unset] [(.double (FP.i2d j2)), (.double (FP.i2d j2))])) τ
        refine own_dcmp X892.here hx rfl (Jvm.hb hby at_201) rfl ?_
        show Steps p.tables e below (T892.setTop (mkF m 202 #[.val (.int p1), .val (.int p2), .val (.int p3), .val (.int t2), .val (.int t1), .val (.int t0), .val (.int j0), .val (.int j1), .val (.int j2), .val (.double (FP.i2d j0)), .second, .val (.double (FP.i2d j1)), .second, .val (.double (FP.i2d j2)), .second, .val (.ref q), .val (.int (1 : Int32)), .val (.int (1 : Int32)), .val (.int (1 : Int32)), .unset] [(.int (cmpValue (FP.dcmp (FP.i2d j2) (FP.i2d j2)) .l))])) τ
        refine XS.ifNo X892.here hx rfl (Jvm.hb hby at_202) rfl ((if0 _ _).trans (teq (own_eq (by first | rfl | (simp only [own_max_int]; omega)) _)).2) ?_
        show Steps p.tables e below (T892.setTop (mkF m 205 #[.val (.int p1), .val (.int p2), .val (.int p3), .val (.int t2), .val (.int t1), .val (.int t0), .val (.int j0), .val (.int j1), .val (.int j2), .val (.double (FP.i2d j0)), .second, .val (.double (FP.i2d j1)), .second, .val (.double (FP.i2d j2)), .second, .val (.ref q), .val (.int (1 : Int32)), .val (.int (1 : Int32)), .val (.int (1 : Int32)), .unset] [])) τ
        refine XS.iconst X892.here hx rfl (Jvm.hb hby at_205) ?_
        show Steps p.tables e below (T892.setTop (mkF m 206 #[.val (.int p1), .val (.int p2), .val (.int p3), .val (.int t2), .val (.int t1), .val (.int t0), .val (.int j0), .val (.int j1), .val (.int j2), .val (.double (FP.i2d j0)), .second, .val (.double (FP.i2d j1)), .second, .val (.double (FP.i2d j2)), .second, .val (.ref q), .val (.int (1 : Int32)), .val (.int (1 : Int32)), .val (.int (1 : Int32)), .unset] [(.int (1 : Int32))])) τ
        refine XS.goto X892.here hx rfl (pc0 := 206) (pc' := 210) rfl (Jvm.hb hby at_206) (by decide) (by decide) ?_
        show Steps p.tables e below (T892.setTop (mkF m 210 #[.val (.int p1), .val (.int p2), .val (.int p3), .val (.int t2), .val (.int t1), .val (.int t0), .val (.int j0), .val (.int j1), .val (.int j2), .val (.double (FP.i2d j0)), .second, .val (.double (FP.i2d j1)), .second, .val (.double (FP.i2d j2)), .second, .val (.ref q), .val (.int (1 : Int32)), .val (.int (1 : Int32)), .val (.int (1 : Int32)), .unset] [(.int (1 : Int32))])) τ
        refine XS.istore X892.here hx rfl (Jvm.hb hby at_210) rfl (l' := #[.val (.int p1), .val (.int p2), .val (.int p3), .val (.int t2), .val (.int t1), .val (.int t0), .val (.int j0), .val (.int j1), .val (.int j2), .val (.double (FP.i2d j0)), .second, .val (.double (FP.i2d j1)), .second, .val (.double (FP.i2d j2)), .second, .val (.ref q), .val (.int (1 : Int32)), .val (.int (1 : Int32)), .val (.int (1 : Int32)), .val (.int (1 : Int32))]) rfl ?_
        show Steps p.tables e below (T892.setTop (mkF m 212 #[.val (.int p1), .val (.int p2), .val (.int p3), .val (.int t2), .val (.int t1), .val (.int t0), .val (.int j0), .val (.int j1), .val (.int j2), .val (.double (FP.i2d j0)), .second, .val (.double (FP.i2d j1)), .second, .val (.double (FP.i2d j2)), .second, .val (.ref q), .val (.int (1 : Int32)), .val (.int (1 : Int32)), .val (.int (1 : Int32)), .val (.int (1 : Int32))] [])) τ
        refine XS.iload X892.here hx rfl (Jvm.hb hby at_212) rfl ?_
        show Steps p.tables e below (T892.setTop (mkF m 214 #[.val (.int p1), .val (.int p2), .val (.int p3), .val (.int t2), .val (.int t1), .val (.int t0), .val (.int j0), .val (.int j1), .val (.int j2), .val (.double (FP.i2d j0)), .second, .val (.double (FP.i2d j1)), .second, .val (.double (FP.i2d j2)), .second, .val (.ref q), .val (.int (1 : Int32)), .val (.int (1 : Int32)), .val (.int (1 : Int32)), .val (.int (1 : Int32))] [(.int (1 : Int32))])) τ
        refine XS.ifNo X892.here hx rfl (Jvm.hb hby at_214) rfl ((if0 _ _).trans (feq (by decide)).1) ?_
        show Steps p.tables e below (T892.setTop (mkF m 217 #[.val (.int p1), .val (.int p2), .val (.int p3), .val (.int t2), .val (.int t1), .val (.int t0), .val (.int j0), .val (.int j1), .val (.int j2), .val (.double (FP.i2d j0)), .second, .val (.double (FP.i2d j1)), .second, .val (.double (FP.i2d j2)), .second, .val (.ref q), .val (.int (1 : Int32)), .val (.int (1 : Int32)), .val (.int (1 : Int32)), .val (.int (1 : Int32))] [])) τ
        refine XS.iload X892.here hx rfl (Jvm.hb hby at_217) rfl ?_
        show Steps p.tables e below (T892.setTop (mkF m 219 #[.val (.int p1), .val (.int p2), .val (.int p3), .val (.int t2), .val (.int t1), .val (.int t0), .val (.int j0), .val (.int j1), .val (.int j2), .val (.double (FP.i2d j0)), .second, .val (.double (FP.i2d j1)), .second, .val (.double (FP.i2d j2)), .second, .val (.ref q), .val (.int (1 : Int32)), .val (.int (1 : Int32)), .val (.int (1 : Int32)), .val (.int (1 : Int32))] [(.int (1 : Int32))])) τ
        refine XS.ifNo X892.here hx rfl (Jvm.hb hby at_219) rfl ((if0 _ _).trans (feq (by decide)).1) ?_
        show Steps p.tables e below (T892.setTop (mkF m 222 #[.val (.int p1), .val (.int p2), .val (.int p3), .val (.int t2), .val (.int t1), .val (.int t0), .val (.int j0), .val (.int j1), .val (.int j2), .val (.double (FP.i2d j0)), .second, .val (.double (FP.i2d j1)), .second, .val (.double (FP.i2d j2)), .second, .val (.ref q), .val (.int (1 : Int32)), .val (.int (1 : Int32)), .val (.int (1 : Int32)), .val (.int (1 : Int32))] [])) τ
        refine XS.iload X892.here hx rfl (Jvm.hb hby at_222) rfl ?_
        show Steps p.tables e below (T892.setTop (mkF m 224 #[.val (.int p1), .val (.int p2), .val (.int p3), .val (.int t2), .val (.int t1), .val (.int t0), .val (.int j0), .val (.int j1), .val (.int j2), .val (.double (FP.i2d j0)), .second, .val (.double (FP.i2d j1)), .second, .val (.double (FP.i2d j2)), .second, .val (.ref q), .val (.int (1 : Int32)), .val (.int (1 : Int32)), .val (.int (1 : Int32)), .val (.int (1 : Int32))] [(.int (1 : Int32))])) τ
        refine XS.ifNo X892.here hx rfl (Jvm.hb hby at_224) rfl ((if0 _ _).trans (feq (by decide)).1) ?_
        show Steps p.tables e below (T892.setTop (mkF m 227 #[.val (.int p1), .val (.int p2), .val (.int p3), .val (.int t2), .val (.int t1), .val (.int t0), .val (.int j0), .val (.int j1), .val (.int j2), .val (.double (FP.i2d j0)), .second, .val (.double (FP.i2d j1)), .second, .val (.double (FP.i2d j2)), .second, .val (.ref q), .val (.int (1 : Int32)), .val (.int (1 : Int32)), .val (.int (1 : Int32)), .val (.int (1 : Int32))] [])) τ
        refine XS.iload X892.here hx rfl (Jvm.hb hby at_227) rfl ?_
        show Steps p.tables e below (T892.setTop (mkF m 229 #[.val (.int p1), .val (.int p2), .val (.int p3), .val (.int t2), .val (.int t1), .val (.int t0), .val (.int j0), .val (.int j1), .val (.int j2), .val (.double (FP.i2d j0)), .second, .val (.double (FP.i2d j1)), .second, .val (.double (FP.i2d j2)), .second, .val (.ref q), .val (.int (1 : Int32)), .val (.int (1 : Int32)), .val (.int (1 : Int32)), .val (.int (1 : Int32))] [(.int (1 : Int32))])) τ
        refine XS.ifNo X892.here hx rfl (Jvm.hb hby at_229) rfl ((if0 _ _).trans (feq (by decide)).1) ?_
        show Steps p.tables e below (T892.setTop (mkF m 232 #[.val (.int p1), .val (.int p2), .val (.int p3), .val (.int t2), .val (.int t1), .val (.int t0), .val (.int j0), .val (.int j1), .val (.int j2), .val (.double (FP.i2d j0)), .second, .val (.double (FP.i2d j1)), .second, .val (.double (FP.i2d j2)), .second, .val (.ref q), .val (.int (1 : Int32)), .val (.int (1 : Int32)), .val (.int (1 : Int32)), .val (.int (1 : Int32))] [])) τ
        refine XS.iconst X892.here hx rfl (Jvm.hb hby at_232) ?_
        show Steps p.tables e below (T892.setTop (mkF m 233 #[.val (.int p1), .val (.int p2), .val (.int p3), .val (.int t2), .val (.int t1), .val (.int t0), .val (.int j0), .val (.int j1), .val (.int j2), .val (.double (FP.i2d j0)), .second, .val (.double (FP.i2d j1)), .second, .val (.double (FP.i2d j2)), .second, .val (.ref q), .val (.int (1 : Int32)), .val (.int (1 : Int32)), .val (.int (1 : Int32)), .val (.int (1 : Int32))] [(.int (1 : Int32))])) τ
        refine XS.goto X892.here hx rfl (pc0 := 233) (pc' := 237) rfl (Jvm.hb hby at_233) (by decide) (by decide) ?_
        exact kt)
      obtain ⟨fs, hrL, hrun, hended, hW, hsame⟩ := X892.leave (v := some (.int (1 : Int32))) (fun h => by rw [Bd.returns] at h; cases h)
      refine ⟨_, _, pre894 _ ?_, hrun, hended, _, _, rfl, ?_, ⟨_, rfl⟩, hW, hsame.mono (by decide) (by decide)⟩
      · show Steps p.tables e below (T892.setTop (mkF m 237 #[.val (.int p1), .val (.int p2), .val (.int p3), .val (.int t2), .val (.int t1), .val (.int t0), .val (.int j0), .val (.int j1), .val (.int j2), .val (.double (FP.i2d j0)), .second, .val (.double (FP.i2d j1)), .second, .val (.double (FP.i2d j2)), .second, .val (.ref q), .val (.int (1 : Int32)), .val (.int (1 : Int32)), .val (.int (1 : Int32)), .val (.int (1 : Int32))] [(.int (1 : Int32))])) _
        exact retN X892 hx (t := .boolean) Bd.returns (by simp) (Jvm.hb hby at_237) hrL
      · show Q0 n0 _ T892.heap _
        exact ⟨rfl, N892⟩
set_option maxRecDepth 65536 in
set_option maxHeartbeats 40000000 in
theorem comes_1 {Post : Tables → Env → Array Value → State → Outcome → State → Prop} (hpost : ∀ tb e args s v u, (limb_1_1.after args s (.returned v) u = true ∧ limb_1_2.after args s (.returned v) u = true ∧ True) → FrameEnd s (.returned v) u (Jvm.fieldLocs frame_1_writes args s ++ Jvm.arrayLocs frame_1_arrays args s ++ Jvm.staticLocs frame_1_statics s) 16 128 → Post tb e args s (.returned v) u) :
    ArmFor flags0 classFile x code maxLocals ret World_1 tables_1 room_1 Calls_1 rest_1 Pre_1 Post := by
  intro l hfl _ _ p e ha hc hk s m args below hf hA hF happ hP
  obtain ⟨hcalls, hrest, hpre⟩ := hP
  obtain ⟨-, -, -, hnamed, -, -, -, hat⟩ := (Spec.applies_iff hf).mp happ
  obtain ⟨hg, hn⟩ := and_e (Cond.before_iff.mp (show (Jvm.Cond.and given_1 narrow_1).before args s = true from hpre))
  obtain ⟨g1, g2⟩ := and_e hg
  obtain ⟨g3, g4⟩ := and_e g2
  obtain ⟨g5, g6⟩ := and_e g4
  obtain ⟨w0, w1, w2, rfl⟩ : ∃ w0 w1 w2 : Value, args = #[w0, w1, w2] := by
    have hs : args.size = 3 := by simpa [Cond.value, given_1] using g1
    obtain ⟨L⟩ := args
    match L, hs with
    | [w0, w1, w2], _ => exact ⟨w0, w1, w2, rfl⟩
  have hw := fun d (hd : d ∈ tables_1) => atoms_spec (ws := Jvm.Cond.code x code maxLocals ret :: tables_1) hat d (List.mem_cons_of_mem _ hd)
  obtain ⟨i0, ei0⟩ := is_v g3
  obtain rfl : w0 = (.int i0) := Option.some.inj ei0
  obtain ⟨i1, ei1⟩ := is_v g5
  obtain rfl : w1 = (.int i1) := Option.some.inj ei1
  obtain ⟨i2, ei2⟩ := is_v g6
  obtain rfl : w2 = (.int i2) := Option.some.inj ei2
  obtain ⟨n, o, h1, h2, h3, _, L, rfl, ⟨rfl, N⟩, hq⟩ := rm0 l s _ hw tables_1 i0 i1 i2 s.heap s.heap.size (Nat.le_refl _) p e ha hc hk s m _ below hf ((Spec.applies_iff_loose hf).mp happ).1 ⟨rfl, State.Warmed39.refl s, rfl⟩ trivial
  refine ⟨n, _, h1, h2, h3, hpost _ _ _ _ _ _ ⟨Cond.after_iff.mpr rfl, Cond.after_iff.mpr (eq_i res_at (Term.int_eval (1)) rfl), trivial⟩ ⟨hq.1, hq.2.1, (hq.2.2.sift fun y hy => Or.inr (N y hy)).mono (by decide) (by decide)⟩⟩
theorem main_1_1 : Claimed_1_1 := comes_1 fun _ _ _ _ _ _ h hF => ⟨h.1, hF⟩
theorem main_1_2 : Claimed_1_2 := comes_1 fun _ _ _ _ _ _ h hF => ⟨h.2.1, hF⟩
end Jvm.Pilot.@@N@@
namespace Jvm.Pilot.@@N@@
open Jvm Jvm.ClassFile Sem Op Lib Jvm.Free Jvm.Stand Jvm.Pilot.@@N@@.Jvm.D
/-! MADE BY PROGRAM (witnessworld.py) out of the Statement's table words and the real class files: 12 classes; the members and pool entries that the words name. The judged class is class 1, her method 1. -/
namespace start1
open Jvm.ClassFile
def u (s : String) : CpInfo := .utf8 (stringToUtf16 s)
/-- a pool by its gaps: so many unusable entries, then the entry; so many at the end -/
def gap : Nat → List CpInfo → List CpInfo
  | 0, r => r
  | n + 1, r => .unusable :: gap n r
def poolList (es : List (Nat × CpInfo)) (last : Nat) : List CpInfo := es.foldr (fun e r => gap e.1 (e.2 :: r)) (gap last [])
def pool (es : List (Nat × CpInfo)) (last : Nat) : Array CpInfo := ⟨poolList es last⟩
def fileOf (pool : Array CpInfo) (this : Nat) (attrs : Array Attribute := #[]) (ms : Array MethodInfo := #[]) (fl : Nat := 33) (sup : Nat := 0) (ifs : Array Nat := #[]) (fds : Array FieldInfo := #[]) : ClassFile where
  minorVersion := 0
  majorVersion := 65
  constantPool := pool
  accessFlags := fl
  thisClass := this
  superClass := sup
  interfaces := ifs
  fields := fds
  methods := ms
  attributes := attrs
def plain (name : String) (sup : Option ClassId) : Class where
  name := name
  kind := .ordinary
  loader := none
  accessFlags := 33
  super := sup
  interfaces := #[]
  cf := none
  fields := #[]
  methods := #[]
  instanceTypes := #[]
  staticTypes := #[]
  resolved := #[]
  callSites := []
  init := .initialized
  statics := none
  mirror := none

def pool0 : Array CpInfo := pool [(5, u "<init>"), (0, u "()V"), (1, .class_ 10), (1, u "java/lang/Object")] 113

def k0c0 : Code := { maxStack := 0, maxLocals := 1, code := object_method_1_code, exceptionTable := #[], attributes := #[] }
def k0m0 : Method := { name := "<init>", desc := "()V", sig := { parameters := [], returnType := none }, accessFlags := 1, code := some k0c0 }
/-- java/lang/Object -/
def k0 : Class := { plain "java/lang/Object" none with
  accessFlags := 33
  interfaces := #[]
  cf := some (fileOf pool0 8 #[] #[{ accessFlags := 1, nameIndex := 5, descriptorIndex := 6, attributes := #[] }] 33 0 #[] #[])
  fields := #[]
  methods := #[k0m0]
  instanceTypes := #[]
  staticTypes := #[]
  resolved := Array.replicate 124 none
  statics := none }

def pool1 : Array CpInfo := pool [(2, .class_ 4), (1, u "java/lang/Object"), (0, u "<init>"), (0, u "()V"), (0, .class_ 8), (0, u "com/example/counterpath/counterpath/core/CappedMaximum"), (0, .methodref 7 10), (0, .nameAndType 5 11), (0, u "(I)V"), (0, .methodref 7 13), (0, .nameAndType 14 15), (0, u "addFirst"), (0, u "(ID)V"), (0, .methodref 7 17), (0, .nameAndType 18 19), (0, u "maximum"), (0, u "()D"), (0, .methodref 21 22), (0, .class_ 23), (0, .nameAndType 24 25), (0, u "java/lang/Math"), (0, u "max"), (0, u "(II)I"), (0, .methodref 7 27), (0, .nameAndType 28 11), (0, u "removeAfter"), (0, .class_ 30), (0, u "com/example/counterpath/counterpath/core/CappedMaximumAddFirstPinLaw"), (2, u "law"), (0, u "(III)Z")] 3

def k1m0 : Method := { name := "<init>", desc := "()V", sig := { parameters := [], returnType := none }, accessFlags := 1, code := none }
def k1c1 : Code := { maxStack := 5, maxLocals := 20, code := code, exceptionTable := #[], attributes := #[] }
def k1m1 : Method := { name := "law", desc := "(III)Z", sig := { parameters := [.int, .int, .int], returnType := some .boolean }, accessFlags := 9, code := some k1c1 }
/-- com/example/counterpath/counterpath/core/CappedMaximumAddFirstPinLaw -/
def k1 : Class := { plain "com/example/counterpath/counterpath/core/CappedMaximumAddFirstPinLaw" (some 0) with
  accessFlags := 49
  interfaces := #[]
  cf := some (fileOf pool1 29 #[] #[{ accessFlags := 1, nameIndex := 5, descriptorIndex := 6, attributes := #[] }, { accessFlags := 9, nameIndex := 33, descriptorIndex := 34, attributes := #[] }] 49 2 #[] #[])
  fields := #[]
  methods := #[k1m0, k1m1]
  instanceTypes := #[]
  staticTypes := #[]
  resolved := Array.replicate 38 none
  statics := none }

def pool2 : Array CpInfo := pool [(1, .methodref 2 3), (0, .class_ 4), (0, .nameAndType 5 6), (0, u "java/lang/Object"), (0, u "<init>"), (0, u "()V"), (0, .fieldref 8 9), (0, .class_ 10), (0, .nameAndType 11 12), (0, u "com/example/counterpath/counterpath/core/CappedMaximum"), (0, u "samples"), (0, u "[I"), (0, .fieldref 8 14), (0, .nameAndType 15 16), (0, u "values"), (0, u "[D"), (0, .fieldref 8 18), (0, .nameAndType 19 20), (0, u "head"), (0, u "I"), (0, .fieldref 8 22), (0, .nameAndType 23 20), (0, u "tail"), (2, .double 18442240474082181120), (1, u "(I)V"), (2, u "addFirst"), (0, u "(ID)V"), (3, u "removeAfter"), (0, u "maximum"), (0, u "()D")] 2

def k2c0 : Code := { maxStack := 2, maxLocals := 2, code := prog_3_method_1_code, exceptionTable := #[], attributes := #[] }
def k2m0 : Method := { name := "<init>", desc := "(I)V", sig := { parameters := [.int], returnType := none }, accessFlags := 0, code := some k2c0 }
def k2c1 : Code := { maxStack := 4, maxLocals := 4, code := prog_3_method_2_code, exceptionTable := #[], attributes := #[] }
def k2m1 : Method := { name := "addFirst", desc := "(ID)V", sig := { parameters := [.int, .double], returnType := none }, accessFlags := 0, code := some k2c1 }
def k2c2 : Code := { maxStack := 3, maxLocals := 2, code := prog_3_method_4_code, exceptionTable := #[], attributes := #[] }
def k2m2 : Method := { name := "removeAfter", desc := "(I)V", sig := { parameters := [.int], returnType := none }, accessFlags := 0, code := some k2c2 }
def k2c3 : Code := { maxStack := 3, maxLocals := 1, code := prog_3_method_5_code, exceptionTable := #[], attributes := #[] }
def k2m3 : Method := { name := "maximum", desc := "()D", sig := { parameters := [], returnType := some .double }, accessFlags := 0, code := some k2c3 }
/-- com/example/counterpath/counterpath/core/CappedMaximum -/
def k2 : Class := { plain "com/example/counterpath/counterpath/core/CappedMaximum" (some 0) with
  accessFlags := 48
  interfaces := #[]
  cf := some (fileOf pool2 8 #[] #[{ accessFlags := 0, nameIndex := 5, descriptorIndex := 28, attributes := #[] }, { accessFlags := 0, nameIndex := 31, descriptorIndex := 32, attributes := #[] }, { accessFlags := 0, nameIndex := 36, descriptorIndex := 28, attributes := #[] }, { accessFlags := 0, nameIndex := 37, descriptorIndex := 38, attributes := #[] }] 48 2 #[] #[{ accessFlags := 18, nameIndex := 11, descriptorIndex := 12, attributes := #[] }, { accessFlags := 18, nameIndex := 15, descriptorIndex := 16, attributes := #[] }, { accessFlags := 2, nameIndex := 19, descriptorIndex := 20, attributes := #[] }, { accessFlags := 2, nameIndex := 23, descriptorIndex := 20, attributes := #[] }])
  fields := #[{ name := "samples", type := (.array .int), accessFlags := 18, slot := 0, constantValue := 0 }, { name := "values", type := (.array .double), accessFlags := 18, slot := 1, constantValue := 0 }, { name := "head", type := .int, accessFlags := 2, slot := 2, constantValue := 0 }, { name := "tail", type := .int, accessFlags := 2, slot := 3, constantValue := 0 }]
  methods := #[k2m0, k2m1, k2m2, k2m3]
  instanceTypes := #[(.array .int), (.array .double), .int, .int]
  staticTypes := #[]
  resolved := Array.replicate 41 none
  statics := none }

def pool3 : Array CpInfo := pool [(1, .class_ 2), (0, u "java/lang/Math"), (1, .class_ 6), (1, u "java/lang/Object"), (0, u "<init>"), (0, u "()V"), (89, .class_ 100), (1, u "java/lang/Math$RandomNumberGeneratorHolder"), (71, u "negativeZeroFloatBits"), (0, u "J"), (2, u "negativeZeroDoubleBits"), (21, u "max"), (46, u "$assertionsDisabled"), (0, u "Z"), (88, u "(II)I"), (2, u "twoToTheDoubleScaleDown"), (0, u "D"), (4, u "twoToTheDoubleScaleUp"), (9, u "E"), (3, u "PI"), (2, u "TAU"), (2, u "DEGREES_TO_RADIANS"), (0, u "RADIANS_TO_DEGREES")] 94

def k3m0 : Method := { name := "<init>", desc := "()V", sig := { parameters := [], returnType := none }, accessFlags := 2, code := none }
def k3c1 : Code := { maxStack := 2, maxLocals := 2, code := jdk_29_method_65_code, exceptionTable := #[], attributes := #[] }
def k3m1 : Method := { name := "max", desc := "(II)I", sig := { parameters := [.int, .int], returnType := some .int }, accessFlags := 9, code := some k3c1 }
/-- java/lang/Math -/
def k3 : Class := { plain "java/lang/Math" (some 0) with
  accessFlags := 49
  interfaces := #[]
  cf := some (fileOf pool3 1 #[.nestMembers #[98]] #[{ accessFlags := 2, nameIndex := 7, descriptorIndex := 8, attributes := #[] }, { accessFlags := 9, nameIndex := 198, descriptorIndex := 335, attributes := #[] }] 49 4 #[] #[{ accessFlags := 25, nameIndex := 354, descriptorIndex := 339, attributes := #[] }, { accessFlags := 25, nameIndex := 358, descriptorIndex := 339, attributes := #[] }, { accessFlags := 25, nameIndex := 361, descriptorIndex := 339, attributes := #[] }, { accessFlags := 26, nameIndex := 364, descriptorIndex := 339, attributes := #[] }, { accessFlags := 26, nameIndex := 365, descriptorIndex := 339, attributes := #[] }, { accessFlags := 26, nameIndex := 172, descriptorIndex := 173, attributes := #[] }, { accessFlags := 26, nameIndex := 176, descriptorIndex := 173, attributes := #[] }, { accessFlags := 8, nameIndex := 344, descriptorIndex := 339, attributes := #[] }, { accessFlags := 8, nameIndex := 338, descriptorIndex := 339, attributes := #[] }, { accessFlags := 4120, nameIndex := 245, descriptorIndex := 246, attributes := #[] }])
  fields := #[{ name := "E", type := .double, accessFlags := 25, slot := 0, constantValue := 0 }, { name := "PI", type := .double, accessFlags := 25, slot := 1, constantValue := 0 }, { name := "TAU", type := .double, accessFlags := 25, slot := 2, constantValue := 0 }, { name := "DEGREES_TO_RADIANS", type := .double, accessFlags := 26, slot := 3, constantValue := 0 }, { name := "RADIANS_TO_DEGREES", type := .double, accessFlags := 26, slot := 4, constantValue := 0 }, { name := "negativeZeroFloatBits", type := .long, accessFlags := 26, slot := 5, constantValue := 0 }, { name := "negativeZeroDoubleBits", type := .long, accessFlags := 26, slot := 6, constantValue := 0 }, { name := "twoToTheDoubleScaleUp", type := .double, accessFlags := 8, slot := 7, constantValue := 0 }, { name := "twoToTheDoubleScaleDown", type := .double, accessFlags := 8, slot := 8, constantValue := 0 }, { name := "$assertionsDisabled", type := .boolean, accessFlags := 4120, slot := 9, constantValue := 0 }]
  methods := #[k3m0, k3m1]
  instanceTypes := #[]
  staticTypes := #[.double, .double, .double, .double, .double, .long, .long, .double, .double, .boolean]
  resolved := Array.replicate 460 none
  statics := none }

def pool4 : Array CpInfo := pool [(1, u "java/lang/Cloneable"), (0, .class_ 1), (0, u "java/lang/Object"), (0, .class_ 3)] 3

/-- java/lang/Cloneable -/
def k4 : Class := { plain "java/lang/Cloneable" (some 0) with
  accessFlags := 1537
  interfaces := #[]
  cf := some (fileOf pool4 2 #[] #[] 1537 4 #[] #[])
  fields := #[]
  methods := #[]
  instanceTypes := #[]
  staticTypes := #[]
  resolved := Array.replicate 8 none
  statics := none }

def pool5 : Array CpInfo := pool [(1, u "java/io/Serializable"), (0, .class_ 1), (0, u "java/lang/Object"), (0, .class_ 3)] 3

/-- java/io/Serializable -/
def k5 : Class := { plain "java/io/Serializable" (some 0) with
  accessFlags := 1537
  interfaces := #[]
  cf := some (fileOf pool5 2 #[] #[] 1537 4 #[] #[])
  fields := #[]
  methods := #[]
  instanceTypes := #[]
  staticTypes := #[]
  resolved := Array.replicate 8 none
  statics := none }

/-- the primitive byte -/
def k6 : Class := { plain "byte" none with kind := .primitive 'B', accessFlags := 0x411 }
/-- [B -/
def k7 : Class := { plain "[B" (some 0) with kind := .array 6 .byte, interfaces := #[4, 5], accessFlags := 1041 }

/-- the primitive double -/
def k8 : Class := { plain "double" none with kind := .primitive 'D', accessFlags := 0x411 }
/-- [D -/
def k9 : Class := { plain "[D" (some 0) with kind := .array 8 .double, interfaces := #[4, 5], accessFlags := 1041 }

/-- the primitive int -/
def k10 : Class := { plain "int" none with kind := .primitive 'I', accessFlags := 0x411 }
/-- [I -/
def k11 : Class := { plain "[I" (some 0) with kind := .array 10 .int, interfaces := #[4, 5], accessFlags := 1041 }

def heap : Heap := #[]
def classes : Array Class := #[k0, k1, k2, k3, k4, k5, k6, k7, k8, k9, k10, k11]
def interned : List (Array UInt16 × Addr) := []
def slotsUsed : Nat := 0
def theMethod : MethodId := ⟨1, 1⟩
def args0 : Array Value := #[.int 5, .int 7, .int 9]
def aboutOver (below : List Frame) : State where
  vm := { classes := classes, interned := interned.toArray }
  heap := heap
  slotsUsed := slotsUsed
  threads := #[{ frames := .invoking theMethod args0 :: below }]
def below0 : List Frame := [.native { method := ⟨0, 0⟩, args := #[] }]
def about1 : State := aboutOver below0
def p0 : Program := .bare "" "" ""
def e0 : Env := launch0.env 0 0 0
theorem w_frames : about1.frames = Frame.invoking theMethod args0 :: below0 := rfl
set_option maxRecDepth 65536 in
theorem w_args : argsFit about1.vm theMethod args0 = true := by decide +kernel
set_option maxRecDepth 65536 in
theorem w_heap : heapFits about1 = true := by decide +kernel
set_option maxRecDepth 65536 in
theorem w_runnable : about1.curStatus? = some .runnable := by decide +kernel
set_option maxRecDepth 65536 in
theorem w_alone : about1.alone = true := by decide +kernel
set_option maxRecDepth 65536 in
theorem w_named : about1.methodNamed? x = some theMethod := by decide +kernel
set_option maxRecDepth 65536 in
theorem w_hears : about1.hears theMethod below0 = true := by decide +kernel
set_option maxRecDepth 65536 in
theorem w_ripe : about1.ripe theMethod args0 below0 = true := by decide +kernel
theorem w_running : about1.status = .running := rfl
set_option maxRecDepth 65536 in
theorem w_room : about1.hasRoom e0.platform room_1 = true :=
  launch0.hasRoom_least _ room_1 (by decide +kernel) (by decide +kernel) (by decide +kernel) (by decide +kernel) (by decide +kernel) (by decide +kernel)
theorem allAtoms_all (ts : List Jvm.Cond) (a : Array Jvm.Value) (st : Jvm.State) : (allAtoms ts).before a st = ts.all (fun c => c.before a st) := by
  induction ts with
  | nil => rfl
  | cons c t ih =>
    show (Jvm.Cond.and c (allAtoms t)).before a st = _
    rw [Jvm.Cond.before_and, ih, List.all_cons]
def words1 : List Jvm.Cond := Jvm.Cond.code x code maxLocals ret :: tables_1
/-- a 'code' word, met by the world's own term for the bytes: nothing is compared byte by byte -/
theorem code_word {y : MethodName} {bytes : ByteArray} {mx : Nat} {rt : Option FieldType} {a : Array Value} {s : State} {m : MethodId} {meth : Method} {c : Code} (h1 : s.methodNamed? y = some m) (h2 : s.vm.method? m = some meth) (h3 : meth.code = some c) (h4 : c.code = bytes)
    (h5 : (c.maxLocals == mx && c.exceptionTable.isEmpty && decide (c.maxStack ≤ mostOperands) && decide (meth.sig.returnType = rt) && !meth.locks && decide (parseMethodDescriptor y.desc = some meth.sig)) = true) : (Jvm.Cond.code y bytes mx rt).before a s = true := by
  simp only [Bool.and_eq_true, beq_iff_eq, Bool.not_eq_true', decide_eq_true_eq] at h5
  obtain ⟨⟨⟨⟨⟨g1, g2⟩, g3⟩, g4⟩, g5⟩, g6⟩ := h5
  simp [Cond.before, Cond.holds, Cond.value, h1, h2, h3, h4, g1, g2, g3, g4, g5, g6]
def isCode : Jvm.Cond → Bool
  | .code _ _ _ _ => true
  | _ => false
theorem all_split {L : List Jvm.Cond} {P : Jvm.Cond → Bool} (h1 : L.all (fun c => isCode c || P c) = true) (h2 : ∀ c ∈ L.filter isCode, P c = true) : L.all P = true := by
  refine List.all_eq_true.mpr fun c hc => ?_
  have h := List.all_eq_true.mp h1 c hc
  rcases Bool.eq_false_or_eq_true (isCode c) with hi | hi
  · exact h2 c (List.mem_filter.mpr ⟨hc, hi⟩)
  · simpa [hi] using h
set_option maxRecDepth 65536 in
theorem w_c0 : (Jvm.Cond.code x code maxLocals ret).before args0 about1 = true := code_word (m := ⟨1, 1⟩) (meth := k1m1) (c := k1c1) (by decide +kernel) rfl rfl rfl (by decide +kernel)
set_option maxRecDepth 65536 in
theorem w_c1 : (Jvm.Cond.code ({ cls := "com/example/counterpath/counterpath/core/CappedMaximum", name := "<init>", desc := "(I)V" } : Jvm.MethodName) prog_3_method_1_code (2 : Nat) (Option.none : Option Jvm.ClassFile.FieldType)).before args0 about1 = true := code_word (m := ⟨2, 0⟩) (meth := k2m0) (c := k2c0) (by decide +kernel) rfl rfl rfl (by decide +kernel)
set_option maxRecDepth 65536 in
theorem w_c2 : (Jvm.Cond.code ({ cls := "java/lang/Object", name := "<init>", desc := "()V" } : Jvm.MethodName) object_method_1_code (1 : Nat) (Option.none : Option Jvm.ClassFile.FieldType)).before args0 about1 = true := code_word (m := ⟨0, 0⟩) (meth := k0m0) (c := k0c0) (by decide +kernel) rfl rfl rfl (by decide +kernel)
set_option maxRecDepth 65536 in
theorem w_c3 : (Jvm.Cond.code ({ cls := "com/example/counterpath/counterpath/core/CappedMaximum", name := "addFirst", desc := "(ID)V" } : Jvm.MethodName) prog_3_method_2_code (4 : Nat) (Option.none : Option Jvm.ClassFile.FieldType)).before args0 about1 = true := code_word (m := ⟨2, 1⟩) (meth := k2m1) (c := k2c1) (by decide +kernel) rfl rfl rfl (by decide +kernel)
set_option maxRecDepth 65536 in
theorem w_c4 : (Jvm.Cond.code ({ cls := "com/example/counterpath/counterpath/core/CappedMaximum", name := "maximum", desc := "()D" } : Jvm.MethodName) prog_3_method_5_code (1 : Nat) (Option.some Jvm.ClassFile.FieldType.double)).before args0 about1 = true := code_word (m := ⟨2, 3⟩) (meth := k2m3) (c := k2c3) (by decide +kernel) rfl rfl rfl (by decide +kernel)
set_option maxRecDepth 65536 in
theorem w_c5 : (Jvm.Cond.code ({ cls := "java/lang/Math", name := "max", desc := "(II)I" } : Jvm.MethodName) jdk_29_method_65_code (2 : Nat) (Option.some Jvm.ClassFile.FieldType.int)).before args0 about1 = true := code_word (m := ⟨3, 1⟩) (meth := k3m1) (c := k3c1) (by decide +kernel) rfl rfl rfl (by decide +kernel)
set_option maxRecDepth 65536 in
theorem w_c6 : (Jvm.Cond.code ({ cls := "com/example/counterpath/counterpath/core/CappedMaximum", name := "removeAfter", desc := "(I)V" } : Jvm.MethodName) prog_3_method_4_code (2 : Nat) (Option.none : Option Jvm.ClassFile.FieldType)).before args0 about1 = true := code_word (m := ⟨2, 2⟩) (meth := k2m2) (c := k2c2) (by decide +kernel) rfl rfl rfl (by decide +kernel)
def codes1 : List Jvm.Cond := [Jvm.Cond.code x code maxLocals ret, Jvm.Cond.code ({ cls := "com/example/counterpath/counterpath/core/CappedMaximum", name := "<init>", desc := "(I)V" } : Jvm.MethodName) prog_3_method_1_code (2 : Nat) (Option.none : Option Jvm.ClassFile.FieldType), Jvm.Cond.code ({ cls := "java/lang/Object", name := "<init>", desc := "()V" } : Jvm.MethodName) object_method_1_code (1 : Nat) (Option.none : Option Jvm.ClassFile.FieldType), Jvm.Cond.code ({ cls := "com/example/counterpath/counterpath/core/CappedMaximum", name := "addFirst", desc := "(ID)V" } : Jvm.MethodName) prog_3_method_2_code (4 : Nat) (Option.none : Option Jvm.ClassFile.FieldType), Jvm.Cond.code ({ cls := "com/example/counterpath/counterpath/core/CappedMaximum", name := "maximum", desc := "()D" } : Jvm.MethodName) prog_3_method_5_code (1 : Nat) (Option.some Jvm.ClassFile.FieldType.double), Jvm.Cond.code ({ cls := "java/lang/Math", name := "max", desc := "(II)I" } : Jvm.MethodName) jdk_29_method_65_code (2 : Nat) (Option.some Jvm.ClassFile.FieldType.int), Jvm.Cond.code ({ cls := "com/example/counterpath/counterpath/core/CappedMaximum", name := "removeAfter", desc := "(I)V" } : Jvm.MethodName) prog_3_method_4_code (2 : Nat) (Option.none : Option Jvm.ClassFile.FieldType)]
set_option maxRecDepth 65536 in
theorem codes_eq : words1.filter isCode = codes1 := rfl
theorem w_codes : ∀ c ∈ words1.filter isCode, c.before args0 about1 = true := by
  rw [codes_eq]
  intro c hc
  simp only [codes1, List.mem_cons, List.not_mem_nil, or_false] at hc
  rcases hc with rfl | rfl | rfl | rfl | rfl | rfl | rfl
  · exact w_c0
  · exact w_c1
  · exact w_c2
  · exact w_c3
  · exact w_c4
  · exact w_c5
  · exact w_c6
set_option maxRecDepth 65536 in
theorem w_t1 : (words1.take 24).all (fun c => isCode c || c.before args0 about1) = true := by decide +kernel
set_option maxRecDepth 65536 in
theorem w_t2 : (words1.drop 24).all (fun c => isCode c || c.before args0 about1) = true := by decide +kernel
theorem w_tables : (allAtoms (Jvm.Cond.code x code maxLocals ret :: tables_1)).before args0 about1 = true := by
  rw [allAtoms_all]
  show words1.all (fun c => c.before args0 about1) = true
  refine all_split ?_ w_codes
  rw [← List.take_append_drop 24 words1, List.all_append, w_t1, w_t2]
  rfl
set_option maxRecDepth 65536 in
theorem w_case : (Jvm.Cond.and given_1 narrow_1).before args0 about1 = true := by decide +kernel
theorem w_applies : (headSpec (Jvm.Cond.code x code maxLocals ret :: tables_1) room_1).applies x e0.platform about1 = true :=
  (Spec.applies_iff w_frames).mpr ⟨w_running, w_runnable, w_alone, w_named, w_hears, w_ripe, w_room, w_tables⟩
theorem atStart : AtStart classFile x code maxLocals ret World_1 tables_1 room_1 Calls_1 rest_1 Pre_1 launch0 p0 e0 about1 theMethod args0 below0 :=
  ⟨lists_1, trivial, launch0.admits_env _ _ _, launch0.least_env, fairChoices_fair.cas, fairChoices_fair.clock, w_frames, w_args, w_heap, w_applies, trivial, trivial, w_case⟩
end start1
theorem witness_1 : WitnessClaimed_1 := ⟨start1.p0, start1.e0, start1.about1, start1.theMethod, start1.args0, start1.below0, start1.atStart⟩
end Jvm.Pilot.@@N@@
