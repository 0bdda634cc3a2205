import JvmDerived
import JvmDerived.Pilot.@@N@@Statement
import JvmDerived.Pilot.@@N@@Code
set_option linter.unusedVariables false
set_option linter.unusedSimpArgs false
namespace Jvm.RoadKit
open Sem ClassFile Op Lib Jvm.Stand Jvm.Free Jvm.LawKit
section New
variable {p : Program} {l : Launch} {e : Env} {R : Room} {s : State} {m : MethodId} {args : Array Value} {below : List Frame} {meth : Method} {c : Code} {T : State} {locs : List Loc} {cells slots : Nat}
theorem retI (X : Stand p l e R s m args below meth c T locs cells slots) (hx : p.tables.exec = Jvm.exec) {pc : Nat} {Ls : Array Slot} {z : Int32} {rest : List Value} (hret : meth.sig.returnType = some .int) (hd : decode c.code pc = .ok (.ireturn, 1)) {fs : List Frame}
    (hl : ∀ (f : JFrame) (acts : List Action), f.method = m → f.locked = none → f.entered = [] → (doReturn e (T.setTop f) acts (some (.int z))).1 = T.setFrames fs) : Steps p.tables e below (T.setTop (mkF m pc Ls (.int z :: rest))) (T.setFrames fs) :=
  retOut X hx hret rfl (Or.inl ⟨rfl, Or.inl rfl, z, rfl⟩) hd hl
end New
end Jvm.RoadKit
namespace Jvm.Pilot.@@N@@
open Jvm Jvm.ClassFile Sem Op Lib Jvm.Free Jvm.Stand Jvm.LawKit Jvm.RoadKit Bundle Jvm.Pilot.@@N@@.Jvm.D
theorem own_dloadN {tb : Tables} [Ours tb] {e : Env} {below : List Frame} {T target : State} {m : MethodId} {c : Code} {g : JFrame} (h : At T m c below) (hx : tb.exec = Jvm.exec) (hg : g.method = m) {k : Fin 4} {v : UInt64} (hd : decode c.code g.pc = .ok (.dload_n k, 1)) (hl : g.locals[k.val]? = some (.val (.double v)))
    (hr : Steps tb e below (T.setTop { g with pc := g.pc + 1, stack := .double v :: g.stack }) target) : Steps tb e below (T.setTop g) target := by
  subst hg
  jvm_step h [h.top, hx, hd, hl]
  exact hr
theorem own_dload {tb : Tables} [Ours tb] {e : Env} {below : List Frame} {T target : State} {m : MethodId} {c : Code} {g : JFrame} (h : At T m c below) (hx : tb.exec = Jvm.exec) (hg : g.method = m) {k : Nat} {v : UInt64} (hd : decode c.code g.pc = .ok (.dload k, 2)) (hl : g.locals[k]? = some (.val (.double v)))
    (hr : Steps tb e below (T.setTop { g with pc := g.pc + 2, stack := .double v :: g.stack }) target) : Steps tb e below (T.setTop g) target := by
  subst hg
  jvm_step h [h.top, hx, hd, hl]
  exact hr
theorem own_dstoreN {tb : Tables} [Ours tb] {e : Env} {below : List Frame} {T target : State} {m : MethodId} {c : Code} {g : JFrame} (h : At T m c below) (hx : tb.exec = Jvm.exec) (hg : g.method = m) {k : Fin 4} {x : UInt64} {rest : List Value} {l' : Array Slot} (hd : decode c.code g.pc = .ok (.dstore_n k, 1)) (hs : g.stack = .double x :: rest) (hl : storeLocals g.locals k.val (.double x) = some l')
    (hr : Steps tb e below (T.setTop { g with pc := g.pc + 1, stack := rest, locals := l' }) target) : Steps tb e below (T.setTop g) target := by
  subst hg
  jvm_step h [h.top, hx, hd, hs, hl]
  exact hr
theorem own_dstore {tb : Tables} [Ours tb] {e : Env} {below : List Frame} {T target : State} {m : MethodId} {c : Code} {g : JFrame} (h : At T m c below) (hx : tb.exec = Jvm.exec) (hg : g.method = m) {k : Nat} {x : UInt64} {rest : List Value} {l' : Array Slot} (hd : decode c.code g.pc = .ok (.dstore k, 2)) (hs : g.stack = .double x :: rest) (hl : storeLocals g.locals k (.double x) = some l')
    (hr : Steps tb e below (T.setTop { g with pc := g.pc + 2, stack := rest, locals := l' }) target) : Steps tb e below (T.setTop g) target := by
  subst hg
  jvm_step h [h.top, hx, hd, hs, hl]
  exact hr
theorem own_dconst0 {tb : Tables} [Ours tb] {e : Env} {below : List Frame} {T target : State} {m : MethodId} {c : Code} {g : JFrame} (h : At T m c below) (hx : tb.exec = Jvm.exec) (hg : g.method = m) (hd : decode c.code g.pc = .ok (.dconst 0, 1))
    (hr : Steps tb e below (T.setTop { g with pc := g.pc + 1, stack := .double FP.dconst0 :: g.stack }) target) : Steps tb e below (T.setTop g) target := by
  subst hg
  jvm_step h [h.top, hx, hd]
  exact hr
theorem own_dconst1 {tb : Tables} [Ours tb] {e : Env} {below : List Frame} {T target : State} {m : MethodId} {c : Code} {g : JFrame} (h : At T m c below) (hx : tb.exec = Jvm.exec) (hg : g.method = m) (hd : decode c.code g.pc = .ok (.dconst 1, 1))
    (hr : Steps tb e below (T.setTop { g with pc := g.pc + 1, stack := .double FP.dconst1 :: g.stack }) target) : Steps tb e below (T.setTop g) target := by
  subst hg
  jvm_step h [h.top, hx, hd]
  exact hr
theorem own_i2d {tb : Tables} [Ours tb] {e : Env} {below : List Frame} {T target : State} {m : MethodId} {c : Code} {g : JFrame} (h : At T m c below) (hx : tb.exec = Jvm.exec) (hg : g.method = m) {x : Int32} {rest : List Value} (hd : decode c.code g.pc = .ok (.i2d, 1)) (hs : g.stack = .int x :: rest)
    (hr : Steps tb e below (T.setTop { g with pc := g.pc + 1, stack := .double (FP.i2d x) :: rest }) target) : Steps tb e below (T.setTop g) target := by
  subst hg
  jvm_step h [h.top, hx, hd, hs]
  exact hr
theorem own_l2d {tb : Tables} [Ours tb] {e : Env} {below : List Frame} {T target : State} {m : MethodId} {c : Code} {g : JFrame} (h : At T m c below) (hx : tb.exec = Jvm.exec) (hg : g.method = m) {x : Int64} {rest : List Value} (hd : decode c.code g.pc = .ok (.l2d, 1)) (hs : g.stack = .long x :: rest)
    (hr : Steps tb e below (T.setTop { g with pc := g.pc + 1, stack := .double (FP.l2d x) :: rest }) target) : Steps tb e below (T.setTop g) target := by
  subst hg
  jvm_step h [h.top, hx, hd, hs]
  exact hr
theorem own_d2l {tb : Tables} [Ours tb] {e : Env} {below : List Frame} {T target : State} {m : MethodId} {c : Code} {g : JFrame} (h : At T m c below) (hx : tb.exec = Jvm.exec) (hg : g.method = m) {x : UInt64} {rest : List Value} (hd : decode c.code g.pc = .ok (.d2l, 1)) (hs : g.stack = .double x :: rest)
    (hr : Steps tb e below (T.setTop { g with pc := g.pc + 1, stack := .long (FP.d2l x) :: rest }) target) : Steps tb e below (T.setTop g) target := by
  subst hg
  jvm_step h [h.top, hx, hd, hs]
  exact hr
theorem own_d2i {tb : Tables} [Ours tb] {e : Env} {below : List Frame} {T target : State} {m : MethodId} {c : Code} {g : JFrame} (h : At T m c below) (hx : tb.exec = Jvm.exec) (hg : g.method = m) {x : UInt64} {rest : List Value} (hd : decode c.code g.pc = .ok (.d2i, 1)) (hs : g.stack = .double x :: rest)
    (hr : Steps tb e below (T.setTop { g with pc := g.pc + 1, stack := .int (FP.d2i x) :: rest }) target) : Steps tb e below (T.setTop g) target := by
  subst hg
  jvm_step h [h.top, hx, hd, hs]
  exact hr
theorem own_dneg {tb : Tables} [Ours tb] {e : Env} {below : List Frame} {T target : State} {m : MethodId} {c : Code} {g : JFrame} (h : At T m c below) (hx : tb.exec = Jvm.exec) (hg : g.method = m) {x : UInt64} {rest : List Value} (hd : decode c.code g.pc = .ok (.dneg, 1)) (hs : g.stack = .double x :: rest)
    (hr : Steps tb e below (T.setTop { g with pc := g.pc + 1, stack := .double (FP.dneg x) :: rest }) target) : Steps tb e below (T.setTop g) target := by
  subst hg
  jvm_step h [h.top, hx, hd, hs]
  exact hr
theorem own_dcmp {tb : Tables} [Ours tb] {e : Env} {below : List Frame} {T target : State} {m : MethodId} {c : Code} {g : JFrame} (h : At T m c below) (hx : tb.exec = Jvm.exec) (hg : g.method = m) {op : CmpOp} {x y : UInt64} {rest : List Value} (hd : decode c.code g.pc = .ok (.dcmp op, 1)) (hs : g.stack = .double y :: .double x :: rest)
    (hr : Steps tb e below (T.setTop { g with pc := g.pc + 1, stack := .int (cmpValue (FP.dcmp x y) op) :: rest }) target) : Steps tb e below (T.setTop g) target := by
  subst hg
  jvm_step h [h.top, hx, hd, hs]
  exact hr
theorem own_dadd {tb : Tables} [Ours tb] {e : Env} {below : List Frame} {T target : State} {m : MethodId} {c : Code} {g : JFrame} (h : At T m c below) (hx : tb.exec = Jvm.exec) (hg : g.method = m) {x y : UInt64} {rest : List Value} (hd : decode c.code g.pc = .ok (.dadd, 1)) (hs : g.stack = .double y :: .double x :: rest) (hn : Jvm.Free.Fl.NoNaN64 (FP.dadd x y))
    (hr : Steps tb e below (T.setTop { g with pc := g.pc + 1, stack := .double (FP.dadd x y) :: rest }) target) : Steps tb e below (T.setTop g) target := by
  obtain ⟨gm, gpc, gl, gs, glk, gen, gmr⟩ := g
  subst hg
  dsimp only at hs
  subst hs
  jvm_step h [hx, hd, Op.dadd.at_number h.top hn]
  exact hr
theorem own_dsub {tb : Tables} [Ours tb] {e : Env} {below : List Frame} {T target : State} {m : MethodId} {c : Code} {g : JFrame} (h : At T m c below) (hx : tb.exec = Jvm.exec) (hg : g.method = m) {x y : UInt64} {rest : List Value} (hd : decode c.code g.pc = .ok (.dsub, 1)) (hs : g.stack = .double y :: .double x :: rest) (hn : Jvm.Free.Fl.NoNaN64 (FP.dsub x y))
    (hr : Steps tb e below (T.setTop { g with pc := g.pc + 1, stack := .double (FP.dsub x y) :: rest }) target) : Steps tb e below (T.setTop g) target := by
  obtain ⟨gm, gpc, gl, gs, glk, gen, gmr⟩ := g
  subst hg
  dsimp only at hs
  subst hs
  jvm_step h [hx, hd, Op.dsub.at_number h.top hn]
  exact hr
theorem own_dmul {tb : Tables} [Ours tb] {e : Env} {below : List Frame} {T target : State} {m : MethodId} {c : Code} {g : JFrame} (h : At T m c below) (hx : tb.exec = Jvm.exec) (hg : g.method = m) {x y : UInt64} {rest : List Value} (hd : decode c.code g.pc = .ok (.dmul, 1)) (hs : g.stack = .double y :: .double x :: rest) (hn : Jvm.Free.Fl.NoNaN64 (FP.dmul x y))
    (hr : Steps tb e below (T.setTop { g with pc := g.pc + 1, stack := .double (FP.dmul x y) :: rest }) target) : Steps tb e below (T.setTop g) target := by
  obtain ⟨gm, gpc, gl, gs, glk, gen, gmr⟩ := g
  subst hg
  dsimp only at hs
  subst hs
  jvm_step h [hx, hd, Op.dmul.at_number h.top hn]
  exact hr
theorem own_ddiv {tb : Tables} [Ours tb] {e : Env} {below : List Frame} {T target : State} {m : MethodId} {c : Code} {g : JFrame} (h : At T m c below) (hx : tb.exec = Jvm.exec) (hg : g.method = m) {x y : UInt64} {rest : List Value} (hd : decode c.code g.pc = .ok (.ddiv, 1)) (hs : g.stack = .double y :: .double x :: rest) (hn : Jvm.Free.Fl.NoNaN64 (FP.ddiv x y))
    (hr : Steps tb e below (T.setTop { g with pc := g.pc + 1, stack := .double (FP.ddiv x y) :: rest }) target) : Steps tb e below (T.setTop g) target := by
  obtain ⟨gm, gpc, gl, gs, glk, gen, gmr⟩ := g
  subst hg
  dsimp only at hs
  subst hs
  jvm_step h [hx, hd, Op.ddiv.at_number h.top hn]
  exact hr
theorem own_dup2D {tb : Tables} [Ours tb] {e : Env} {below : List Frame} {T target : State} {m : MethodId} {c : Code} {g : JFrame} (h : At T m c below) (hx : tb.exec = Jvm.exec) (hg : g.method = m) {x : UInt64} {rest : List Value} (hd : decode c.code g.pc = .ok (.dup2, 1)) (hs : g.stack = .double x :: rest)
    (hr : Steps tb e below (T.setTop { g with pc := g.pc + 1, stack := .double x :: .double x :: rest }) target) : Steps tb e below (T.setTop g) target := by
  subst hg
  jvm_step h [h.top, hx, hd, hs, Value.category]
  exact hr
theorem own_retD {p : Program} {l : Launch} {e : Env} {R : Room} {s : State} {m : MethodId} {args : Array Value} {below : List Frame} {meth : Method} {c : Code} {T : State} {locs : List Loc} {cells slots : Nat} (Y : Stand p l e R s m args below meth c T locs cells slots) (hexec : p.tables.exec = Jvm.exec) {pc : Nat} {Ls : Array Slot} {w : UInt64} {rest : List Value} (hret : meth.sig.returnType = some .double)
    (hdg : decode c.code pc = .ok (.dreturn, 1)) {fs : List Frame} (hleave : ∀ (f : JFrame) (acts : List Action), f.method = m → f.locked = none → f.entered = [] → (doReturn e (T.setTop f) acts (some (.double w))).1 = T.setFrames fs) :
    Steps p.tables e below (T.setTop (mkF m pc Ls (.double w :: rest))) (T.setFrames fs) :=
  retOut Y hexec hret rfl (Or.inr (Or.inr (Or.inl ⟨rfl, rfl, w, rfl⟩))) hdg hleave
theorem own_stD {p : Program} {l : Launch} {e : Env} {R : Room} {s : State} {m : MethodId} {args : Array Value} {below : List Frame} {meth : Method} {c : Code} {T : State} {locs : List Loc} {cells slots : Nat} {Z : State} {h : Heap}
    (X : Stand p l e R s m args below meth c T locs cells slots) (hx : p.tables.exec = Jvm.exec) (hZ : Z.Warmed39 s.vm) (eT : T.heap = h) {a : Addr} {cl : Cell} (A : Arr Z h a cl .double) {j : Int32} {x : UInt64} (hj : ¬ (j < 0 ∨ cl.slots.size ≤ j.toNatClampNeg)) {g : JFrame} (hg : g.method = m) {rest : List Value} (hs : g.stack = .double x :: .int j :: .ref a :: rest) (hd : decode c.code g.pc = .ok (.dastore, 1)) :
    ∃ T' h', Stand p l e R s m args below meth c T' (locs ++ [⟨a, j.toNatClampNeg⟩]) cells slots ∧ T'.heap = h' ∧ Wr h h' a j.toNatClampNeg (.double x) ∧ ∀ target, Steps p.tables e below (T'.setTop { g with pc := g.pc + 1, stack := rest }) target → Steps p.tables e below (T.setTop g) target := by
  obtain ⟨X', st⟩ := X.dastore hx (by rw [eT]; exact A.1) (State.isArrayOf_alike hZ.alike A.2.1) A.2.2 hj hg hs hd
  exact ⟨_, _, X', rfl, ⟨cl, A.1, A.plain, Nat.lt_of_not_le fun q => hj (Or.inr q), by rw [← eT]; rfl⟩, st⟩
section OwnDy
open Jvm.FP Jvm.FP.Core
/-- the datum's exponent moved by j -/
def own_sh (j : Int) : Datum → Datum
  | .fin s c q => .fin s c (q + j)
  | d => d
/-- the datum is n * 2^k -/
def own_Dy (n k : Int) (d : Datum) : Prop := Whole n (own_sh (-k) d)
theorem own_dy0 {n : Int} {d : Datum} : own_Dy n 0 d ↔ Whole n d := by
  cases d with
  | nan => exact Iff.rfl
  | inf => exact Iff.rfl
  | fin s c q =>
    show Whole n (.fin s c (q + -0)) ↔ _
    rw [show q + -0 = q by omega]
theorem own_sh_sum (j : Int) (x y : Datum) : exactSum (own_sh j x) (own_sh j y) = own_sh j (exactSum x y) := by
  cases x <;> cases y <;> try rfl
  · simp only [own_sh, exactSum]; split <;> rfl
  · rename_i s c q t d r
    have hm : min (q + j) (r + j) = min q r + j := by omega
    have hu : sumUnits s c (q + j) t d (r + j) (min q r + j) = sumUnits s c q t d r (min q r) := by
      unfold sumUnits inUnits
      rw [show q + j - (min q r + j) = q - min q r by omega, show r + j - (min q r + j) = r - min q r by omega]
    simp only [own_sh, exactSum, hm, hu]
theorem own_sh_prod (i j : Int) (x y : Datum) : exactProduct (own_sh i x) (own_sh j y) = own_sh (i + j) (exactProduct x y) := by
  cases x <;> cases y <;> try rfl
  · simp only [own_sh, exactProduct]; split <;> rfl
  · simp only [own_sh, exactProduct]; split <;> rfl
  · simp only [own_sh, exactProduct, Datum.fin.injEq, true_and]; omega
theorem own_sh_order (j : Int) (x y : Datum) : order (own_sh j x) (own_sh j y) = order x y := by
  cases x <;> cases y <;> try rfl
  rename_i s c q t d r
  simp only [own_sh, order]
  unfold inUnits
  rw [show q + j - min (q + j) (r + j) = q - min q r by omega, show r + j - min (q + j) (r + j) = r - min q r by omega]
theorem own_sh_neg (j : Int) (x : Datum) : negate (own_sh j x) = own_sh j (negate x) := by cases x <;> rfl
theorem own_dy_sum {n m k : Int} {x y : Datum} (hx : own_Dy n k x) (hy : own_Dy m k y) : own_Dy (n + m) k (exactSum x y) := by
  unfold own_Dy; rw [← own_sh_sum]; exact whole_sum hx hy
theorem own_dy_neg {n k : Int} {x : Datum} (hx : own_Dy n k x) : own_Dy (-n) k (negate x) := by
  unfold own_Dy; rw [← own_sh_neg]; exact whole_negate hx
theorem own_dy_prod {n m k l : Int} {x y : Datum} (hx : own_Dy n k x) (hy : own_Dy m l y) : own_Dy (n * m) (k + l) (exactProduct x y) := by
  unfold own_Dy; rw [show -(k + l) = -k + -l by omega, ← own_sh_prod]; exact whole_product hx hy
theorem own_dy_order {n m k : Int} {x y : Datum} (hx : own_Dy n k x) (hy : own_Dy m k y) : order x y = some (compare n m) := by
  rw [← own_sh_order (-k)]; exact order_whole hx hy
theorem own_dy_fin {n k : Int} {x : Datum} (h : own_Dy n k x) : ∃ s c q, x = .fin s c q := by
  cases x with
  | nan => exact h.elim
  | inf => exact h.elim
  | fin s c q => exact ⟨s, c, q, rfl⟩
theorem own_dy_abs {n k q : Int} {s : Bool} {c : Nat} (h : own_Dy n k (.fin s c q)) : c * 2 ^ (q - k).toNat = n.natAbs * 2 ^ (k - q).toNat := by
  have := whole_natAbs (q := q + -k) h
  rw [show q + -k = q - k by omega, show -(q - k) = k - q by omega] at this
  exact this
theorem own_dy_sign {n k q : Int} {s : Bool} {c : Nat} (h : own_Dy n k (.fin s c q)) (hn : n ≠ 0) : s = decide (n < 0) := whole_sign (q := q + -k) h hn
theorem own_dy_mk {n k q : Int} {s : Bool} {c : Nat} (h : c * 2 ^ (q - k).toNat = n.natAbs * 2 ^ (k - q).toNat) (hs : n ≠ 0 → s = decide (n < 0)) : own_Dy n k (.fin s c q) := by
  show signed s (c * 2 ^ (q + -k).toNat) = n * ((2 ^ (-(q + -k)).toNat : Nat) : Int)
  rw [show q + -k = q - k by omega, show -(q - k) = k - q by omega, h]
  by_cases h0 : n = 0
  · subst h0; simp [signed]
  · rw [hs h0, signed_mul]
    congr 1
    unfold signed
    by_cases h : n < 0 <;> simp [h] <;> omega
/-- the same number in smaller units -/
theorem own_dy_scale {n k : Int} {x : Datum} (h : own_Dy n k x) (j : Nat) : own_Dy (n * ((2 ^ j : Nat) : Int)) (k - j) x := by
  obtain ⟨s, c, q, rfl⟩ := own_dy_fin h
  have p : 0 < 2 ^ j := Nat.two_pow_pos j
  refine own_dy_mk ?_ fun hn => ?_
  · have ha := own_dy_abs h
    rw [Int.natAbs_mul, Int.natAbs_natCast]
    have e1 : (q - (k - (j : Int))).toNat + (k - q).toNat = (q - k).toNat + j + (k - (j : Int) - q).toNat := by omega
    refine Nat.eq_of_mul_eq_mul_right (Nat.two_pow_pos (k - q).toNat) ?_
    calc c * 2 ^ (q - (k - (j : Int))).toNat * 2 ^ (k - q).toNat = c * 2 ^ ((q - (k - (j : Int))).toNat + (k - q).toNat) := by rw [Nat.pow_add, Nat.mul_assoc]
      _ = (c * 2 ^ (q - k).toNat) * 2 ^ j * 2 ^ (k - (j : Int) - q).toNat := by rw [e1, Nat.pow_add, Nat.pow_add]; simp only [Nat.mul_assoc]
      _ = n.natAbs * 2 ^ j * 2 ^ (k - (j : Int) - q).toNat * 2 ^ (k - q).toNat := by rw [ha]; ac_rfl
  · have p' : (0 : Int) < ((2 ^ j : Nat) : Int) := by omega
    have h0 : n ≠ 0 := fun h => hn (by rw [h, Int.zero_mul])
    rw [own_dy_sign h h0, decide_eq_decide]
    constructor
    · intro hl; exact Int.mul_neg_of_neg_of_pos hl p'
    · intro hl; exact Int.lt_of_not_ge fun hg => by have := Int.mul_nonneg hg (Int.le_of_lt p'); omega
/-- whole multiples of 2^k of at most 53 digits are doubles -/
theorem own_fit {n : Nat} {k : Int} (s : Bool) (hn : n ≤ 2 ^ 53) (h1 : -1074 ≤ k) (h2 : k ≤ 971) (h3 : n = 2 ^ 53 → k ≤ 970) : ∃ c q, Core.fits b64 (.fin s c q) ∧ n * 2 ^ (k - q).toNat = c * 1 * 2 ^ (q - k).toNat := by
  have ht : b64.tails = 2 ^ 52 := by decide
  have hp : b64.p = 53 := rfl
  have hm : b64.qmin = -1074 := by decide
  have hM : b64.qmax = 971 := by decide
  by_cases h0 : n = 0
  · subst h0
    exact ⟨0, b64.qmin, zero_fits good_b64 s, by simp⟩
  by_cases hp2 : n = 2 ^ 53
  · have h3 := h3 hp2
    refine ⟨2 ^ 52, k + 1, ⟨by rw [hp]; decide, by omega, by omega, .inr (by omega)⟩, ?_⟩
    rw [hp2, show (k - (k + 1)).toNat = 0 by omega, show (k + 1 - k).toNat = 1 by omega]
  · have l1 : 2 ^ n.log2 ≤ n := Nat.log2_self_le h0
    have l2 : n < 2 ^ (n.log2 + 1) := Nat.lt_log2_self
    have l3 : n.log2 < 53 := (Nat.pow_lt_pow_iff_right (by decide : 1 < 2)).mp (Nat.lt_of_le_of_lt l1 (by omega))
    generalize n.log2 = L at l1 l2 l3
    have hq : ∃ q : Int, q = max (-1074) ((L : Int) + k - 52) := ⟨_, rfl⟩
    obtain ⟨q, hq⟩ := hq
    have q1 : q ≤ k := by omega
    refine ⟨n * 2 ^ (k - q).toNat, q, ⟨?_, by omega, by omega, ?_⟩, ?_⟩
    · rw [hp]
      calc n * 2 ^ (k - q).toNat < 2 ^ (L + 1) * 2 ^ (k - q).toNat := Nat.mul_lt_mul_of_pos_right l2 (Nat.two_pow_pos _)
        _ = 2 ^ (L + 1 + (k - q).toNat) := by rw [← Nat.pow_add]
        _ ≤ 2 ^ 53 := Nat.pow_le_pow_right (by decide) (by omega)
    · by_cases hm2 : q = -1074
      · left; rw [hm]; exact hm2
      · right
        rw [ht]
        calc 2 ^ 52 = 2 ^ L * 2 ^ (k - q).toNat := by rw [← Nat.pow_add]; congr 1; omega
          _ ≤ n * 2 ^ (k - q).toNat := Nat.mul_le_mul_right _ l1
    · rw [show (q - k).toNat = 0 by omega]; simp
theorem own_dy_roundRatio {n k e : Int} {A B : Nat} {s : Bool} (hB : 0 < B) (hn : n.natAbs ≤ 2 ^ 53) (h1 : -1074 ≤ k) (h2 : k ≤ 970) (hA : A * 2 ^ (e - k).toNat = n.natAbs * B * 2 ^ (k - e).toNat) (hs : n ≠ 0 → s = decide (n < 0)) : own_Dy n k (roundRatio b64 s A B e) := by
  obtain ⟨c, q, hf, hv⟩ := own_fit (n := n.natAbs) s hn h1 (by omega) (fun _ => h2)
  have : roundRatio b64 s A B e = .fin s c q := by
    rw [roundRatio_congr (A' := n.natAbs) (B' := 1) (e' := k) hB (by decide) (by rw [Nat.mul_one]; exact hA)]
    exact roundRatio_exact good_b64 (by decide) hf hv
  rw [this]
  refine own_dy_mk ?_ hs
  rw [Nat.mul_one] at hv
  exact hv.symm
theorem own_dy_round {n k : Int} {d : Datum} (hn : n.natAbs ≤ 2 ^ 53) (h1 : -1074 ≤ k) (h2 : k ≤ 970) (h : own_Dy n k d) : own_Dy n k (round b64 d) := by
  obtain ⟨s, c, q, rfl⟩ := own_dy_fin h
  refine own_dy_roundRatio (by decide) hn h1 h2 ?_ (own_dy_sign h)
  rw [Nat.mul_one]; exact own_dy_abs h
theorem own_pow_cancel {a b x y : Nat} {u : Int} (h : a * 2 ^ x = b * 2 ^ y) (hu : u = (x : Int) - y) : a * 2 ^ u.toNat = b * 2 ^ (-u).toNat := by
  have hx : x = u.toNat + min x y := by omega
  have hy : y = (-u).toNat + min x y := by omega
  generalize u.toNat = v at *
  generalize (-u).toNat = w at *
  generalize min x y = t at hx hy
  subst hx hy
  rw [Nat.pow_add, Nat.pow_add, ← Nat.mul_assoc, ← Nat.mul_assoc] at h
  exact Nat.eq_of_mul_eq_mul_right (Nat.two_pow_pos t) h
/-- an exact quotient -/
theorem own_dy_quot {r m k l : Int} {x y : Datum} (hm : m ≠ 0) (hn : r.natAbs ≤ 2 ^ 53) (h1 : -1074 ≤ k) (h2 : k ≤ 970) (hx : own_Dy (r * m) (k + l) x) (hy : own_Dy m l y) : own_Dy r k (quotient b64 x y) := by
  obtain ⟨s, c, q, rfl⟩ := own_dy_fin hx
  obtain ⟨t, d, q', rfl⟩ := own_dy_fin hy
  have ha := own_dy_abs hx
  have hb := own_dy_abs hy
  have hd : d ≠ 0 := by
    rintro rfl
    rw [Nat.zero_mul] at hb
    rcases Nat.mul_eq_zero.mp hb.symm with h | h
    · exact hm (Int.natAbs_eq_zero.mp h)
    · have := Nat.two_pow_pos (l - q').toNat; omega
  show own_Dy r k (if d = 0 then _ else _)
  rw [if_neg hd]
  refine own_dy_roundRatio (Nat.pos_of_ne_zero hd) hn h1 h2 ?_ fun h0 => ?_
  · rw [Int.natAbs_mul] at ha
    have e1 : (q - q' - k) = (((q - (k + l)).toNat + (l - q').toNat : Nat) : Int) - (((k + l - q).toNat + (q' - l).toNat : Nat) : Int) := by omega
    have e2 : k - (q - q') = -(q - q' - k) := by omega
    rw [e2]
    refine own_pow_cancel (x := (q - (k + l)).toNat + (l - q').toNat) (y := (k + l - q).toNat + (q' - l).toNat) ?_ e1
    calc c * 2 ^ ((q - (k + l)).toNat + (l - q').toNat) = (c * 2 ^ (q - (k + l)).toNat) * 2 ^ (l - q').toNat := by rw [Nat.pow_add, Nat.mul_assoc]
      _ = r.natAbs * (m.natAbs * 2 ^ (l - q').toNat) * 2 ^ (k + l - q).toNat := by rw [ha]; ac_rfl
      _ = r.natAbs * d * 2 ^ ((k + l - q).toNat + (q' - l).toNat) := by rw [← hb, Nat.pow_add]; ac_rfl
  · have h3 : r * m ≠ 0 := fun h => (Int.mul_eq_zero.mp h).elim h0 hm
    rw [own_dy_sign hx h3, own_dy_sign hy hm]
    rcases Int.lt_or_gt_of_ne h0 with a | a <;> rcases Int.lt_or_gt_of_ne hm with b | b
    · have := Int.mul_pos_of_neg_of_neg a b; simp [a, b]; omega
    · have := Int.mul_neg_of_neg_of_pos a b; simp [a, this]; omega
    · have := Int.mul_neg_of_pos_of_neg a b; simp [b, this]; omega
    · have := Int.mul_pos a b; simp [show ¬ r < 0 by omega, show ¬ m < 0 by omega]; omega
theorem own_dy_unscale {n k : Int} {x : Datum} (j : Nat) (h : own_Dy (n * ((2 ^ j : Nat) : Int)) k x) : own_Dy n (k + j) x := by
  obtain ⟨s, c, q, rfl⟩ := own_dy_fin h
  have p : 0 < 2 ^ j := Nat.two_pow_pos j
  have p' : (0 : Int) < ((2 ^ j : Nat) : Int) := by omega
  refine own_dy_mk ?_ fun h0 => ?_
  · have ha := own_dy_abs h
    rw [Int.natAbs_mul, Int.natAbs_natCast] at ha
    have e1 : (q - (k + (j : Int))) = (((q - k).toNat : Nat) : Int) - (((k - q).toNat + j : Nat) : Int) := by omega
    have e2 : k + (j : Int) - q = -(q - (k + (j : Int))) := by omega
    rw [e2]
    refine own_pow_cancel (x := (q - k).toNat) (y := (k - q).toNat + j) ?_ e1
    rw [ha, Nat.pow_add]; ac_rfl
  · have hn : n * ((2 ^ j : Nat) : Int) ≠ 0 := fun h => (Int.mul_eq_zero.mp h).elim h0 (by omega)
    rw [own_dy_sign h hn, decide_eq_decide]
    constructor
    · intro hl; exact Int.lt_of_not_ge fun hg => by have := Int.mul_nonneg hg (Int.le_of_lt p'); omega
    · intro hl; exact Int.mul_neg_of_neg_of_pos hl p'
/-- the number in units of 2^e -/
theorem own_dy_units {n k q e : Int} {s : Bool} {c : Nat} (h : own_Dy n k (.fin s c q)) (h1 : e ≤ k) (h2 : e ≤ q) : signed s (inUnits c q e) = n * ((2 ^ (k - e).toNat : Nat) : Int) := by
  have ha := own_dy_abs h
  have e1 : inUnits c q e = n.natAbs * 2 ^ (k - e).toNat := by
    unfold inUnits
    refine Nat.eq_of_mul_eq_mul_right (Nat.two_pow_pos (k - q).toNat) ?_
    calc c * 2 ^ (q - e).toNat * 2 ^ (k - q).toNat = (c * 2 ^ (q - k).toNat) * 2 ^ (k - e).toNat := by
          rw [Nat.mul_assoc, ← Nat.pow_add, Nat.mul_assoc, ← Nat.pow_add]; congr 2; omega
      _ = n.natAbs * 2 ^ (k - e).toNat * 2 ^ (k - q).toNat := by rw [ha]; ac_rfl
  rw [e1, signed_mul]
  congr 1
  by_cases h0 : n = 0
  · subst h0; simp [signed]
  · rw [own_dy_sign h h0]
    unfold signed
    by_cases hl : n < 0 <;> simp [hl] <;> omega
theorem own_pow_split (n : Int) {k e : Int} (h1 : -1074 ≤ k) (h2 : e ≤ -1074) : n * ((2 ^ (k - e).toNat : Nat) : Int) = n * ((2 ^ (k + 1074).toNat : Nat) : Int) * ((2 ^ (b64.qmin - e).toNat : Nat) : Int) := by
  have hm : b64.qmin = -1074 := by decide
  rw [hm, Int.mul_assoc, ← Int.natCast_mul, ← Nat.pow_add]
  congr 4
  omega
/-- rounding is monotone -/
theorem own_round_le {n k w : Int} {d V : Datum} (h : own_Dy n k d) (h1 : -1074 ≤ k) (hV : Core.fits b64 V) (hn : V ≠ .nan) (hz : zval b64 V = w) (hw : n * ((2 ^ (k + 1074).toNat : Nat) : Int) ≤ w) : zval b64 (round b64 d) ≤ w := by
  obtain ⟨s, c, q, rfl⟩ := own_dy_fin h
  have hm : b64.qmin = -1074 := by decide
  have p := Nat.two_pow_pos (b64.qmin - min (-1074) q).toNat
  rw [← hz]
  refine zval_round_le good_b64 hV hn (e0 := min (-1074) q) (by omega) (by omega) ?_
  rw [own_dy_units h (by omega) (by omega), own_pow_split n h1 (by omega), hz]
  exact Int.mul_le_mul_of_nonneg_right hw (by omega)
theorem own_round_ge {n k w : Int} {d V : Datum} (h : own_Dy n k d) (h1 : -1074 ≤ k) (hV : Core.fits b64 V) (hn : V ≠ .nan) (hz : zval b64 V = w) (hw : w ≤ n * ((2 ^ (k + 1074).toNat : Nat) : Int)) : w ≤ zval b64 (round b64 d) := by
  obtain ⟨s, c, q, rfl⟩ := own_dy_fin h
  have hm : b64.qmin = -1074 := by decide
  have p := Nat.two_pow_pos (b64.qmin - min (-1074) q).toNat
  rw [← hz]
  refine zval_round_ge good_b64 hV hn (e0 := min (-1074) q) (by omega) (by omega) ?_
  rw [own_dy_units h (by omega) (by omega), own_pow_split n h1 (by omega), hz]
  exact Int.mul_le_mul_of_nonneg_right hw (by omega)
/-! ### on doubles -/
def own_D (n k : Int) (a : UInt64) : Prop := own_Dy n k (val64 a)
theorem own_d_int {n : Int} {a : UInt64} : own_D n 0 a ↔ DInt n a := own_dy0
theorem own_d_ne {n k : Int} {a : UInt64} (h : own_D n k a) : val64 a ≠ .nan := by
  obtain ⟨s, c, q, e⟩ := own_dy_fin h; rw [e]; exact Datum.noConfusion
theorem own_d_no {n k : Int} {a : UInt64} (h : own_D n k a) : Jvm.Free.Fl.NoNaN64 a := Jvm.Free.Fl.val64_no.mpr (own_d_ne h)
theorem own_d_scale {n k : Int} {a : UInt64} (h : own_D n k a) (j : Nat) : own_D (n * ((2 ^ j : Nat) : Int)) (k - j) a := own_dy_scale h j
theorem own_d_add {n m k : Int} {a b : UInt64} (ha : own_D n k a) (hb : own_D m k b) (hn : (n + m).natAbs ≤ 2 ^ 53) (h1 : -1074 ≤ k) (h2 : k ≤ 970) : own_D (n + m) k (FP.dadd a b) := by
  unfold own_D; rw [show FP.dadd a b = Core.dadd a b from rfl, val64_dadd]; exact own_dy_round hn h1 h2 (own_dy_sum ha hb)
theorem own_d_sub {n m k : Int} {a b : UInt64} (ha : own_D n k a) (hb : own_D m k b) (hn : (n - m).natAbs ≤ 2 ^ 53) (h1 : -1074 ≤ k) (h2 : k ≤ 970) : own_D (n - m) k (FP.dsub a b) := by
  unfold own_D; rw [show FP.dsub a b = Core.dsub a b from rfl, val64_dsub]; exact own_dy_round hn h1 h2 (own_dy_sum ha (own_dy_neg hb))
theorem own_d_mul {n m k l : Int} {a b : UInt64} (ha : own_D n k a) (hb : own_D m l b) (hn : (n * m).natAbs ≤ 2 ^ 53) (h1 : -1074 ≤ k + l) (h2 : k + l ≤ 970) : own_D (n * m) (k + l) (FP.dmul a b) := by
  unfold own_D; rw [show FP.dmul a b = Core.dmul a b from rfl, val64_dmul]; exact own_dy_round hn h1 h2 (own_dy_prod ha hb)
theorem own_d_div {r m k l : Int} {a b : UInt64} (hm : m ≠ 0) (ha : own_D (r * m) (k + l) a) (hb : own_D m l b) (hn : r.natAbs ≤ 2 ^ 53) (h1 : -1074 ≤ k) (h2 : k ≤ 970) : own_D r k (FP.ddiv a b) := by
  unfold own_D; rw [show FP.ddiv a b = Core.ddiv a b from rfl, val64_ddiv]; exact own_dy_quot hm hn h1 h2 ha hb
theorem own_d_neg {n k : Int} {a : UInt64} (ha : own_D n k a) : own_D (-n) k (FP.dneg a) := by
  unfold own_D; rw [FP.val64_dneg]; exact own_dy_neg ha
theorem own_d_cmp {n m k : Int} {a b : UInt64} (ha : own_D n k a) (hb : own_D m k b) : FP.dcmp a b = some (compare n m) := own_dy_order ha hb
theorem own_d_i2d (x : Int32) : own_D x.toInt 0 (FP.i2d x) := own_d_int.mpr (i2d_int x)
theorem own_d_l2d {x : Int64} (h : x.toInt.natAbs ≤ 2 ^ 53) : own_D x.toInt 0 (FP.l2d x) := own_d_int.mpr (l2d_int h)
theorem own_d_unscale {n k : Int} {a : UInt64} (j : Nat) (h : own_D (n * ((2 ^ j : Nat) : Int)) k a) : own_D n (k + j) a := own_dy_unscale j h
theorem own_d_zv {n k : Int} {a : UInt64} (h : own_D n k a) (h1 : -1074 ≤ k) : zval b64 (val64 a) = n * ((2 ^ (k + 1074).toNat : Nat) : Int) := by
  obtain ⟨s, c, q, e⟩ := own_dy_fin h
  have hf := val64_fits a
  unfold own_D at h
  rw [e] at h hf ⊢
  have hm : b64.qmin = -1074 := by decide
  have := own_dy_units h (e := b64.qmin) (by omega) (by have := hf.2.1; omega)
  show signed s (inUnits c q b64.qmin) = _
  rw [this, hm]
  congr 4
theorem own_cmp_eq (n : Int) : compare n n = .eq := by simp [compare, compareOfLessAndEq]
theorem own_cmp0 {r : Option Ordering} {op : CmpOp} : cmpValue r op = 0 ↔ r = some .eq := by
  rcases r with _ | o
  · cases op <;> simp [cmpValue] <;> decide
  · cases o <;> simp [cmpValue]
theorem own_d_of {n k q : Int} {s : Bool} {c : Nat} {a : UInt64} (h : val64 a = .fin s c q) (h' : c * 2 ^ (q - k).toNat = n.natAbs * 2 ^ (k - q).toNat) (hs : n = 0 ∨ s = decide (n < 0)) : own_D n k a := by
  unfold own_D; rw [h]; exact own_dy_mk h' fun h0 => hs.resolve_left h0
theorem own_d_0 {k l : Int} {a : UInt64} (h : own_D 0 k a) : own_D 0 l a := by
  obtain ⟨s, c, q, e⟩ := own_dy_fin h
  unfold own_D at h ⊢
  rw [e] at h ⊢
  have := own_dy_abs h
  refine own_dy_mk ?_ fun h0 => absurd rfl h0
  have p := Nat.two_pow_pos (q - k).toNat
  rw [show (0 : Int).natAbs = 0 from rfl, Nat.zero_mul] at this
  rcases Nat.mul_eq_zero.mp this with h | h
  · rw [h]; simp
  · omega
theorem own_d_zero : own_D 0 0 FP.dconst0 := own_d_of (s := false) (c := 0) (q := -1074) (by decide +kernel) (by decide +kernel) (Or.inl rfl)
theorem own_d_one : own_D 1 0 FP.dconst1 := own_d_of (s := false) (c := 4503599627370496) (q := -52) (by decide +kernel) (by decide +kernel) (Or.inr rfl)
end OwnDy
section OwnRint
open Jvm.FP Jvm.FP.Core
theorem own_dy_zv {n k : Int} {V : Datum} (h : own_Dy n k V) (hf : Core.fits b64 V) (h1 : -1074 ≤ k) : zval b64 V = n * ((2 ^ (k + 1074).toNat : Nat) : Int) := by
  obtain ⟨s, c, q, rfl⟩ := own_dy_fin h
  have hm : b64.qmin = -1074 := by decide
  have := own_dy_units h (e := b64.qmin) (by omega) (by have := hf.2.1; omega)
  show signed s (inUnits c q b64.qmin) = _
  rw [this, hm]
  congr 4
theorem own_dy_ex (n k : Int) (hn : n.natAbs ≤ 2 ^ 53) (h1 : -1074 ≤ k) (h2 : k ≤ 970) : ∃ V, own_Dy n k V ∧ Core.fits b64 V ∧ V ≠ .nan := by
  obtain ⟨c, q, hf, hv⟩ := own_fit (n := n.natAbs) (k := k) (decide (n < 0)) hn h1 (by omega) (fun _ => h2)
  refine ⟨.fin (decide (n < 0)) c q, own_dy_mk ?_ (fun _ => rfl), hf, Datum.noConfusion⟩
  rw [Nat.mul_one] at hv
  exact hv.symm
theorem own_big_whole {d : Datum} (hf : Core.fits b64 d) (hn : d ≠ .nan) (h1 : ((2 ^ 53 : Nat) : Int) * ((2 ^ 1074 : Nat) : Int) ≤ (zval b64 d).natAbs) (h2 : ((zval b64 d).natAbs : Int) < ((2 ^ 2098 : Nat) : Int)) : ∃ N : Int, Whole N d ∧ zval b64 d = N * ((2 ^ 1074 : Nat) : Int) := by
  cases d with
  | nan => exact absurd rfl hn
  | inf s =>
    exfalso
    have e : (zval b64 (.inf s)).natAbs = 2 ^ 2098 := by cases s <;> decide +kernel
    rw [e] at h2
    exact Int.lt_irrefl _ h2
  | fin s c q =>
    have hz : zval b64 (.fin s c q) = signed s (c * 2 ^ (q + 1074).toNat) := by
      show signed s (inUnits c q b64.qmin) = _
      unfold inUnits
      rw [show b64.qmin = -1074 by decide, show q - -1074 = q + 1074 by omega]
    rw [hz, natAbs_signed] at h1
    have hc : c < 2 ^ 53 := hf.1
    have hq1 : -1074 ≤ q := by have := hf.2.1; rw [show b64.qmin = -1074 by decide] at this; exact this
    have hq : 0 ≤ q := by
      refine Int.not_lt.mp fun hlt => ?_
      have hp : (2 ^ (q + 1074).toNat : Nat) ≤ 2 ^ 1074 := Nat.pow_le_pow_right (by decide) (by omega)
      have p0 : 0 < (2 ^ 1074 : Nat) := Nat.two_pow_pos _
      have h3 : c * 2 ^ (q + 1074).toNat ≤ c * 2 ^ 1074 := Nat.mul_le_mul_left _ hp
      have h4 : c * 2 ^ 1074 < 2 ^ 53 * 2 ^ 1074 := Nat.mul_lt_mul_of_pos_right hc p0
      have h5 : 2 ^ 53 * 2 ^ 1074 ≤ c * 2 ^ (q + 1074).toNat := by
        have := h1
        rw [← Int.natCast_mul] at this
        exact Int.ofNat_le.mp this
      exact absurd (Nat.lt_of_le_of_lt (Nat.le_trans h5 h3) h4) (Nat.lt_irrefl _)
    refine ⟨signed s (c * 2 ^ q.toNat), ?_, ?_⟩
    · show signed s (c * 2 ^ q.toNat) = signed s (c * 2 ^ q.toNat) * ((2 ^ (-q).toNat : Nat) : Int)
      rw [show (-q).toNat = 0 by omega]; simp
    · rw [hz, ← signed_mul, Nat.mul_assoc, ← Nat.pow_add]
      congr 3
      omega
theorem own_pow_1086 : ((2 ^ 1086 : Nat) : Int) = 4096 * ((2 ^ 1074 : Nat) : Int) := by
  rw [show (4096 : Int) = ((2 ^ 12 : Nat) : Int) by decide, ← Int.natCast_mul, ← Nat.pow_add]
/-- a whole number of up to 64 digits rounds to a whole number near it; the same whatever its datum -/
theorem own_round_int (n : Int) (hn : n.natAbs ≤ 2 ^ 64) : ∃ N : Int, (N - n).natAbs ≤ 4096 ∧ (n.natAbs ≤ 2 ^ 53 → N = n) ∧ ∀ d, Whole n d → Whole N (round b64 d) := by
  by_cases hs : n.natAbs ≤ 2 ^ 53
  · exact ⟨n, by simp, fun _ => rfl, fun d h => whole_round good_b64 wide_b64 hs h⟩
  have p0 : (0 : Int) < ((2 ^ 1074 : Nat) : Int) := by have := Nat.two_pow_pos 1074; omega
  have h0 : own_Dy n 0 (ofInt n) := own_dy0.mpr (whole_ofInt n)
  have hval : n * ((2 ^ ((0 : Int) + 1074).toNat : Nat) : Int) = n * ((2 ^ 1074 : Nat) : Int) := rfl
  -- the bounds
  have lo : (n / 4096) * 4096 * ((2 ^ 1074 : Nat) : Int) ≤ zval b64 (round b64 (ofInt n)) := by
    obtain ⟨V, hV, hVf, hVn⟩ := own_dy_ex (n / 4096) 12 (by omega) (by decide) (by decide)
    have hz := own_dy_zv hV hVf (by decide)
    rw [show ((12 : Int) + 1074).toNat = 1086 from rfl, own_pow_1086, ← Int.mul_assoc] at hz
    refine own_round_ge h0 (by decide) hVf hVn hz ?_
    rw [hval]
    exact Int.mul_le_mul_of_nonneg_right (by omega) (by omega)
  have hi : zval b64 (round b64 (ofInt n)) ≤ (n / 4096 + 1) * 4096 * ((2 ^ 1074 : Nat) : Int) := by
    obtain ⟨V, hV, hVf, hVn⟩ := own_dy_ex (n / 4096 + 1) 12 (by omega) (by decide) (by decide)
    have hz := own_dy_zv hV hVf (by decide)
    rw [show ((12 : Int) + 1074).toNat = 1086 from rfl, own_pow_1086, ← Int.mul_assoc] at hz
    refine own_round_le h0 (by decide) hVf hVn hz ?_
    rw [hval]
    exact Int.mul_le_mul_of_nonneg_right (by omega) (by omega)
  have hfar : ((2 ^ 53 : Nat) : Int) * ((2 ^ 1074 : Nat) : Int) ≤ (zval b64 (round b64 (ofInt n))).natAbs := by
    by_cases hp : 0 ≤ n
    · have : ((2 ^ 53 : Nat) : Int) * ((2 ^ 1074 : Nat) : Int) ≤ (n / 4096) * 4096 * ((2 ^ 1074 : Nat) : Int) := Int.mul_le_mul_of_nonneg_right (by omega) (by omega)
      omega
    · have : (n / 4096 + 1) * 4096 * ((2 ^ 1074 : Nat) : Int) ≤ -((2 ^ 53 : Nat) : Int) * ((2 ^ 1074 : Nat) : Int) := Int.mul_le_mul_of_nonneg_right (by omega) (by omega)
      rw [Int.neg_mul] at this
      omega
  have hnear : ((zval b64 (round b64 (ofInt n))).natAbs : Int) < ((2 ^ 2098 : Nat) : Int) := by
    have e : (36893488147419103232 : Int) * ((2 ^ 1074 : Nat) : Int) < ((2 ^ 2098 : Nat) : Int) := by decide +kernel
    have l1 : -36893488147419103232 * ((2 ^ 1074 : Nat) : Int) ≤ (n / 4096) * 4096 * ((2 ^ 1074 : Nat) : Int) := Int.mul_le_mul_of_nonneg_right (by omega) (by omega)
    have l2 : (n / 4096 + 1) * 4096 * ((2 ^ 1074 : Nat) : Int) ≤ 36893488147419103232 * ((2 ^ 1074 : Nat) : Int) := Int.mul_le_mul_of_nonneg_right (by omega) (by omega)
    rw [Int.neg_mul] at l1
    generalize ((2 ^ 2098 : Nat) : Int) = Q at *
    omega
  have hne : round b64 (ofInt n) ≠ .nan := roundRatio_ne_nan _ _ _ _ _
  obtain ⟨N, hN, hNz⟩ := own_big_whole (round_fits good_b64 _) hne hfar hnear
  rw [hNz] at lo hi
  have l1 := Int.le_of_mul_le_mul_right lo p0
  have l2 := Int.le_of_mul_le_mul_right hi p0
  refine ⟨N, by omega, fun h => absurd h hs, fun d hd => ?_⟩
  have hn0 : n ≠ 0 := by rintro rfl; exact hs (by decide)
  cases d with
  | nan => exact hd.elim
  | inf => exact hd.elim
  | fin s c q =>
    rw [round_whole hd, whole_sign hd hn0]
    have : round b64 (ofInt n) = roundRatio b64 (decide (n < 0)) n.natAbs 1 0 := rfl
    rw [← this]
    exact hN
theorem own_whole_inj {i j : Int} {d : Datum} (h1 : Whole i d) (h2 : Whole j d) : i = j := by
  have := order_whole h1 h2
  have h3 := order_whole h1 h1
  rw [this, own_cmp_eq] at h3
  exact Int.compare_eq_eq.mp (Option.some.inj h3)
/-- where the number is a double already -/
theorem own_round_rep {n : Int} {a : UInt64} (h : DInt n a) {d : Datum} (hd : Whole n d) (hn : n.natAbs ≤ 2 ^ 64) : Whole n (round b64 d) := by
  obtain ⟨N, -, -, hN⟩ := own_round_int n hn
  have h1 := hN _ h
  rw [round_of_fits good_b64 (val64_fits a)] at h1
  have := own_whole_inj h h1
  subst this
  exact hN _ hd
theorem own_dint_no {n : Int} {a : UInt64} (h : DInt n a) : Jvm.Free.Fl.NoNaN64 a := own_d_no (own_d_int.mpr h)
theorem own_sub_rep {i j : Int} {a b r : UInt64} (ha : DInt i a) (hb : DInt j b) (hr : DInt (i - j) r) (hn : (i - j).natAbs ≤ 2 ^ 64) : DInt (i - j) (FP.dsub a b) := by
  unfold DInt
  rw [show FP.dsub a b = Core.dsub a b from rfl, val64_dsub]
  exact own_round_rep hr (whole_sum ha (whole_negate hb)) hn
theorem own_add_near {i j : Int} {a b : UInt64} (ha : DInt i a) (hb : DInt j b) (hn : (i + j).natAbs ≤ 2 ^ 64) : ∃ N : Int, (N - (i + j)).natAbs ≤ 4096 ∧ ((i + j).natAbs ≤ 2 ^ 53 → N = i + j) ∧ DInt N (FP.dadd a b) ∧ ∀ x : Int64, x.toInt = i + j → DInt N (FP.l2d x) := by
  obtain ⟨N, h1, h2, h3⟩ := own_round_int (i + j) hn
  refine ⟨N, h1, h2, ?_, fun x hx => ?_⟩
  · unfold DInt
    rw [show FP.dadd a b = Core.dadd a b from rfl, val64_dadd]
    exact h3 _ (whole_sum ha hb)
  · unfold DInt
    rw [show FP.l2d x = Core.l2d x from rfl, val64_l2d, hx]
    exact h3 _ (whole_ofInt _)
theorem own_sub_near {i j : Int} {a b : UInt64} (ha : DInt i a) (hb : DInt j b) (hn : (i - j).natAbs ≤ 2 ^ 64) : ∃ N : Int, (N - (i - j)).natAbs ≤ 4096 ∧ ((i - j).natAbs ≤ 2 ^ 53 → N = i - j) ∧ DInt N (FP.dsub a b) := by
  obtain ⟨N, h1, h2, h3⟩ := own_round_int (i - j) hn
  refine ⟨N, h1, h2, ?_⟩
  unfold DInt
  rw [show FP.dsub a b = Core.dsub a b from rfl, val64_dsub]
  exact h3 _ (whole_sum ha (whole_negate hb))
end OwnRint
section OwnKahan
open Jvm.FP Jvm.FP.Core
theorem own_kahan {E S T : Int} {s e t : UInt64} (hs : DInt S s) (he : DInt (S - E) e) (ht : DInt T t) (h1 : (S - E).natAbs ≤ 4096) (h2 : T.natAbs ≤ 1048576) (h3 : (E + T).natAbs ≤ 2 ^ 63) :
    ∃ S' : Int, DInt S' (FP.dadd s (FP.dsub t e)) ∧ DInt (S' - (E + T)) (FP.dsub (FP.dsub (FP.dadd s (FP.dsub t e)) s) (FP.dsub t e)) ∧ (S' - (E + T)).natAbs ≤ 4096 ∧ DInt (T - (S - E)) (FP.dsub t e) ∧ DInt (S' - S) (FP.dsub (FP.dadd s (FP.dsub t e)) s) ∧ ∀ x : Int64, x.toInt = E + T → DInt S' (FP.l2d x) := by
  have hc : DInt (T - (S - E)) (FP.dsub t e) := dsub_int ht he (by omega)
  have e1 : S + (T - (S - E)) = E + T := by omega
  obtain ⟨S', a1, -, a2, a3⟩ := own_add_near hs hc (by omega)
  rw [e1] at a1 a3
  have hd : DInt (S' - S) (FP.dsub (FP.dadd s (FP.dsub t e)) s) := dsub_int a2 hs (by omega)
  have hf : DInt (S' - S - (T - (S - E))) (FP.dsub (FP.dsub (FP.dadd s (FP.dsub t e)) s) (FP.dsub t e)) := dsub_int hd hc (by omega)
  rw [show S' - S - (T - (S - E)) = S' - (E + T) by omega] at hf
  exact ⟨S', a2, hf, a1, hc, hd, a3⟩
theorem own_d_int_of {n : Int} {k : Nat} {a : UInt64} (h : own_D n k a) : DInt (n * ((2 ^ k : Nat) : Int)) a := by
  have := own_d_scale h k
  rw [show ((k : Int) - k) = 0 by omega] at this
  exact own_d_int.mp this
theorem own_l2d_dy {x : Int64} {n : Int} {k : Nat} (h : x.toInt = n * ((2 ^ k : Nat) : Int)) (hn : n.natAbs ≤ 2 ^ 53) (hk : k ≤ 970) : own_D n k (FP.l2d x) := by
  unfold own_D
  rw [show FP.l2d x = Core.l2d x from rfl, val64_l2d]
  refine own_dy_round hn (by omega) (by omega) ?_
  have : own_Dy (n * ((2 ^ k : Nat) : Int)) 0 (ofInt x.toInt) := own_dy0.mpr (h ▸ whole_ofInt _)
  have := own_dy_unscale k this
  rw [Int.zero_add] at this
  exact this
theorem own_zero_any (k : Int) : own_D 0 k (0 : UInt64) := own_d_0 (k := 0) own_d_zero
/-- the first term -/
theorem own_kahan0 {n : Int} {k : Nat} {t : UInt64} (ht : own_D n k t) (hn : n.natAbs ≤ 2 ^ 53) (hk : k ≤ 970) :
    own_D n k (FP.dsub t 0) ∧ own_D n k (FP.dadd 0 (FP.dsub t 0)) ∧ own_D n k (FP.dsub (FP.dadd 0 (FP.dsub t 0)) 0) ∧ own_D 0 k (FP.dsub (FP.dsub (FP.dadd 0 (FP.dsub t 0)) 0) (FP.dsub t 0)) := by
  have h1 : own_D n k (FP.dsub t 0) := by
    have := own_d_sub ht (own_zero_any k) (by omega) (by omega) (by omega)
    rwa [Int.sub_zero] at this
  have h2 : own_D n k (FP.dadd 0 (FP.dsub t 0)) := by
    have := own_d_add (own_zero_any k) h1 (by omega) (by omega) (by omega)
    rwa [Int.zero_add] at this
  have h3 : own_D n k (FP.dsub (FP.dadd 0 (FP.dsub t 0)) 0) := by
    have := own_d_sub h2 (own_zero_any k) (by omega) (by omega) (by omega)
    rwa [Int.sub_zero] at this
  have h4 : own_D 0 k (FP.dsub (FP.dsub (FP.dadd 0 (FP.dsub t 0)) 0) (FP.dsub t 0)) := by
    have := own_d_sub h3 h1 (by omega) (by omega) (by omega)
    rwa [Int.sub_self] at this
  exact ⟨h1, h2, h3, h4⟩
end OwnKahan
/-- a long moved left by a small int -/
theorem own_shl {u : Int32} {j : Nat} (hu : u.toInt = j) (hj : j < 64) (x : Int64) (h1 : -2 ^ 63 ≤ x.toInt * ((2 ^ j : Nat) : Int)) (h2 : x.toInt * ((2 ^ j : Nat) : Int) < 2 ^ 63) : (x <<< (u.toInt64 &&& 63)).toInt = x.toInt * ((2 ^ j : Nat) : Int) := by
  have he : u = Int32.ofNat j := by
    apply Int32.toInt_inj.mp
    rw [Int32.toInt_ofNat_of_lt (by omega)]
    omega
  subst he
  have hk : ((Int32.ofNat j).toInt64 &&& 63) = (Int32.ofNat j &&& 0x3f).toInt64 := by
    clear hu h1 h2
    revert hj
    revert j
    decide +kernel
  have hm : (Int32.ofNat j).toBitVec.toNat % 64 = j := by
    clear hu h1 h2 hk
    revert hj
    revert j
    decide +kernel
  have hc := c_lshl x (Int32.ofNat j) j hm
  rw [hk]
  have r := rng64 (x <<< (Int32.ofNat j &&& 0x3f).toInt64)
  generalize x.toInt * ((2 ^ j : Nat) : Int) = M at *
  omega
theorem own_pd___V : parseMethodDescriptor "()V" = some ⟨[], none⟩ := by decide +kernel
theorem own_pd__D_V : parseMethodDescriptor "(D)V" = some ⟨[.double], none⟩ := by decide +kernel
theorem own_pd___D : parseMethodDescriptor "()D" = some ⟨[], some .double⟩ := by decide +kernel
theorem d1_0 : decode prog_11_method_1_code 0 = .ok (.aload_n 0, 1) := by decide +kernel
theorem d1_1 : decode prog_11_method_1_code 1 = .ok (.invokespecial 1, 3) := by decide +kernel
theorem d1_4 : decode prog_11_method_1_code 4 = .ok (.return_, 1) := by decide +kernel
theorem own_pn_com_example_meticulous_ballot_meticulousballot_CompensatedSum : plainName "com/example/meticulous_ballot/meticulousballot/CompensatedSum" = true := by first | (simp [plainName, overriddenIn]; done) | decide +kernel
theorem own_ef1 (m : MethodId) (x0 : Addr) : entryFrame m #[(.ref x0)] 1 = mkF m 0 #[.val (.ref x0)] [] := by first | (simp [entryFrame, mkF, argsToLocals, Value.category]; done) | rfl
def Q2 (h0 : Heap) (n0 : Nat) (v : Option Value) (h : Heap) (L : List Loc) : Prop := v = none ∧ Fr n0 L ∧ h = h0
set_option maxRecDepth 65536 in
set_option maxHeartbeats 40000000 in
theorem rmI (l : Launch) (Z : State) (a0 : Array Value) (hw : ∀ d ∈ tables_1, d.before a0 Z = true) (ws : List Jvm.Cond) (a : Addr)  (h0 : Heap) (n0 : Nat) (Z0 : n0 ≤ h0.size)  :
    MetFree l (⟨"com/example/meticulous_ballot/meticulousballot/CompensatedSum", "<init>", "()V"⟩ : MethodName) (head1 (Jvm.Cond.code (⟨"com/example/meticulous_ballot/meticulousballot/CompensatedSum", "<init>", "()V"⟩ : MethodName) prog_11_method_1_code 1 none :: ws) ({ frames := 1, cells := 0, slots := 0, locals := 12 } : Room)) (fun α U => α = #[(.ref a)] ∧ Z.Warmed39 U.vm ∧ U.heap = h0) (fun _ _ _ _ _ => True) (fun _ U ω U' => ∃ ν Λ, ω = .returned ν ∧ Q2 h0 n0 ν U'.heap Λ ∧ FrameEnd U ω U' Λ ({ frames := 1, cells := 0, slots := 0, locals := 12 } : Room).cells ({ frames := 1, cells := 0, slots := 0, locals := 12 } : Room).slots) := by
  refine MetFree.of_bodySF (plainFor_of_name own_pn_com_example_meticulous_ballot_meticulousballot_CompensatedSum) hisR ?_
  intro p e s m args below meth c s₁ Bd hml0 hP hK
  obtain ⟨rfl, hZ, hh⟩ := hP
  have hx := Bd.exec
  have hby := Bd.bytes
  have hml : c.maxLocals = 1 := hml0
  have hown : s.vm.findClass "com/example/meticulous_ballot/meticulousballot/CompensatedSum" = some m.cls := findClass_of_methodNamed Bd.named
  have hnm := (name_of_methodNamed Bd.named Bd.method).1
  have X0 : Stand p l e ({ frames := 1, cells := 0, slots := 0, locals := 12 } : Room) s m #[(.ref a)] below meth c s₁ [] 0 0 := Stand.of_body Bd
  have e0 : s₁.heap = h0 := by rw [← hh, Bd.state]; rfl
  have N0 := Fr.nil n0
  have KK0 : Keep h0 h0 [] := Keep.refl h0 []
  have pre0 : ∀ τ, Steps p.tables e below (s₁.setTop (mkF m 0 #[.val (.ref a)] [])) τ → Steps p.tables e below (s₁.setTop (entryFrame m #[(.ref a)] 1)) τ := fun τ κ => castTop (own_ef1 m a) κ
  have pre1 : ∀ τ, Steps p.tables e below (s₁.setTop (mkF m 1 #[.val (.ref a)] [(.ref a)])) τ → Steps p.tables e below (s₁.setTop (entryFrame m #[(.ref a)] 1)) τ := fun τ kt => pre0 τ (by
    show Steps p.tables e below (s₁.setTop (mkF m 0 #[.val (.ref a)] [])) τ
    refine XS.aloadN X0.here hx rfl (hb hby d1_0) rfl rfl ?_
    exact kt)
  obtain ⟨T2, X2, e2, st2⟩ := initO X0 hx hZ hown (hw _ (List.mem_of_getElem? (i := 9) rfl)) (hw _ (List.mem_of_getElem? (i := 10) rfl)) (hw _ (List.mem_of_getElem? (i := 11) rfl)) e0 (g := (mkF m 1 #[.val (.ref a)] [(.ref a)])) rfl (by rw [hml]; rfl) rfl (hb hby d1_1) (by decide) (W := 0) (by show 2 * 0 + _ ≤ _; exact Nat.le_of_eq rfl) (by decide)
  have pre3 : ∀ τ, Steps p.tables e below (T2.setTop (mkF m 4 #[.val (.ref a)] [])) τ → Steps p.tables e below (s₁.setTop (entryFrame m #[(.ref a)] 1)) τ := fun τ kt => pre1 τ (st2 τ kt)
  obtain ⟨fs, hrL, hrun, hended, hW, hsame⟩ := X2.leave (v := none) (fun _ => rfl)
  refine ⟨_, _, pre3 _ ?_, hrun, hended, _, _, rfl, ?_, ⟨_, rfl⟩, hW, hsame.mono (by decide) (by decide)⟩
  · show Steps p.tables e below (T2.setTop (mkF m 4 #[.val (.ref a)] [])) _
    exact X2.returnOut hx Bd.returns (hb hby d1_4) hrL
  · show Q2 h0 n0 _ T2.heap _
    rw [e2]
    exact ⟨rfl, N0, rfl⟩
def own_kc (s e t : UInt64) : UInt64 := (FP.dsub t e)
def own_kn (s e t : UInt64) : UInt64 := (FP.dadd s (FP.dsub t e))
def own_kx (s e t : UInt64) : UInt64 := (FP.dsub (FP.dadd s (FP.dsub t e)) s)
def own_ke (s e t : UInt64) : UInt64 := (FP.dsub (FP.dsub (FP.dadd s (FP.dsub t e)) s) (FP.dsub t e))
theorem d3_0 : decode prog_11_method_2_code 0 = .ok (.dload_n 1, 1) := by decide +kernel
theorem d3_1 : decode prog_11_method_2_code 1 = .ok (.aload_n 0, 1) := by decide +kernel
theorem d3_2 : decode prog_11_method_2_code 2 = .ok (.getfield 7, 3) := by decide +kernel
theorem d3_5 : decode prog_11_method_2_code 5 = .ok (.dsub, 1) := by decide +kernel
theorem d3_6 : decode prog_11_method_2_code 6 = .ok (.dstore_n 3, 1) := by decide +kernel
theorem d3_7 : decode prog_11_method_2_code 7 = .ok (.aload_n 0, 1) := by decide +kernel
theorem d3_8 : decode prog_11_method_2_code 8 = .ok (.getfield 13, 3) := by decide +kernel
theorem d3_11 : decode prog_11_method_2_code 11 = .ok (.dload_n 3, 1) := by decide +kernel
theorem d3_12 : decode prog_11_method_2_code 12 = .ok (.dadd, 1) := by decide +kernel
theorem d3_13 : decode prog_11_method_2_code 13 = .ok (.dstore 5, 2) := by decide +kernel
theorem d3_15 : decode prog_11_method_2_code 15 = .ok (.aload_n 0, 1) := by decide +kernel
theorem d3_16 : decode prog_11_method_2_code 16 = .ok (.dload 5, 2) := by decide +kernel
theorem d3_18 : decode prog_11_method_2_code 18 = .ok (.aload_n 0, 1) := by decide +kernel
theorem d3_19 : decode prog_11_method_2_code 19 = .ok (.getfield 13, 3) := by decide +kernel
theorem d3_22 : decode prog_11_method_2_code 22 = .ok (.dsub, 1) := by decide +kernel
theorem d3_23 : decode prog_11_method_2_code 23 = .ok (.dload_n 3, 1) := by decide +kernel
theorem d3_24 : decode prog_11_method_2_code 24 = .ok (.dsub, 1) := by decide +kernel
theorem d3_25 : decode prog_11_method_2_code 25 = .ok (.putfield 7, 3) := by decide +kernel
theorem d3_28 : decode prog_11_method_2_code 28 = .ok (.aload_n 0, 1) := by decide +kernel
theorem d3_29 : decode prog_11_method_2_code 29 = .ok (.dload 5, 2) := by decide +kernel
theorem d3_31 : decode prog_11_method_2_code 31 = .ok (.putfield 13, 3) := by decide +kernel
theorem d3_34 : decode prog_11_method_2_code 34 = .ok (.return_, 1) := by decide +kernel
theorem own_ef3 (m : MethodId) (x0 : Addr) (x1 : UInt64) : entryFrame m #[(.ref x0), (.double x1)] 7 = mkF m 0 #[.val (.ref x0), .val (.double x1), .second, .unset, .unset, .unset, .unset] [] := by first | (simp [entryFrame, mkF, argsToLocals, Value.category]; done) | rfl
def QA (Z : State) (a : Addr) (n e : UInt64) (h0 : Heap) (n0 : Nat) (v : Option Value) (h : Heap) (L : List Loc) : Prop := v = none ∧ Fr n0 L ∧ Keep h0 h [a] ∧ Fld Z h a "com/example/meticulous_ballot/meticulousballot/CompensatedSum" "sum" "D" (.double n) ∧ Fld Z h a "com/example/meticulous_ballot/meticulousballot/CompensatedSum" "excess" "D" (.double e)
set_option maxRecDepth 65536 in
set_option maxHeartbeats 40000000 in
theorem rmA (l : Launch) (Z : State) (a0 : Array Value) (hw : ∀ d ∈ tables_1, d.before a0 Z = true) (ws : List Jvm.Cond) (a : Addr) (t : UInt64) (s_ e_ : UInt64) (h0 : Heap) (n0 : Nat) (Z0 : n0 ≤ h0.size) (E7 : Exa Z h0 a "com/example/meticulous_ballot/meticulousballot/CompensatedSum") (F1 : Fld Z h0 a "com/example/meticulous_ballot/meticulousballot/CompensatedSum" "sum" "D" (.double s_)) (F2 : Fld Z h0 a "com/example/meticulous_ballot/meticulousballot/CompensatedSum" "excess" "D" (.double e_)) (ga : n0 ≤ a) (k1 : Jvm.Free.Fl.NoNaN64 (own_kc s_ e_ t)) (k2 : Jvm.Free.Fl.NoNaN64 (own_kn s_ e_ t)) (k3 : Jvm.Free.Fl.NoNaN64 (own_kx s_ e_ t)) (k4 : Jvm.Free.Fl.NoNaN64 (own_ke s_ e_ t)) :
    MetFree l (⟨"com/example/meticulous_ballot/meticulousballot/CompensatedSum", "add", "(D)V"⟩ : MethodName) (head1 (Jvm.Cond.code (⟨"com/example/meticulous_ballot/meticulousballot/CompensatedSum", "add", "(D)V"⟩ : MethodName) prog_11_method_2_code 7 none :: ws) ({ frames := 0, cells := 0, slots := 0, locals := 0 } : Room)) (fun α U => α = #[(.ref a), (.double t)] ∧ Z.Warmed39 U.vm ∧ U.heap = h0) (fun _ _ _ _ _ => True) (fun _ U ω U' => ∃ ν Λ, ω = .returned ν ∧ QA Z a (own_kn s_ e_ t) (own_ke s_ e_ t) h0 n0 ν U'.heap Λ ∧ FrameEnd U ω U' Λ ({ frames := 0, cells := 0, slots := 0, locals := 0 } : Room).cells ({ frames := 0, cells := 0, slots := 0, locals := 0 } : Room).slots) := by
  refine MetFree.of_bodySF (plainFor_of_name own_pn_com_example_meticulous_ballot_meticulousballot_CompensatedSum) hisR ?_
  intro p e s m args below meth c s₁ Bd hml0 hP hK
  obtain ⟨rfl, hZ, hh⟩ := hP
  have hx := Bd.exec
  have hby := Bd.bytes
  have hml : c.maxLocals = 7 := hml0
  have hown : s.vm.findClass "com/example/meticulous_ballot/meticulousballot/CompensatedSum" = some m.cls := findClass_of_methodNamed Bd.named
  have hnm := (name_of_methodNamed Bd.named Bd.method).1
  have X0 : Stand p l e ({ frames := 0, cells := 0, slots := 0, locals := 0 } : Room) s m #[(.ref a), (.double t)] below meth c s₁ [] 0 0 := Stand.of_body Bd
  have e0 : s₁.heap = h0 := by rw [← hh, Bd.state]; rfl
  have N0 := Fr.nil n0
  have KK0 : Keep h0 h0 [a] := Keep.refl h0 [a]
  have pre0 : ∀ τ, Steps p.tables e below (s₁.setTop (mkF m 0 #[.val (.ref a), .val (.double t), .second, .unset, .unset, .unset, .unset] [])) τ → Steps p.tables e below (s₁.setTop (entryFrame m #[(.ref a), (.double t)] 7)) τ := fun τ κ => castTop (own_ef3 m a t) κ
  have pre4 : ∀ τ, Steps p.tables e below (s₁.setTop (mkF m 2 #[.val (.ref a), .val (.double t), .second, .unset, .unset, .unset, .unset] [(.ref a), (.double t)])) τ → Steps p.tables e below (s₁.setTop (entryFrame m #[(.ref a), (.double t)] 7)) τ := fun τ kt => pre0 τ (by
    show Steps p.tables e below (s₁.setTop (mkF m 0 #[.val (.ref a), .val (.double t), .second, .unset, .unset, .unset, .unset] [])) τ
    refine own_dloadN X0.here hx rfl (hb hby d3_0) rfl ?_
    show Steps p.tables e below (s₁.setTop (mkF m 1 #[.val (.ref a), .val (.double t), .second, .unset, .unset, .unset, .unset] [(.double t)])) τ
    refine XS.aloadN X0.here hx rfl (hb hby d3_1) rfl rfl ?_
    exact kt)
  obtain ⟨T5, X5, e5, st5⟩ := getF X0 hx hZ hown (host := "") (Or.inl (hw _ (List.mem_of_getElem? (i := 17) rfl))) Via.refl e0 F2 (g := (mkF m 2 #[.val (.ref a), .val (.double t), .second, .unset, .unset, .unset, .unset] [(.ref a), (.double t)])) rfl rfl (hb hby d3_2)
  have pre6 : ∀ τ, Steps p.tables e below (T5.setTop (mkF m 5 #[.val (.ref a), .val (.double t), .second, .unset, .unset, .unset, .unset] [(.double e_), (.double t)])) τ → Steps p.tables e below (s₁.setTop (entryFrame m #[(.ref a), (.double t)] 7)) τ := fun τ kt => pre4 τ (st5 τ kt)
  have pre7 : ∀ τ, Steps p.tables e below (T5.setTop (mkF m 8 #[.val (.ref a), .val (.double t), .second, .val (.double (FP.dsub t e_)), .second, .unset, .unset] [(.ref a)])) τ → Steps p.tables e below (s₁.setTop (entryFrame m #[(.ref a), (.double t)] 7)) τ := fun τ kt => pre6 τ (by
    show Steps p.tables e below (T5.setTop (mkF m 5 #[.val (.ref a), .val (.double t), .second, .unset, .unset, .unset, .unset] [(.double e_), (.double t)])) τ
    refine own_dsub X5.here hx rfl (hb hby d3_5) rfl (k1) ?_
    show Steps p.tables e below (T5.setTop (mkF m 6 #[.val (.ref a), .val (.double t), .second, .unset, .unset, .unset, .unset] [(.double (FP.dsub t e_))])) τ
    refine own_dstoreN X5.here hx rfl (hb hby d3_6) rfl (l' := #[.val (.ref a), .val (.double t), .second, .val (.double (FP.dsub t e_)), .second, .unset, .unset]) rfl ?_
    show Steps p.tables e below (T5.setTop (mkF m 7 #[.val (.ref a), .val (.double t), .second, .val (.double (FP.dsub t e_)), .second, .unset, .unset] [])) τ
    refine XS.aloadN X5.here hx rfl (hb hby d3_7) rfl rfl ?_
    exact kt)
  obtain ⟨T8, X8, e8, st8⟩ := getF X5 hx hZ hown (host := "") (Or.inl (hw _ (List.mem_of_getElem? (i := 19) rfl))) Via.refl e5 F1 (g := (mkF m 8 #[.val (.ref a), .val (.double t), .second, .val (.double (FP.dsub t e_)), .second, .unset, .unset] [(.ref a)])) rfl rfl (hb hby d3_8)
  have pre9 : ∀ τ, Steps p.tables e below (T8.setTop (mkF m 11 #[.val (.ref a), .val (.double t), .second, .val (.double (FP.dsub t e_)), .second, .unset, .unset] [(.double s_)])) τ → Steps p.tables e below (s₁.setTop (entryFrame m #[(.ref a), (.double t)] 7)) τ := fun τ kt => pre7 τ (st8 τ kt)
  have pre10 : ∀ τ, Steps p.tables e below (T8.setTop (mkF m 19 #[.val (.ref a), .val (.double t), .second, .val (.double (FP.dsub t e_)), .second, .val (.double (FP.dadd s_ (FP.dsub t e_))), .second] [(.ref a), (.double (FP.dadd s_ (FP.dsub t e_))), (.ref a)])) τ → Steps p.tables e below (s₁.setTop (entryFrame m #[(.ref a), (.double t)] 7)) τ := fun τ kt => pre9 τ (by
    show Steps p.tables e below (T8.setTop (mkF m 11 #[.val (.ref a), .val (.double t), .second, .val (.double (FP.dsub t e_)), .second, .unset, .unset] [(.double s_)])) τ
    refine own_dloadN X8.here hx rfl (hb hby d3_11) rfl ?_
    show Steps p.tables e below (T8.setTop (mkF m 12 #[.val (.ref a), .val (.double t), .second, .val (.double (FP.dsub t e_)), .second, .unset, .unset] [(.double (FP.dsub t e_)), (.double s_)])) τ
    refine own_dadd X8.here hx rfl (hb hby d3_12) rfl (k2) ?_
    show Steps p.tables e below (T8.setTop (mkF m 13 #[.val (.ref a), .val (.double t), .second, .val (.double (FP.dsub t e_)), .second, .unset, .unset] [(.double (FP.dadd s_ (FP.dsub t e_)))])) τ
    refine own_dstore X8.here hx rfl (hb hby d3_13) rfl (l' := #[.val (.ref a), .val (.double t), .second, .val (.double (FP.dsub t e_)), .second, .val (.double (FP.dadd s_ (FP.dsub t e_))), .second]) rfl ?_
    show Steps p.tables e below (T8.setTop (mkF m 15 #[.val (.ref a), .val (.double t), .second, .val (.double (FP.dsub t e_)), .second, .val (.double (FP.dadd s_ (FP.dsub t e_))), .second] [])) τ
    refine XS.aloadN X8.here hx rfl (hb hby d3_15) rfl rfl ?_
    show Steps p.tables e below (T8.setTop (mkF m 16 #[.val (.ref a), .val (.double t), .second, .val (.double (FP.dsub t e_)), .second, .val (.double (FP.dadd s_ (FP.dsub t e_))), .second] [(.ref a)])) τ
    refine own_dload X8.here hx rfl (hb hby d3_16) rfl ?_
    show Steps p.tables e below (T8.setTop (mkF m 18 #[.val (.ref a), .val (.double t), .second, .val (.double (FP.dsub t e_)), .second, .val (.double (FP.dadd s_ (FP.dsub t e_))), .second] [(.double (FP.dadd s_ (FP.dsub t e_))), (.ref a)])) τ
    refine XS.aloadN X8.here hx rfl (hb hby d3_18) rfl rfl ?_
    exact kt)
  obtain ⟨T11, X11, e11, st11⟩ := getF X8 hx hZ hown (host := "") (Or.inl (hw _ (List.mem_of_getElem? (i := 19) rfl))) Via.refl e8 F1 (g := (mkF m 19 #[.val (.ref a), .val (.double t), .second, .val (.double (FP.dsub t e_)), .second, .val (.double (FP.dadd s_ (FP.dsub t e_))), .second] [(.ref a), (.double (FP.dadd s_ (FP.dsub t e_))), (.ref a)])) rfl rfl (hb hby d3_19)
  have pre12 : ∀ τ, Steps p.tables e below (T11.setTop (mkF m 22 #[.val (.ref a), .val (.double t), .second, .val (.double (FP.dsub t e_)), .second, .val (.double (FP.dadd s_ (FP.dsub t e_))), .second] [(.double s_), (.double (FP.dadd s_ (FP.dsub t e_))), (.ref a)])) τ → Steps p.tables e below (s₁.setTop (entryFrame m #[(.ref a), (.double t)] 7)) τ := fun τ kt => pre10 τ (st11 τ kt)
  have pre13 : ∀ τ, Steps p.tables e below (T11.setTop (mkF m 25 #[.val (.ref a), .val (.double t), .second, .val (.double (FP.dsub t e_)), .second, .val (.double (FP.dadd s_ (FP.dsub t e_))), .second] [(.double (FP.dsub (FP.dsub (FP.dadd s_ (FP.dsub t e_)) s_) (FP.dsub t e_))), (.ref a)])) τ → Steps p.tables e below (s₁.setTop (entryFrame m #[(.ref a), (.double t)] 7)) τ := fun τ kt => pre12 τ (by
    show Steps p.tables e below (T11.setTop (mkF m 22 #[.val (.ref a), .val (.double t), .second, .val (.double (FP.dsub t e_)), .second, .val (.double (FP.dadd s_ (FP.dsub t e_))), .second] [(.double s_), (.double (FP.dadd s_ (FP.dsub t e_))), (.ref a)])) τ
    refine own_dsub X11.here hx rfl (hb hby d3_22) rfl (k3) ?_
    show Steps p.tables e below (T11.setTop (mkF m 23 #[.val (.ref a), .val (.double t), .second, .val (.double (FP.dsub t e_)), .second, .val (.double (FP.dadd s_ (FP.dsub t e_))), .second] [(.double (FP.dsub (FP.dadd s_ (FP.dsub t e_)) s_)), (.ref a)])) τ
    refine own_dloadN X11.here hx rfl (hb hby d3_23) rfl ?_
    show Steps p.tables e below (T11.setTop (mkF m 24 #[.val (.ref a), .val (.double t), .second, .val (.double (FP.dsub t e_)), .second, .val (.double (FP.dadd s_ (FP.dsub t e_))), .second] [(.double (FP.dsub t e_)), (.double (FP.dsub (FP.dadd s_ (FP.dsub t e_)) s_)), (.ref a)])) τ
    refine own_dsub X11.here hx rfl (hb hby d3_24) rfl (k4) ?_
    exact kt)
  obtain ⟨T14, h14, X14, e14, W14, st14⟩ := putF X11 hx hZ hown (host := "") (Or.inl (hw _ (List.mem_of_getElem? (i := 17) rfl))) Via.refl e11 F2 E7 (Or.inl (hw _ (List.mem_of_getElem? (i := 18) rfl))) (hw _ (List.mem_of_getElem? (i := 4) rfl)) (ty := .double) (by decide) rfl rfl (g := (mkF m 25 #[.val (.ref a), .val (.double t), .second, .val (.double (FP.dsub t e_)), .second, .val (.double (FP.dadd s_ (FP.dsub t e_))), .second] [(.double (FP.dsub (FP.dsub (FP.dadd s_ (FP.dsub t e_)) s_) (FP.dsub t e_))), (.ref a)])) rfl rfl (hb hby d3_25)
  have fw14 := Fld.same W14 F2
  have N14 := Fr.snoc X14 N0 ga
  have K14 : Keep h0 h14 [a] := KK0.wr W14 (Or.inl (by simp))
  have pre15 : ∀ τ, Steps p.tables e below (T14.setTop (mkF m 28 #[.val (.ref a), .val (.double t), .second, .val (.double (FP.dsub t e_)), .second, .val (.double (FP.dadd s_ (FP.dsub t e_))), .second] [])) τ → Steps p.tables e below (s₁.setTop (entryFrame m #[(.ref a), (.double t)] 7)) τ := fun τ kt => pre13 τ (st14 τ kt)
  have pre16 : ∀ τ, Steps p.tables e below (T14.setTop (mkF m 31 #[.val (.ref a), .val (.double t), .second, .val (.double (FP.dsub t e_)), .second, .val (.double (FP.dadd s_ (FP.dsub t e_))), .second] [(.double (FP.dadd s_ (FP.dsub t e_))), (.ref a)])) τ → Steps p.tables e below (s₁.setTop (entryFrame m #[(.ref a), (.double t)] 7)) τ := fun τ kt => pre15 τ (by
    show Steps p.tables e below (T14.setTop (mkF m 28 #[.val (.ref a), .val (.double t), .second, .val (.double (FP.dsub t e_)), .second, .val (.double (FP.dadd s_ (FP.dsub t e_))), .second] [])) τ
    refine XS.aloadN X14.here hx rfl (hb hby d3_28) rfl rfl ?_
    show Steps p.tables e below (T14.setTop (mkF m 29 #[.val (.ref a), .val (.double t), .second, .val (.double (FP.dsub t e_)), .second, .val (.double (FP.dadd s_ (FP.dsub t e_))), .second] [(.ref a)])) τ
    refine own_dload X14.here hx rfl (hb hby d3_29) rfl ?_
    exact kt)
  have f18 := (F1.other W14 (Or.inr (slot_ne (Or.inl (hw _ (List.mem_of_getElem? (i := 20) rfl))) (Or.inl (hw _ (List.mem_of_getElem? (i := 18) rfl))) (by decide) (t := .double) (t' := .double) (by decide) (by decide))))
  have f19 := E7.wr W14
  obtain ⟨T17, h17, X17, e17, W17, st17⟩ := putF X14 hx hZ hown (host := "") (Or.inl (hw _ (List.mem_of_getElem? (i := 19) rfl))) Via.refl e14 f18 f19 (Or.inl (hw _ (List.mem_of_getElem? (i := 20) rfl))) (hw _ (List.mem_of_getElem? (i := 4) rfl)) (ty := .double) (by decide) rfl rfl (g := (mkF m 31 #[.val (.ref a), .val (.double t), .second, .val (.double (FP.dsub t e_)), .second, .val (.double (FP.dadd s_ (FP.dsub t e_))), .second] [(.double (FP.dadd s_ (FP.dsub t e_))), (.ref a)])) rfl rfl (hb hby d3_31)
  have fw17 := Fld.same W17 f18
  have N17 := Fr.snoc X17 N14 ga
  have K17 : Keep h0 h17 [a] := K14.wr W17 (Or.inl (by simp))
  have pre20 : ∀ τ, Steps p.tables e below (T17.setTop (mkF m 34 #[.val (.ref a), .val (.double t), .second, .val (.double (FP.dsub t e_)), .second, .val (.double (FP.dadd s_ (FP.dsub t e_))), .second] [])) τ → Steps p.tables e below (s₁.setTop (entryFrame m #[(.ref a), (.double t)] 7)) τ := fun τ kt => pre16 τ (st17 τ kt)
  have f21 := (fw14.other W17 (Or.inr (slot_ne (Or.inl (hw _ (List.mem_of_getElem? (i := 18) rfl))) (Or.inl (hw _ (List.mem_of_getElem? (i := 20) rfl))) (by decide) (t := .double) (t' := .double) (by decide) (by decide))))
  obtain ⟨fs, hrL, hrun, hended, hW, hsame⟩ := X17.leave (v := none) (fun _ => rfl)
  refine ⟨_, _, pre20 _ ?_, hrun, hended, _, _, rfl, ?_, ⟨_, rfl⟩, hW, hsame.mono (by decide) (by decide)⟩
  · show Steps p.tables e below (T17.setTop (mkF m 34 #[.val (.ref a), .val (.double t), .second, .val (.double (FP.dsub t e_)), .second, .val (.double (FP.dadd s_ (FP.dsub t e_))), .second] [])) _
    exact X17.returnOut hx Bd.returns (hb hby d3_34) hrL
  · show QA Z a (own_kn s_ e_ t) (own_ke s_ e_ t) h0 n0 _ T17.heap _
    rw [e17]
    exact ⟨rfl, N17, K17, fw17, f21⟩
theorem d4_0 : decode prog_11_method_3_code 0 = .ok (.aload_n 0, 1) := by decide +kernel
theorem d4_1 : decode prog_11_method_3_code 1 = .ok (.getfield 13, 3) := by decide +kernel
theorem d4_4 : decode prog_11_method_3_code 4 = .ok (.dreturn, 1) := by decide +kernel
theorem own_ef4 (m : MethodId) (x0 : Addr) : entryFrame m #[(.ref x0)] 1 = mkF m 0 #[.val (.ref x0)] [] := by first | (simp [entryFrame, mkF, argsToLocals, Value.category]; done) | rfl
def QV (s_ : UInt64) (h0 : Heap) (n0 : Nat) (v : Option Value) (h : Heap) (L : List Loc) : Prop := v = some (.double s_) ∧ Fr n0 L ∧ h = h0
set_option maxRecDepth 65536 in
set_option maxHeartbeats 40000000 in
theorem rmV (l : Launch) (Z : State) (a0 : Array Value) (hw : ∀ d ∈ tables_1, d.before a0 Z = true) (ws : List Jvm.Cond) (a : Addr) (s_ : UInt64) (h0 : Heap) (n0 : Nat) (Z0 : n0 ≤ h0.size) (F1 : Fld Z h0 a "com/example/meticulous_ballot/meticulousballot/CompensatedSum" "sum" "D" (.double s_)) :
    MetFree l (⟨"com/example/meticulous_ballot/meticulousballot/CompensatedSum", "value", "()D"⟩ : MethodName) (head1 (Jvm.Cond.code (⟨"com/example/meticulous_ballot/meticulousballot/CompensatedSum", "value", "()D"⟩ : MethodName) prog_11_method_3_code 1 (some .double) :: ws) ({ frames := 0, cells := 0, slots := 0, locals := 0 } : Room)) (fun α U => α = #[(.ref a)] ∧ Z.Warmed39 U.vm ∧ U.heap = h0) (fun _ _ _ _ _ => True) (fun _ U ω U' => ∃ ν Λ, ω = .returned ν ∧ QV s_ h0 n0 ν U'.heap Λ ∧ FrameEnd U ω U' Λ ({ frames := 0, cells := 0, slots := 0, locals := 0 } : Room).cells ({ frames := 0, cells := 0, slots := 0, locals := 0 } : Room).slots) := by
  refine MetFree.of_bodySF (plainFor_of_name own_pn_com_example_meticulous_ballot_meticulousballot_CompensatedSum) hisR ?_
  intro p e s m args below meth c s₁ Bd hml0 hP hK
  obtain ⟨rfl, hZ, hh⟩ := hP
  have hx := Bd.exec
  have hby := Bd.bytes
  have hml : c.maxLocals = 1 := hml0
  have hown : s.vm.findClass "com/example/meticulous_ballot/meticulousballot/CompensatedSum" = some m.cls := findClass_of_methodNamed Bd.named
  have hnm := (name_of_methodNamed Bd.named Bd.method).1
  have X0 : Stand p l e ({ frames := 0, cells := 0, slots := 0, locals := 0 } : Room) s m #[(.ref a)] below meth c s₁ [] 0 0 := Stand.of_body Bd
  have e0 : s₁.heap = h0 := by rw [← hh, Bd.state]; rfl
  have N0 := Fr.nil n0
  have KK0 : Keep h0 h0 [] := Keep.refl h0 []
  have pre0 : ∀ τ, Steps p.tables e below (s₁.setTop (mkF m 0 #[.val (.ref a)] [])) τ → Steps p.tables e below (s₁.setTop (entryFrame m #[(.ref a)] 1)) τ := fun τ κ => castTop (own_ef4 m a) κ
  have pre22 : ∀ τ, Steps p.tables e below (s₁.setTop (mkF m 1 #[.val (.ref a)] [(.ref a)])) τ → Steps p.tables e below (s₁.setTop (entryFrame m #[(.ref a)] 1)) τ := fun τ kt => pre0 τ (by
    show Steps p.tables e below (s₁.setTop (mkF m 0 #[.val (.ref a)] [])) τ
    refine XS.aloadN X0.here hx rfl (hb hby d4_0) rfl rfl ?_
    exact kt)
  obtain ⟨T23, X23, e23, st23⟩ := getF X0 hx hZ hown (host := "") (Or.inl (hw _ (List.mem_of_getElem? (i := 19) rfl))) Via.refl e0 F1 (g := (mkF m 1 #[.val (.ref a)] [(.ref a)])) rfl rfl (hb hby d4_1)
  have pre24 : ∀ τ, Steps p.tables e below (T23.setTop (mkF m 4 #[.val (.ref a)] [(.double s_)])) τ → Steps p.tables e below (s₁.setTop (entryFrame m #[(.ref a)] 1)) τ := fun τ kt => pre22 τ (st23 τ kt)
  obtain ⟨fs, hrL, hrun, hended, hW, hsame⟩ := X23.leave (v := some (.double s_)) (fun h => by rw [Bd.returns] at h; cases h)
  refine ⟨_, _, pre24 _ ?_, hrun, hended, _, _, rfl, ?_, ⟨_, rfl⟩, hW, hsame.mono (by decide) (by decide)⟩
  · show Steps p.tables e below (T23.setTop (mkF m 4 #[.val (.ref a)] [(.double s_)])) _
    exact own_retD X23 hx Bd.returns (hb hby d4_4) hrL
  · show QV s_ h0 n0 _ T23.heap _
    rw [e23]
    exact ⟨rfl, N0, rfl⟩
theorem own_sh42 (x : Int32) : ∃ j : Nat, j ≤ 41 ∧ ((x &&& (2147483647 : Int32)) % (42 : Int32)).toInt = j := by
  have hb := c_and x 2147483647 (by decide)
  generalize x &&& 2147483647 = u at *
  have := (c_irem u 42 42 (by decide)).1 hb.1
  exact ⟨(u % 42).toInt.toNat, by omega, by omega⟩
theorem own_rem20 (x : Int32) : ((x % (1048576 : Int32)).toInt64).toInt.natAbs ≤ 1048575 := by
  rw [c_i2l]
  have h := c_irem x 1048576 1048576 (by decide)
  by_cases h0 : 0 ≤ x.toInt
  · have := h.1 h0; omega
  · have := h.2 (by omega); omega
theorem own_m21 (x : Int32) : 0 ≤ ((x &&& (2097151 : Int32)).toInt64).toInt ∧ ((x &&& (2097151 : Int32)).toInt64).toInt ≤ 2097151 := by
  rw [c_i2l]
  exact c_and x 2097151 (by decide)
/-- the big term -/
theorem own_big (m sh : Int32) : ∃ (n : Int) (k : Nat), n.natAbs ≤ 2097151 ∧ k ≤ 41 ∧ (((m &&& (2097151 : Int32)).toInt64 <<< (((sh &&& (2147483647 : Int32)) % (42 : Int32)).toInt64 &&& 63))).toInt = n * ((2 ^ k : Nat) : Int) ∧ (-((m &&& (2097151 : Int32)).toInt64 <<< (((sh &&& (2147483647 : Int32)) % (42 : Int32)).toInt64 &&& 63))).toInt = -n * ((2 ^ k : Nat) : Int) ∧ (n * ((2 ^ k : Nat) : Int)).natAbs ≤ 2 ^ 62 := by
  obtain ⟨j, hj, he⟩ := own_sh42 sh
  obtain ⟨h1, h2⟩ := own_m21 m
  generalize (sh &&& (2147483647 : Int32)) % (42 : Int32) = u at *
  generalize (m &&& (2097151 : Int32)).toInt64 = x at *
  have p : (2 ^ j : Nat) ≤ 2 ^ 41 := Nat.pow_le_pow_right (by decide) hj
  have p0 := Nat.two_pow_pos j
  have q1 : x.toInt * ((2 ^ j : Nat) : Int) ≤ 2097151 * ((2 ^ j : Nat) : Int) := Int.mul_le_mul_of_nonneg_right h2 (by omega)
  have q2 : 0 ≤ x.toInt * ((2 ^ j : Nat) : Int) := Int.mul_nonneg h1 (by omega)
  have hs := own_shl he (by omega) x (by omega) (by omega)
  refine ⟨x.toInt, j, by omega, hj, hs, ?_, by omega⟩
  have hn := c_lneg (x <<< (u.toInt64 &&& 63))
  have r := rng64 (-(x <<< (u.toInt64 &&& 63)))
  rw [hs] at hn
  rw [Int.neg_mul]
  generalize x.toInt * ((2 ^ j : Nat) : Int) = M at *
  omega
theorem own_ladd {x y : Int64} (h1 : -2 ^ 63 ≤ x.toInt + y.toInt) (h2 : x.toInt + y.toInt < 2 ^ 63) : (x + y).toInt = x.toInt + y.toInt := FP.Core.int64_add h1 h2
theorem own_pn_com_example_meticulous_ballot_meticulousballot_CompensatedSumAddPinLaw : plainName "com/example/meticulous_ballot/meticulousballot/CompensatedSumAddPinLaw" = true := by first | (simp [plainName, overriddenIn]; done) | decide +kernel
theorem own_ef0 (m : MethodId) (x0 : Int32) (x1 : Int32) (x2 : Int32) (x3 : Int32) (x4 : Int32) (x5 : Int32) : entryFrame m #[(.int x0), (.int x1), (.int x2), (.int x3), (.int x4), (.int x5)] maxLocals = mkF m 0 #[.val (.int x0), .val (.int x1), .val (.int x2), .val (.int x3), .val (.int x4), .val (.int x5), .unset, .unset, .unset, .unset, .unset, .unset, .unset, .unset, .unset, .unset, .unset, .unset, .unset] [] := by first | (simp [entryFrame, mkF, argsToLocals, Value.category, maxLocals]; done) | rfl
def Q0 (n0 : Nat) (v : Option Value) (h : Heap) (L : List Loc) : Prop := v = some (.int 1) ∧ Fr n0 L
set_option maxRecDepth 65536 in
set_option maxHeartbeats 40000000 in
theorem rm0 (l : Launch) (Z : State) (a0 : Array Value) (hw : ∀ d ∈ tables_1, d.before a0 Z = true) (ws : List Jvm.Cond) (p1 : Int32) (p2 : Int32) (p3 : Int32) (p4 : Int32) (p5 : Int32) (p6 : Int32)  (h0 : Heap) (n0 : Nat) (Z0 : n0 ≤ h0.size)  :
    MetFree l x (head1 (Jvm.Cond.code x code maxLocals ret :: ws) room_1) (fun α U => α = #[(.int p1), (.int p2), (.int p3), (.int p4), (.int p5), (.int p6)] ∧ Z.Warmed39 U.vm ∧ U.heap = h0) (fun _ _ _ _ _ => True) (fun _ U ω U' => ∃ ν Λ, ω = .returned ν ∧ Q0 n0 ν U'.heap Λ ∧ FrameEnd U ω U' Λ room_1.cells room_1.slots) := by
  refine MetFree.of_bodySF (plainFor_of_name own_pn_com_example_meticulous_ballot_meticulousballot_CompensatedSumAddPinLaw) hisR ?_
  intro p e s m args below meth c s₁ Bd hml0 hP hK
  obtain ⟨rfl, hZ, hh⟩ := hP
  have hx := Bd.exec
  have hby := Bd.bytes
  have hml : c.maxLocals = 19 := hml0
  have hown : s.vm.findClass "com/example/meticulous_ballot/meticulousballot/CompensatedSumAddPinLaw" = some m.cls := findClass_of_methodNamed Bd.named
  have hnm := (name_of_methodNamed Bd.named Bd.method).1
  have X0 : Stand p l e room_1 s m #[(.int p1), (.int p2), (.int p3), (.int p4), (.int p5), (.int p6)] below meth c s₁ [] 0 0 := Stand.of_body Bd
  have e0 : s₁.heap = h0 := by rw [← hh, Bd.state]; rfl
  have N0 := Fr.nil n0
  have KK0 : Keep h0 h0 [] := Keep.refl h0 []
  have pre0 : ∀ τ, Steps p.tables e below (s₁.setTop (mkF m 0 #[.val (.int p1), .val (.int p2), .val (.int p3), .val (.int p4), .val (.int p5), .val (.int p6), .unset, .unset, .unset, .unset, .unset, .unset, .unset, .unset, .unset, .unset, .unset, .unset, .unset] [])) τ → Steps p.tables e below (s₁.setTop (entryFrame m #[(.int p1), (.int p2), (.int p3), (.int p4), (.int p5), (.int p6)] maxLocals)) τ := fun τ κ => castTop (own_ef0 m p1 p2 p3 p4 p5 p6) κ
  obtain ⟨n, k, hn, hk, hb1, hb2, hb3⟩ := own_big p1 p2
  have pre25 : ∀ τ, Steps p.tables e below (s₁.setTop (mkF m 26 #[.val (.int p1), .val (.int p2), .val (.int p3), .val (.int p4), .val (.int p5), .val (.int p6), .val (.long ((p1 &&& (2097151 : Int32))).toInt64), .second, .val (.int ((p2 &&& (2147483647 : Int32)) % (42 : Int32))), .val (.long (((p1 &&& (2097151 : Int32))).toInt64 <<< (((p2 &&& (2147483647 : Int32)) % (42 : Int32)).toInt64 &&& 63))), .second, .unset, .unset, .unset, .unset, .unset, .unset, .unset, .unset] [(.int (p3 &&& (1 : Int32)))])) τ → Steps p.tables e below (s₁.setTop (entryFrame m #[(.int p1), (.int p2), (.int p3), (.int p4), (.int p5), (.int p6)] maxLocals)) τ := fun τ kt => pre0 τ (by
    show Steps p.tables e below (s₁.setTop (mkF m 0 #[.val (.int p1), .val (.int p2), .val (.int p3), .val (.int p4), .val (.int p5), .val (.int p6), .unset, .unset, .unset, .unset, .unset, .unset, .unset, .unset, .unset, .unset, .unset, .unset, .unset] [])) τ
    refine XS.iloadN X0.here hx rfl (hb hby at_0) rfl ?_
    show Steps p.tables e below (s₁.setTop (mkF m 1 #[.val (.int p1), .val (.int p2), .val (.int p3), .val (.int p4), .val (.int p5), .val (.int p6), .unset, .unset, .unset, .unset, .unset, .unset, .unset, .unset, .unset, .unset, .unset, .unset, .unset] [(.int p1)])) τ
    refine X0.ldcInt hx hown (mvT hZ (hw _ (List.mem_of_getElem? (i := 0) rfl))) (g := (mkF m 1 #[.val (.int p1), .val (.int p2), .val (.int p3), .val (.int p4), .val (.int p5), .val (.int p6), .unset, .unset, .unset, .unset, .unset, .unset, .unset, .unset, .unset, .unset, .unset, .unset, .unset] [(.int p1)])) rfl (hb hby at_1) _ ?_
    show Steps p.tables e below (s₁.setTop (mkF m 3 #[.val (.int p1), .val (.int p2), .val (.int p3), .val (.int p4), .val (.int p5), .val (.int p6), .unset, .unset, .unset, .unset, .unset, .unset, .unset, .unset, .unset, .unset, .unset, .unset, .unset] [(.int (2097151 : Int32)), (.int p1)])) τ
    refine XS.iand X0.here hx rfl (hb hby at_3) rfl ?_
    show Steps p.tables e below (s₁.setTop (mkF m 4 #[.val (.int p1), .val (.int p2), .val (.int p3), .val (.int p4), .val (.int p5), .val (.int p6), .unset, .unset, .unset, .unset, .unset, .unset, .unset, .unset, .unset, .unset, .unset, .unset, .unset] [(.int (p1 &&& (2097151 : Int32)))])) τ
    refine XT.i2l X0.here hx rfl (hb hby at_4) rfl ?_
    show Steps p.tables e below (s₁.setTop (mkF m 5 #[.val (.int p1), .val (.int p2), .val (.int p3), .val (.int p4), .val (.int p5), .val (.int p6), .unset, .unset, .unset, .unset, .unset, .unset, .unset, .unset, .unset, .unset, .unset, .unset, .unset] [(.long ((p1 &&& (2097151 : Int32))).toInt64)])) τ
    refine XT.lstore X0.here hx rfl (hb hby at_5) rfl (l' := #[.val (.int p1), .val (.int p2), .val (.int p3), .val (.int p4), .val (.int p5), .val (.int p6), .val (.long ((p1 &&& (2097151 : Int32))).toInt64), .second, .unset, .unset, .unset, .unset, .unset, .unset, .unset, .unset, .unset, .unset, .unset]) rfl ?_
    show Steps p.tables e below (s₁.setTop (mkF m 7 #[.val (.int p1), .val (.int p2), .val (.int p3), .val (.int p4), .val (.int p5), .val (.int p6), .val (.long ((p1 &&& (2097151 : Int32))).toInt64), .second, .unset, .unset, .unset, .unset, .unset, .unset, .unset, .unset, .unset, .unset, .unset] [])) τ
    refine XS.iloadN X0.here hx rfl (hb hby at_7) rfl ?_
    show Steps p.tables e below (s₁.setTop (mkF m 8 #[.val (.int p1), .val (.int p2), .val (.int p3), .val (.int p4), .val (.int p5), .val (.int p6), .val (.long ((p1 &&& (2097151 : Int32))).toInt64), .second, .unset, .unset, .unset, .unset, .unset, .unset, .unset, .unset, .unset, .unset, .unset] [(.int p2)])) τ
    refine X0.ldcInt hx hown (mvT hZ (hw _ (List.mem_of_getElem? (i := 1) rfl))) (g := (mkF m 8 #[.val (.int p1), .val (.int p2), .val (.int p3), .val (.int p4), .val (.int p5), .val (.int p6), .val (.long ((p1 &&& (2097151 : Int32))).toInt64), .second, .unset, .unset, .unset, .unset, .unset, .unset, .unset, .unset, .unset, .unset, .unset] [(.int p2)])) rfl (hb hby at_8) _ ?_
    show Steps p.tables e below (s₁.setTop (mkF m 10 #[.val (.int p1), .val (.int p2), .val (.int p3), .val (.int p4), .val (.int p5), .val (.int p6), .val (.long ((p1 &&& (2097151 : Int32))).toInt64), .second, .unset, .unset, .unset, .unset, .unset, .unset, .unset, .unset, .unset, .unset, .unset] [(.int (2147483647 : Int32)), (.int p2)])) τ
    refine XS.iand X0.here hx rfl (hb hby at_10) rfl ?_
    show Steps p.tables e below (s₁.setTop (mkF m 11 #[.val (.int p1), .val (.int p2), .val (.int p3), .val (.int p4), .val (.int p5), .val (.int p6), .val (.long ((p1 &&& (2097151 : Int32))).toInt64), .second, .unset, .unset, .unset, .unset, .unset, .unset, .unset, .unset, .unset, .unset, .unset] [(.int (p2 &&& (2147483647 : Int32)))])) τ
    refine XS.bipush X0.here hx rfl (hb hby at_11) ?_
    show Steps p.tables e below (s₁.setTop (mkF m 13 #[.val (.int p1), .val (.int p2), .val (.int p3), .val (.int p4), .val (.int p5), .val (.int p6), .val (.long ((p1 &&& (2097151 : Int32))).toInt64), .second, .unset, .unset, .unset, .unset, .unset, .unset, .unset, .unset, .unset, .unset, .unset] [(.int (42 : Int32)), (.int (p2 &&& (2147483647 : Int32)))])) τ
    refine iremM X0 hx rfl (hb hby at_13) rfl (by decide) ?_
    show Steps p.tables e below (s₁.setTop (mkF m 14 #[.val (.int p1), .val (.int p2), .val (.int p3), .val (.int p4), .val (.int p5), .val (.int p6), .val (.long ((p1 &&& (2097151 : Int32))).toInt64), .second, .unset, .unset, .unset, .unset, .unset, .unset, .unset, .unset, .unset, .unset, .unset] [(.int ((p2 &&& (2147483647 : Int32)) % (42 : Int32)))])) τ
    refine XS.istore X0.here hx rfl (hb hby at_14) rfl (l' := #[.val (.int p1), .val (.int p2), .val (.int p3), .val (.int p4), .val (.int p5), .val (.int p6), .val (.long ((p1 &&& (2097151 : Int32))).toInt64), .second, .val (.int ((p2 &&& (2147483647 : Int32)) % (42 : Int32))), .unset, .unset, .unset, .unset, .unset, .unset, .unset, .unset, .unset, .unset]) rfl ?_
    show Steps p.tables e below (s₁.setTop (mkF m 16 #[.val (.int p1), .val (.int p2), .val (.int p3), .val (.int p4), .val (.int p5), .val (.int p6), .val (.long ((p1 &&& (2097151 : Int32))).toInt64), .second, .val (.int ((p2 &&& (2147483647 : Int32)) % (42 : Int32))), .unset, .unset, .unset, .unset, .unset, .unset, .unset, .unset, .unset, .unset] [])) τ
    refine XT.lload X0.here hx rfl (hb hby at_16) rfl ?_
    show Steps p.tables e below (s₁.setTop (mkF m 18 #[.val (.int p1), .val (.int p2), .val (.int p3), .val (.int p4), .val (.int p5), .val (.int p6), .val (.long ((p1 &&& (2097151 : Int32))).toInt64), .second, .val (.int ((p2 &&& (2147483647 : Int32)) % (42 : Int32))), .unset, .unset, .unset, .unset, .unset, .unset, .unset, .unset, .unset, .unset] [(.long ((p1 &&& (2097151 : Int32))).toInt64)])) τ
    refine XS.iload X0.here hx rfl (hb hby at_18) rfl ?_
    show Steps p.tables e below (s₁.setTop (mkF m 20 #[.val (.int p1), .val (.int p2), .val (.int p3), .val (.int p4), .val (.int p5), .val (.int p6), .val (.long ((p1 &&& (2097151 : Int32))).toInt64), .second, .val (.int ((p2 &&& (2147483647 : Int32)) % (42 : Int32))), .unset, .unset, .unset, .unset, .unset, .unset, .unset, .unset, .unset, .unset] [(.int ((p2 &&& (2147483647 : Int32)) % (42 : Int32))), (.long ((p1 &&& (2097151 : Int32))).toInt64)])) τ
    refine XT.lshl X0.here hx rfl (hb hby at_20) rfl ?_
    show Steps p.tables e below (s₁.setTop (mkF m 21 #[.val (.int p1), .val (.int p2), .val (.int p3), .val (.int p4), .val (.int p5), .val (.int p6), .val (.long ((p1 &&& (2097151 : Int32))).toInt64), .second, .val (.int ((p2 &&& (2147483647 : Int32)) % (42 : Int32))), .unset, .unset, .unset, .unset, .unset, .unset, .unset, .unset, .unset, .unset] [(.long (((p1 &&& (2097151 : Int32))).toInt64 <<< (((p2 &&& (2147483647 : Int32)) % (42 : Int32)).toInt64 &&& 63)))])) τ
    refine XT.lstore X0.here hx rfl (hb hby at_21) rfl (l' := #[.val (.int p1), .val (.int p2), .val (.int p3), .val (.int p4), .val (.int p5), .val (.int p6), .val (.long ((p1 &&& (2097151 : Int32))).toInt64), .second, .val (.int ((p2 &&& (2147483647 : Int32)) % (42 : Int32))), .val (.long (((p1 &&& (2097151 : Int32))).toInt64 <<< (((p2 &&& (2147483647 : Int32)) % (42 : Int32)).toInt64 &&& 63))), .second, .unset, .unset, .unset, .unset, .unset, .unset, .unset, .unset]) rfl ?_
    show Steps p.tables e below (s₁.setTop (mkF m 23 #[.val (.int p1), .val (.int p2), .val (.int p3), .val (.int p4), .val (.int p5), .val (.int p6), .val (.long ((p1 &&& (2097151 : Int32))).toInt64), .second, .val (.int ((p2 &&& (2147483647 : Int32)) % (42 : Int32))), .val (.long (((p1 &&& (2097151 : Int32))).toInt64 <<< (((p2 &&& (2147483647 : Int32)) % (42 : Int32)).toInt64 &&& 63))), .second, .unset, .unset, .unset, .unset, .unset, .unset, .unset, .unset] [])) τ
    refine XS.iloadN X0.here hx rfl (hb hby at_23) rfl ?_
    show Steps p.tables e below (s₁.setTop (mkF m 24 #[.val (.int p1), .val (.int p2), .val (.int p3), .val (.int p4), .val (.int p5), .val (.int p6), .val (.long ((p1 &&& (2097151 : Int32))).toInt64), .second, .val (.int ((p2 &&& (2147483647 : Int32)) % (42 : Int32))), .val (.long (((p1 &&& (2097151 : Int32))).toInt64 <<< (((p2 &&& (2147483647 : Int32)) % (42 : Int32)).toInt64 &&& 63))), .second, .unset, .unset, .unset, .unset, .unset, .unset, .unset, .unset] [(.int p3)])) τ
    refine XS.iconst X0.here hx rfl (hb hby at_24) ?_
    show Steps p.tables e below (s₁.setTop (mkF m 25 #[.val (.int p1), .val (.int p2), .val (.int p3), .val (.int p4), .val (.int p5), .val (.int p6), .val (.long ((p1 &&& (2097151 : Int32))).toInt64), .second, .val (.int ((p2 &&& (2147483647 : Int32)) % (42 : Int32))), .val (.long (((p1 &&& (2097151 : Int32))).toInt64 <<< (((p2 &&& (2147483647 : Int32)) % (42 : Int32)).toInt64 &&& 63))), .second, .unset, .unset, .unset, .unset, .unset, .unset, .unset, .unset] [(.int (1 : Int32)), (.int p3)])) τ
    refine XS.iand X0.here hx rfl (hb hby at_25) rfl ?_
    exact kt)
  obtain ⟨big, hj26, pre26⟩ : ∃ (big : Int64), (∃ z : Int, z.natAbs ≤ 2097151 ∧ big.toInt = z * ((2 ^ k : Nat) : Int) ∧ big.toInt.natAbs ≤ 2 ^ 62) ∧ ∀ τ, Steps p.tables e below (s₁.setTop (mkF m 34 #[.val (.int p1), .val (.int p2), .val (.int p3), .val (.int p4), .val (.int p5), .val (.int p6), .val (.long ((p1 &&& (2097151 : Int32))).toInt64), .second, .val (.int ((p2 &&& (2147483647 : Int32)) % (42 : Int32))), .val (.long big), .second, .unset, .unset, .unset, .unset, .unset, .unset, .unset, .unset] [])) τ → Steps p.tables e below (s₁.setTop (entryFrame m #[(.int p1), (.int p2), (.int p3), (.int p4), (.int p5), (.int p6)] maxLocals)) τ := by
    by_cases qf : (p3 &&& (1 : Int32)) = (0 : Int32)
    · skip
      have pre27 : ∀ τ, Steps p.tables e below (s₁.setTop (mkF m 34 #[.val (.int p1), .val (.int p2), .val (.int p3), .val (.int p4), .val (.int p5), .val (.int p6), .val (.long ((p1 &&& (2097151 : Int32))).toInt64), .second, .val (.int ((p2 &&& (2147483647 : Int32)) % (42 : Int32))), .val (.long (((p1 &&& (2097151 : Int32))).toInt64 <<< (((p2 &&& (2147483647 : Int32)) % (42 : Int32)).toInt64 &&& 63))), .second, .unset, .unset, .unset, .unset, .unset, .unset, .unset, .unset] [])) τ → Steps p.tables e below (s₁.setTop (entryFrame m #[(.int p1), (.int p2), (.int p3), (.int p4), (.int p5), (.int p6)] maxLocals)) τ := fun τ kt => pre25 τ (by
        show Steps p.tables e below (s₁.setTop (mkF m 26 #[.val (.int p1), .val (.int p2), .val (.int p3), .val (.int p4), .val (.int p5), .val (.int p6), .val (.long ((p1 &&& (2097151 : Int32))).toInt64), .second, .val (.int ((p2 &&& (2147483647 : Int32)) % (42 : Int32))), .val (.long (((p1 &&& (2097151 : Int32))).toInt64 <<< (((p2 &&& (2147483647 : Int32)) % (42 : Int32)).toInt64 &&& 63))), .second, .unset, .unset, .unset, .unset, .unset, .unset, .unset, .unset] [(.int (p3 &&& (1 : Int32)))])) τ
        refine XS.ifYes X0.here hx rfl (pc0 := 26) (pc' := 34) rfl (hb hby at_26) rfl ((if0 _ _).trans (teq qf).1) (by decide) (by decide) ?_
        exact kt)
      exact ⟨(((p1 &&& (2097151 : Int32))).toInt64 <<< (((p2 &&& (2147483647 : Int32)) % (42 : Int32)).toInt64 &&& 63)), ⟨n, hn, hb1, by rw [hb1]; exact hb3⟩, pre27⟩
    · skip
      have pre28 : ∀ τ, Steps p.tables e below (s₁.setTop (mkF m 34 #[.val (.int p1), .val (.int p2), .val (.int p3), .val (.int p4), .val (.int p5), .val (.int p6), .val (.long ((p1 &&& (2097151 : Int32))).toInt64), .second, .val (.int ((p2 &&& (2147483647 : Int32)) % (42 : Int32))), .val (.long (-(((p1 &&& (2097151 : Int32))).toInt64 <<< (((p2 &&& (2147483647 : Int32)) % (42 : Int32)).toInt64 &&& 63)))), .second, .unset, .unset, .unset, .unset, .unset, .unset, .unset, .unset] [])) τ → Steps p.tables e below (s₁.setTop (entryFrame m #[(.int p1), (.int p2), (.int p3), (.int p4), (.int p5), (.int p6)] maxLocals)) τ := fun τ kt => pre25 τ (by
        show Steps p.tables e below (s₁.setTop (mkF m 26 #[.val (.int p1), .val (.int p2), .val (.int p3), .val (.int p4), .val (.int p5), .val (.int p6), .val (.long ((p1 &&& (2097151 : Int32))).toInt64), .second, .val (.int ((p2 &&& (2147483647 : Int32)) % (42 : Int32))), .val (.long (((p1 &&& (2097151 : Int32))).toInt64 <<< (((p2 &&& (2147483647 : Int32)) % (42 : Int32)).toInt64 &&& 63))), .second, .unset, .unset, .unset, .unset, .unset, .unset, .unset, .unset] [(.int (p3 &&& (1 : Int32)))])) τ
        refine XS.ifNo X0.here hx rfl (hb hby at_26) rfl ((if0 _ _).trans (feq qf).1) ?_
        show Steps p.tables e below (s₁.setTop (mkF m 29 #[.val (.int p1), .val (.int p2), .val (.int p3), .val (.int p4), .val (.int p5), .val (.int p6), .val (.long ((p1 &&& (2097151 : Int32))).toInt64), .second, .val (.int ((p2 &&& (2147483647 : Int32)) % (42 : Int32))), .val (.long (((p1 &&& (2097151 : Int32))).toInt64 <<< (((p2 &&& (2147483647 : Int32)) % (42 : Int32)).toInt64 &&& 63))), .second, .unset, .unset, .unset, .unset, .unset, .unset, .unset, .unset] [])) τ
        refine XT.lload X0.here hx rfl (hb hby at_29) rfl ?_
        show Steps p.tables e below (s₁.setTop (mkF m 31 #[.val (.int p1), .val (.int p2), .val (.int p3), .val (.int p4), .val (.int p5), .val (.int p6), .val (.long ((p1 &&& (2097151 : Int32))).toInt64), .second, .val (.int ((p2 &&& (2147483647 : Int32)) % (42 : Int32))), .val (.long (((p1 &&& (2097151 : Int32))).toInt64 <<< (((p2 &&& (2147483647 : Int32)) % (42 : Int32)).toInt64 &&& 63))), .second, .unset, .unset, .unset, .unset, .unset, .unset, .unset, .unset] [(.long (((p1 &&& (2097151 : Int32))).toInt64 <<< (((p2 &&& (2147483647 : Int32)) % (42 : Int32)).toInt64 &&& 63)))])) τ
        refine XT.lneg X0.here hx rfl (hb hby at_31) rfl ?_
        show Steps p.tables e below (s₁.setTop (mkF m 32 #[.val (.int p1), .val (.int p2), .val (.int p3), .val (.int p4), .val (.int p5), .val (.int p6), .val (.long ((p1 &&& (2097151 : Int32))).toInt64), .second, .val (.int ((p2 &&& (2147483647 : Int32)) % (42 : Int32))), .val (.long (((p1 &&& (2097151 : Int32))).toInt64 <<< (((p2 &&& (2147483647 : Int32)) % (42 : Int32)).toInt64 &&& 63))), .second, .unset, .unset, .unset, .unset, .unset, .unset, .unset, .unset] [(.long (-(((p1 &&& (2097151 : Int32))).toInt64 <<< (((p2 &&& (2147483647 : Int32)) % (42 : Int32)).toInt64 &&& 63))))])) τ
        refine XT.lstore X0.here hx rfl (hb hby at_32) rfl (l' := #[.val (.int p1), .val (.int p2), .val (.int p3), .val (.int p4), .val (.int p5), .val (.int p6), .val (.long ((p1 &&& (2097151 : Int32))).toInt64), .second, .val (.int ((p2 &&& (2147483647 : Int32)) % (42 : Int32))), .val (.long (-(((p1 &&& (2097151 : Int32))).toInt64 <<< (((p2 &&& (2147483647 : Int32)) % (42 : Int32)).toInt64 &&& 63)))), .second, .unset, .unset, .unset, .unset, .unset, .unset, .unset, .unset]) rfl ?_
        exact kt)
      exact ⟨(-(((p1 &&& (2097151 : Int32))).toInt64 <<< (((p2 &&& (2147483647 : Int32)) % (42 : Int32)).toInt64 &&& 63))), ⟨-n, by omega, hb2, by rw [hb2, Int.neg_mul, Int.natAbs_neg]; exact hb3⟩, pre28⟩
  obtain ⟨z, hz, hbz, hbb⟩ := hj26
  have pre29 : ∀ τ, Steps p.tables e below (s₁.setTop (mkF m 57 #[.val (.int p1), .val (.int p2), .val (.int p3), .val (.int p4), .val (.int p5), .val (.int p6), .val (.long ((p1 &&& (2097151 : Int32))).toInt64), .second, .val (.int ((p2 &&& (2147483647 : Int32)) % (42 : Int32))), .val (.long big), .second, .val (.long ((p4 % (1048576 : Int32))).toInt64), .second, .val (.long ((p5 % (1048576 : Int32))).toInt64), .second, .val (.long ((p6 % (1048576 : Int32))).toInt64), .second, .unset, .unset] [])) τ → Steps p.tables e below (s₁.setTop (entryFrame m #[(.int p1), (.int p2), (.int p3), (.int p4), (.int p5), (.int p6)] maxLocals)) τ := fun τ kt => pre26 τ (by
    show Steps p.tables e below (s₁.setTop (mkF m 34 #[.val (.int p1), .val (.int p2), .val (.int p3), .val (.int p4), .val (.int p5), .val (.int p6), .val (.long ((p1 &&& (2097151 : Int32))).toInt64), .second, .val (.int ((p2 &&& (2147483647 : Int32)) % (42 : Int32))), .val (.long big), .second, .unset, .unset, .unset, .unset, .unset, .unset, .unset, .unset] [])) τ
    refine XS.iloadN X0.here hx rfl (hb hby at_34) rfl ?_
    show Steps p.tables e below (s₁.setTop (mkF m 35 #[.val (.int p1), .val (.int p2), .val (.int p3), .val (.int p4), .val (.int p5), .val (.int p6), .val (.long ((p1 &&& (2097151 : Int32))).toInt64), .second, .val (.int ((p2 &&& (2147483647 : Int32)) % (42 : Int32))), .val (.long big), .second, .unset, .unset, .unset, .unset, .unset, .unset, .unset, .unset] [(.int p4)])) τ
    refine X0.ldcInt hx hown (mvT hZ (hw _ (List.mem_of_getElem? (i := 2) rfl))) (g := (mkF m 35 #[.val (.int p1), .val (.int p2), .val (.int p3), .val (.int p4), .val (.int p5), .val (.int p6), .val (.long ((p1 &&& (2097151 : Int32))).toInt64), .second, .val (.int ((p2 &&& (2147483647 : Int32)) % (42 : Int32))), .val (.long big), .second, .unset, .unset, .unset, .unset, .unset, .unset, .unset, .unset] [(.int p4)])) rfl (hb hby at_35) _ ?_
    show Steps p.tables e below (s₁.setTop (mkF m 37 #[.val (.int p1), .val (.int p2), .val (.int p3), .val (.int p4), .val (.int p5), .val (.int p6), .val (.long ((p1 &&& (2097151 : Int32))).toInt64), .second, .val (.int ((p2 &&& (2147483647 : Int32)) % (42 : Int32))), .val (.long big), .second, .unset, .unset, .unset, .unset, .unset, .unset, .unset, .unset] [(.int (1048576 : Int32)), (.int p4)])) τ
    refine iremM X0 hx rfl (hb hby at_37) rfl (by decide) ?_
    show Steps p.tables e below (s₁.setTop (mkF m 38 #[.val (.int p1), .val (.int p2), .val (.int p3), .val (.int p4), .val (.int p5), .val (.int p6), .val (.long ((p1 &&& (2097151 : Int32))).toInt64), .second, .val (.int ((p2 &&& (2147483647 : Int32)) % (42 : Int32))), .val (.long big), .second, .unset, .unset, .unset, .unset, .unset, .unset, .unset, .unset] [(.int (p4 % (1048576 : Int32)))])) τ
    refine XT.i2l X0.here hx rfl (hb hby at_38) rfl ?_
    show Steps p.tables e below (s₁.setTop (mkF m 39 #[.val (.int p1), .val (.int p2), .val (.int p3), .val (.int p4), .val (.int p5), .val (.int p6), .val (.long ((p1 &&& (2097151 : Int32))).toInt64), .second, .val (.int ((p2 &&& (2147483647 : Int32)) % (42 : Int32))), .val (.long big), .second, .unset, .unset, .unset, .unset, .unset, .unset, .unset, .unset] [(.long ((p4 % (1048576 : Int32))).toInt64)])) τ
    refine XT.lstore X0.here hx rfl (hb hby at_39) rfl (l' := #[.val (.int p1), .val (.int p2), .val (.int p3), .val (.int p4), .val (.int p5), .val (.int p6), .val (.long ((p1 &&& (2097151 : Int32))).toInt64), .second, .val (.int ((p2 &&& (2147483647 : Int32)) % (42 : Int32))), .val (.long big), .second, .val (.long ((p4 % (1048576 : Int32))).toInt64), .second, .unset, .unset, .unset, .unset, .unset, .unset]) rfl ?_
    show Steps p.tables e below (s₁.setTop (mkF m 41 #[.val (.int p1), .val (.int p2), .val (.int p3), .val (.int p4), .val (.int p5), .val (.int p6), .val (.long ((p1 &&& (2097151 : Int32))).toInt64), .second, .val (.int ((p2 &&& (2147483647 : Int32)) % (42 : Int32))), .val (.long big), .second, .val (.long ((p4 % (1048576 : Int32))).toInt64), .second, .unset, .unset, .unset, .unset, .unset, .unset] [])) τ
    refine XS.iload X0.here hx rfl (hb hby at_41) rfl ?_
    show Steps p.tables e below (s₁.setTop (mkF m 43 #[.val (.int p1), .val (.int p2), .val (.int p3), .val (.int p4), .val (.int p5), .val (.int p6), .val (.long ((p1 &&& (2097151 : Int32))).toInt64), .second, .val (.int ((p2 &&& (2147483647 : Int32)) % (42 : Int32))), .val (.long big), .second, .val (.long ((p4 % (1048576 : Int32))).toInt64), .second, .unset, .unset, .unset, .unset, .unset, .unset] [(.int p5)])) τ
    refine X0.ldcInt hx hown (mvT hZ (hw _ (List.mem_of_getElem? (i := 2) rfl))) (g := (mkF m 43 #[.val (.int p1), .val (.int p2), .val (.int p3), .val (.int p4), .val (.int p5), .val (.int p6), .val (.long ((p1 &&& (2097151 : Int32))).toInt64), .second, .val (.int ((p2 &&& (2147483647 : Int32)) % (42 : Int32))), .val (.long big), .second, .val (.long ((p4 % (1048576 : Int32))).toInt64), .second, .unset, .unset, .unset, .unset, .unset, .unset] [(.int p5)])) rfl (hb hby at_43) _ ?_
    show Steps p.tables e below (s₁.setTop (mkF m 45 #[.val (.int p1), .val (.int p2), .val (.int p3), .val (.int p4), .val (.int p5), .val (.int p6), .val (.long ((p1 &&& (2097151 : Int32))).toInt64), .second, .val (.int ((p2 &&& (2147483647 : Int32)) % (42 : Int32))), .val (.long big), .second, .val (.long ((p4 % (1048576 : Int32))).toInt64), .second, .unset, .unset, .unset, .unset, .unset, .unset] [(.int (1048576 : Int32)), (.int p5)])) τ
    refine iremM X0 hx rfl (hb hby at_45) rfl (by decide) ?_
    show Steps p.tables e below (s₁.setTop (mkF m 46 #[.val (.int p1), .val (.int p2), .val (.int p3), .val (.int p4), .val (.int p5), .val (.int p6), .val (.long ((p1 &&& (2097151 : Int32))).toInt64), .second, .val (.int ((p2 &&& (2147483647 : Int32)) % (42 : Int32))), .val (.long big), .second, .val (.long ((p4 % (1048576 : Int32))).toInt64), .second, .unset, .unset, .unset, .unset, .unset, .unset] [(.int (p5 % (1048576 : Int32)))])) τ
    refine XT.i2l X0.here hx rfl (hb hby at_46) rfl ?_
    show Steps p.tables e below (s₁.setTop (mkF m 47 #[.val (.int p1), .val (.int p2), .val (.int p3), .val (.int p4), .val (.int p5), .val (.int p6), .val (.long ((p1 &&& (2097151 : Int32))).toInt64), .second, .val (.int ((p2 &&& (2147483647 : Int32)) % (42 : Int32))), .val (.long big), .second, .val (.long ((p4 % (1048576 : Int32))).toInt64), .second, .unset, .unset, .unset, .unset, .unset, .unset] [(.long ((p5 % (1048576 : Int32))).toInt64)])) τ
    refine XT.lstore X0.here hx rfl (hb hby at_47) rfl (l' := #[.val (.int p1), .val (.int p2), .val (.int p3), .val (.int p4), .val (.int p5), .val (.int p6), .val (.long ((p1 &&& (2097151 : Int32))).toInt64), .second, .val (.int ((p2 &&& (2147483647 : Int32)) % (42 : Int32))), .val (.long big), .second, .val (.long ((p4 % (1048576 : Int32))).toInt64), .second, .val (.long ((p5 % (1048576 : Int32))).toInt64), .second, .unset, .unset, .unset, .unset]) rfl ?_
    show Steps p.tables e below (s₁.setTop (mkF m 49 #[.val (.int p1), .val (.int p2), .val (.int p3), .val (.int p4), .val (.int p5), .val (.int p6), .val (.long ((p1 &&& (2097151 : Int32))).toInt64), .second, .val (.int ((p2 &&& (2147483647 : Int32)) % (42 : Int32))), .val (.long big), .second, .val (.long ((p4 % (1048576 : Int32))).toInt64), .second, .val (.long ((p5 % (1048576 : Int32))).toInt64), .second, .unset, .unset, .unset, .unset] [])) τ
    refine XS.iload X0.here hx rfl (hb hby at_49) rfl ?_
    show Steps p.tables e below (s₁.setTop (mkF m 51 #[.val (.int p1), .val (.int p2), .val (.int p3), .val (.int p4), .val (.int p5), .val (.int p6), .val (.long ((p1 &&& (2097151 : Int32))).toInt64), .second, .val (.int ((p2 &&& (2147483647 : Int32)) % (42 : Int32))), .val (.long big), .second, .val (.long ((p4 % (1048576 : Int32))).toInt64), .second, .val (.long ((p5 % (1048576 : Int32))).toInt64), .second, .unset, .unset, .unset, .unset] [(.int p6)])) τ
    refine X0.ldcInt hx hown (mvT hZ (hw _ (List.mem_of_getElem? (i := 2) rfl))) (g := (mkF m 51 #[.val (.int p1), .val (.int p2), .val (.int p3), .val (.int p4), .val (.int p5), .val (.int p6), .val (.long ((p1 &&& (2097151 : Int32))).toInt64), .second, .val (.int ((p2 &&& (2147483647 : Int32)) % (42 : Int32))), .val (.long big), .second, .val (.long ((p4 % (1048576 : Int32))).toInt64), .second, .val (.long ((p5 % (1048576 : Int32))).toInt64), .second, .unset, .unset, .unset, .unset] [(.int p6)])) rfl (hb hby at_51) _ ?_
    show Steps p.tables e below (s₁.setTop (mkF m 53 #[.val (.int p1), .val (.int p2), .val (.int p3), .val (.int p4), .val (.int p5), .val (.int p6), .val (.long ((p1 &&& (2097151 : Int32))).toInt64), .second, .val (.int ((p2 &&& (2147483647 : Int32)) % (42 : Int32))), .val (.long big), .second, .val (.long ((p4 % (1048576 : Int32))).toInt64), .second, .val (.long ((p5 % (1048576 : Int32))).toInt64), .second, .unset, .unset, .unset, .unset] [(.int (1048576 : Int32)), (.int p6)])) τ
    refine iremM X0 hx rfl (hb hby at_53) rfl (by decide) ?_
    show Steps p.tables e below (s₁.setTop (mkF m 54 #[.val (.int p1), .val (.int p2), .val (.int p3), .val (.int p4), .val (.int p5), .val (.int p6), .val (.long ((p1 &&& (2097151 : Int32))).toInt64), .second, .val (.int ((p2 &&& (2147483647 : Int32)) % (42 : Int32))), .val (.long big), .second, .val (.long ((p4 % (1048576 : Int32))).toInt64), .second, .val (.long ((p5 % (1048576 : Int32))).toInt64), .second, .unset, .unset, .unset, .unset] [(.int (p6 % (1048576 : Int32)))])) τ
    refine XT.i2l X0.here hx rfl (hb hby at_54) rfl ?_
    show Steps p.tables e below (s₁.setTop (mkF m 55 #[.val (.int p1), .val (.int p2), .val (.int p3), .val (.int p4), .val (.int p5), .val (.int p6), .val (.long ((p1 &&& (2097151 : Int32))).toInt64), .second, .val (.int ((p2 &&& (2147483647 : Int32)) % (42 : Int32))), .val (.long big), .second, .val (.long ((p4 % (1048576 : Int32))).toInt64), .second, .val (.long ((p5 % (1048576 : Int32))).toInt64), .second, .unset, .unset, .unset, .unset] [(.long ((p6 % (1048576 : Int32))).toInt64)])) τ
    refine XT.lstore X0.here hx rfl (hb hby at_55) rfl (l' := #[.val (.int p1), .val (.int p2), .val (.int p3), .val (.int p4), .val (.int p5), .val (.int p6), .val (.long ((p1 &&& (2097151 : Int32))).toInt64), .second, .val (.int ((p2 &&& (2147483647 : Int32)) % (42 : Int32))), .val (.long big), .second, .val (.long ((p4 % (1048576 : Int32))).toInt64), .second, .val (.long ((p5 % (1048576 : Int32))).toInt64), .second, .val (.long ((p6 % (1048576 : Int32))).toInt64), .second, .unset, .unset]) rfl ?_
    exact kt)
  obtain ⟨x4, e_x4⟩ : ∃ z : Int64, z = ((p4 % (1048576 : Int32))).toInt64 := ⟨_, rfl⟩
  have pre30 : ∀ τ, Steps p.tables e below (s₁.setTop (mkF m 57 #[.val (.int p1), .val (.int p2), .val (.int p3), .val (.int p4), .val (.int p5), .val (.int p6), .val (.long ((p1 &&& (2097151 : Int32))).toInt64), .second, .val (.int ((p2 &&& (2147483647 : Int32)) % (42 : Int32))), .val (.long big), .second, .val (.long x4), .second, .val (.long ((p5 % (1048576 : Int32))).toInt64), .second, .val (.long ((p6 % (1048576 : Int32))).toInt64), .second, .unset, .unset] [])) τ → Steps p.tables e below (s₁.setTop (entryFrame m #[(.int p1), (.int p2), (.int p3), (.int p4), (.int p5), (.int p6)] maxLocals)) τ := by rw [e_x4]; exact pre29
  have bx4 : x4.toInt.natAbs ≤ 1048575 := e_x4 ▸ own_rem20 p4
  obtain ⟨x5, e_x5⟩ : ∃ z : Int64, z = ((p5 % (1048576 : Int32))).toInt64 := ⟨_, rfl⟩
  have pre31 : ∀ τ, Steps p.tables e below (s₁.setTop (mkF m 57 #[.val (.int p1), .val (.int p2), .val (.int p3), .val (.int p4), .val (.int p5), .val (.int p6), .val (.long ((p1 &&& (2097151 : Int32))).toInt64), .second, .val (.int ((p2 &&& (2147483647 : Int32)) % (42 : Int32))), .val (.long big), .second, .val (.long x4), .second, .val (.long x5), .second, .val (.long ((p6 % (1048576 : Int32))).toInt64), .second, .unset, .unset] [])) τ → Steps p.tables e below (s₁.setTop (entryFrame m #[(.int p1), (.int p2), (.int p3), (.int p4), (.int p5), (.int p6)] maxLocals)) τ := by rw [e_x5]; exact pre30
  have bx5 : x5.toInt.natAbs ≤ 1048575 := e_x5 ▸ own_rem20 p5
  obtain ⟨x6, e_x6⟩ : ∃ z : Int64, z = ((p6 % (1048576 : Int32))).toInt64 := ⟨_, rfl⟩
  have pre32 : ∀ τ, Steps p.tables e below (s₁.setTop (mkF m 57 #[.val (.int p1), .val (.int p2), .val (.int p3), .val (.int p4), .val (.int p5), .val (.int p6), .val (.long ((p1 &&& (2097151 : Int32))).toInt64), .second, .val (.int ((p2 &&& (2147483647 : Int32)) % (42 : Int32))), .val (.long big), .second, .val (.long x4), .second, .val (.long x5), .second, .val (.long x6), .second, .unset, .unset] [])) τ → Steps p.tables e below (s₁.setTop (entryFrame m #[(.int p1), (.int p2), (.int p3), (.int p4), (.int p5), (.int p6)] maxLocals)) τ := by rw [e_x6]; exact pre31
  have bx6 : x6.toInt.natAbs ≤ 1048575 := e_x6 ▸ own_rem20 p6
  obtain ⟨T33, h33, X33, e33, E33, A33, D33, -, st33⟩ := newO X0 hx hZ hown (hw _ (List.mem_of_getElem? (i := 3) rfl)) (hw _ (List.mem_of_getElem? (i := 4) rfl)) (hw _ (List.mem_of_getElem? (i := 5) rfl)) e0 (g := (mkF m 57 #[.val (.int p1), .val (.int p2), .val (.int p3), .val (.int p4), .val (.int p5), .val (.int p6), .val (.long ((p1 &&& (2097151 : Int32))).toInt64), .second, .val (.int ((p2 &&& (2147483647 : Int32)) % (42 : Int32))), .val (.long big), .second, .val (.long x4), .second, .val (.long x5), .second, .val (.long x6), .second, .unset, .unset] [])) rfl (hb hby at_57) (by decide) (by decide)
  obtain ⟨b1, g33⟩ : ∃ z, z = h0.size := ⟨_, rfl⟩
  rw [← g33] at A33 D33 st33
  have g_b1 : n0 ≤ b1 := Nat.le_trans (Nat.le_trans Z0 KK0.1) (Nat.le_of_eq g33.symm)
  have sz_b1 : h0.size ≤ b1 := Nat.le_trans KK0.1 (Nat.le_of_eq g33.symm)
  have K33 : Keep h0 h33 [] := KK0.ext E33
  have F_excess_b1 : Fld Z h33 b1 "com/example/meticulous_ballot/meticulousballot/CompensatedSum" "excess" "D" (.double (0 : UInt64)) := D33 (Or.inl (hw _ (List.mem_of_getElem? (i := 18) rfl))) (ty := .double) (by decide)
  have F_sum_b1 : Fld Z h33 b1 "com/example/meticulous_ballot/meticulousballot/CompensatedSum" "sum" "D" (.double (0 : UInt64)) := D33 (Or.inl (hw _ (List.mem_of_getElem? (i := 20) rfl))) (ty := .double) (by decide)
  have pre34 : ∀ τ, Steps p.tables e below (T33.setTop (mkF m 60 #[.val (.int p1), .val (.int p2), .val (.int p3), .val (.int p4), .val (.int p5), .val (.int p6), .val (.long ((p1 &&& (2097151 : Int32))).toInt64), .second, .val (.int ((p2 &&& (2147483647 : Int32)) % (42 : Int32))), .val (.long big), .second, .val (.long x4), .second, .val (.long x5), .second, .val (.long x6), .second, .unset, .unset] [(.ref b1)])) τ → Steps p.tables e below (s₁.setTop (entryFrame m #[(.int p1), (.int p2), (.int p3), (.int p4), (.int p5), (.int p6)] maxLocals)) τ := fun τ kt => pre32 τ (st33 τ kt)
  have pre35 : ∀ τ, Steps p.tables e below (T33.setTop (mkF m 61 #[.val (.int p1), .val (.int p2), .val (.int p3), .val (.int p4), .val (.int p5), .val (.int p6), .val (.long ((p1 &&& (2097151 : Int32))).toInt64), .second, .val (.int ((p2 &&& (2147483647 : Int32)) % (42 : Int32))), .val (.long big), .second, .val (.long x4), .second, .val (.long x5), .second, .val (.long x6), .second, .unset, .unset] [(.ref b1), (.ref b1)])) τ → Steps p.tables e below (s₁.setTop (entryFrame m #[(.int p1), (.int p2), (.int p3), (.int p4), (.int p5), (.int p6)] maxLocals)) τ := fun τ kt => pre34 τ (by
    show Steps p.tables e below (T33.setTop (mkF m 60 #[.val (.int p1), .val (.int p2), .val (.int p3), .val (.int p4), .val (.int p5), .val (.int p6), .val (.long ((p1 &&& (2097151 : Int32))).toInt64), .second, .val (.int ((p2 &&& (2147483647 : Int32)) % (42 : Int32))), .val (.long big), .second, .val (.long x4), .second, .val (.long x5), .second, .val (.long x6), .second, .unset, .unset] [(.ref b1)])) τ
    refine XS.dup X33.here hx rfl (hb hby at_60) rfl rfl ?_
    exact kt)
  obtain ⟨_, _, ⟨T36, L36, k36, n36⟩, -, X36, ⟨Lc36, hQ36, l36, y36, z36⟩, st36⟩ := X33.specialBack hx (y := (⟨"com/example/meticulous_ballot/meticulousballot/CompensatedSum", "<init>", "()V"⟩ : MethodName)) rfl hown (mvT hZ (hw _ (List.mem_of_getElem? (i := 6) rfl))) (mvT hZ (hw _ (List.mem_of_getElem? (i := 7) rfl))) (mvT hZ (hw _ (List.mem_of_getElem? (i := 8) rfl))) (by decide) (backOf (W := 1) (rmI l Z a0 hw [] b1 h33 n0 (Nat.le_trans Z0 K33.1)) hZ (hw _ (List.mem_of_getElem? (i := 8) rfl)) (hw _ (List.mem_of_getElem? (i := 5) rfl)) (by decide) (by decide)) (g := (mkF m 61 #[.val (.int p1), .val (.int p2), .val (.int p3), .val (.int p4), .val (.int p5), .val (.int p6), .val (.long ((p1 &&& (2097151 : Int32))).toInt64), .second, .val (.int ((p2 &&& (2147483647 : Int32)) % (42 : Int32))), .val (.long big), .second, .val (.long x4), .second, .val (.long x5), .second, .val (.long x6), .second, .unset, .unset] [(.ref b1), (.ref b1)])) rfl (by rw [hml]; rfl) (Steps.refl _) (a := b1) (argsL := []) (rest := [(.ref b1)]) (lenOf own_pd___V rfl) rfl (by show 2 * 0 + _ ≤ _; exact Nat.le_of_eq rfl) (hb hby at_61) (fun _ _ => ⟨rfl, e33, (by decide : 1 + 0 ≤ _), (by decide : 2 + 0 ≤ _)⟩)
  dsimp only [Pt.U, Pt.locs, Pt.cells, Pt.slots] at X36 l36 y36 z36 st36 hQ36
  subst l36 y36 z36
  obtain ⟨rfl, Nq36, eq36⟩ := hQ36
  have N36 := Fr.app N0 Nq36
  have pre37 : ∀ τ, Steps p.tables e below (T36.setTop (mkF m 64 #[.val (.int p1), .val (.int p2), .val (.int p3), .val (.int p4), .val (.int p5), .val (.int p6), .val (.long ((p1 &&& (2097151 : Int32))).toInt64), .second, .val (.int ((p2 &&& (2147483647 : Int32)) % (42 : Int32))), .val (.long big), .second, .val (.long x4), .second, .val (.long x5), .second, .val (.long x6), .second, .unset, .unset] [(.ref b1)])) τ → Steps p.tables e below (s₁.setTop (entryFrame m #[(.int p1), (.int p2), (.int p3), (.int p4), (.int p5), (.int p6)] maxLocals)) τ := fun τ kt => pre35 τ ((st36).trans kt)
  have hL0 : own_D z k (FP.l2d big) := own_l2d_dy hbz (by omega) (by omega)
  obtain ⟨k1, k2, k3, k4⟩ := own_kahan0 hL0 (by omega) (by omega)
  have pre38 : ∀ τ, Steps p.tables e below (T36.setTop (mkF m 74 #[.val (.int p1), .val (.int p2), .val (.int p3), .val (.int p4), .val (.int p5), .val (.int p6), .val (.long ((p1 &&& (2097151 : Int32))).toInt64), .second, .val (.int ((p2 &&& (2147483647 : Int32)) % (42 : Int32))), .val (.long big), .second, .val (.long x4), .second, .val (.long x5), .second, .val (.long x6), .second, .val (.ref b1), .val (.int (1 : Int32))] [(.double (FP.l2d big)), (.ref b1)])) τ → Steps p.tables e below (s₁.setTop (entryFrame m #[(.int p1), (.int p2), (.int p3), (.int p4), (.int p5), (.int p6)] maxLocals)) τ := fun τ kt => pre37 τ (by
    show Steps p.tables e below (T36.setTop (mkF m 64 #[.val (.int p1), .val (.int p2), .val (.int p3), .val (.int p4), .val (.int p5), .val (.int p6), .val (.long ((p1 &&& (2097151 : Int32))).toInt64), .second, .val (.int ((p2 &&& (2147483647 : Int32)) % (42 : Int32))), .val (.long big), .second, .val (.long x4), .second, .val (.long x5), .second, .val (.long x6), .second, .unset, .unset] [(.ref b1)])) τ
    refine XS.astore X36.here hx rfl (hb hby at_64) rfl rfl (l' := #[.val (.int p1), .val (.int p2), .val (.int p3), .val (.int p4), .val (.int p5), .val (.int p6), .val (.long ((p1 &&& (2097151 : Int32))).toInt64), .second, .val (.int ((p2 &&& (2147483647 : Int32)) % (42 : Int32))), .val (.long big), .second, .val (.long x4), .second, .val (.long x5), .second, .val (.long x6), .second, .val (.ref b1), .unset]) rfl ?_
    show Steps p.tables e below (T36.setTop (mkF m 66 #[.val (.int p1), .val (.int p2), .val (.int p3), .val (.int p4), .val (.int p5), .val (.int p6), .val (.long ((p1 &&& (2097151 : Int32))).toInt64), .second, .val (.int ((p2 &&& (2147483647 : Int32)) % (42 : Int32))), .val (.long big), .second, .val (.long x4), .second, .val (.long x5), .second, .val (.long x6), .second, .val (.ref b1), .unset] [])) τ
    refine XS.iconst X36.here hx rfl (hb hby at_66) ?_
    show Steps p.tables e below (T36.setTop (mkF m 67 #[.val (.int p1), .val (.int p2), .val (.int p3), .val (.int p4), .val (.int p5), .val (.int p6), .val (.long ((p1 &&& (2097151 : Int32))).toInt64), .second, .val (.int ((p2 &&& (2147483647 : Int32)) % (42 : Int32))), .val (.long big), .second, .val (.long x4), .second, .val (.long x5), .second, .val (.long x6), .second, .val (.ref b1), .unset] [(.int (1 : Int32))])) τ
    refine XS.istore X36.here hx rfl (hb hby at_67) rfl (l' := #[.val (.int p1), .val (.int p2), .val (.int p3), .val (.int p4), .val (.int p5), .val (.int p6), .val (.long ((p1 &&& (2097151 : Int32))).toInt64), .second, .val (.int ((p2 &&& (2147483647 : Int32)) % (42 : Int32))), .val (.long big), .second, .val (.long x4), .second, .val (.long x5), .second, .val (.long x6), .second, .val (.ref b1), .val (.int (1 : Int32))]) rfl ?_
    show Steps p.tables e below (T36.setTop (mkF m 69 #[.val (.int p1), .val (.int p2), .val (.int p3), .val (.int p4), .val (.int p5), .val (.int p6), .val (.long ((p1 &&& (2097151 : Int32))).toInt64), .second, .val (.int ((p2 &&& (2147483647 : Int32)) % (42 : Int32))), .val (.long big), .second, .val (.long x4), .second, .val (.long x5), .second, .val (.long x6), .second, .val (.ref b1), .val (.int (1 : Int32))] [])) τ
    refine XS.aload X36.here hx rfl (hb hby at_69) rfl rfl ?_
    show Steps p.tables e below (T36.setTop (mkF m 71 #[.val (.int p1), .val (.int p2), .val (.int p3), .val (.int p4), .val (.int p5), .val (.int p6), .val (.long ((p1 &&& (2097151 : Int32))).toInt64), .second, .val (.int ((p2 &&& (2147483647 : Int32)) % (42 : Int32))), .val (.long big), .second, .val (.long x4), .second, .val (.long x5), .second, .val (.long x6), .second, .val (.ref b1), .val (.int (1 : Int32))] [(.ref b1)])) τ
    refine XT.lload X36.here hx rfl (hb hby at_71) rfl ?_
    show Steps p.tables e below (T36.setTop (mkF m 73 #[.val (.int p1), .val (.int p2), .val (.int p3), .val (.int p4), .val (.int p5), .val (.int p6), .val (.long ((p1 &&& (2097151 : Int32))).toInt64), .second, .val (.int ((p2 &&& (2147483647 : Int32)) % (42 : Int32))), .val (.long big), .second, .val (.long x4), .second, .val (.long x5), .second, .val (.long x6), .second, .val (.ref b1), .val (.int (1 : Int32))] [(.long big), (.ref b1)])) τ
    refine own_l2d X36.here hx rfl (hb hby at_73) rfl ?_
    exact kt)
  obtain ⟨cq39, kq39, qa39, qb39, qc39⟩ := isOf hZ eq36 A33
  obtain ⟨_, _, ⟨T39, L39, k39, n39⟩, -, X39, ⟨Lc39, hQ39, l39, y39, z39⟩, st39⟩ := X36.virtualBack hx (y := (⟨"com/example/meticulous_ballot/meticulousballot/CompensatedSum", "add", "(D)V"⟩ : MethodName)) (z := (⟨"com/example/meticulous_ballot/meticulousballot/CompensatedSum", "add", "(D)V"⟩ : MethodName)) hown (mvT hZ (hw _ (List.mem_of_getElem? (i := 12) rfl))) (mvT hZ (hw _ (List.mem_of_getElem? (i := 13) rfl))) (notFace_of_selects (args := #[]) (mvT hZ (hw _ (List.mem_of_getElem? (i := 15) rfl)))) (mvT hZ (hw _ (List.mem_of_getElem? (i := 15) rfl))) (mvT hZ (hw _ (List.mem_of_getElem? (i := 14) rfl))) (by decide) (backOf (W := 0) (rmA l Z a0 hw [] b1 (FP.l2d big) (0 : UInt64) (0 : UInt64) h33 n0 (Nat.le_trans Z0 K33.1) A33 F_sum_b1 F_excess_b1 g_b1 (own_d_no k1) (own_d_no k2) (own_d_no k3) (own_d_no k4)) hZ (hw _ (List.mem_of_getElem? (i := 16) rfl)) (hw _ (List.mem_of_getElem? (i := 5) rfl)) (by decide) (by decide)) qa39 qc39 (g := (mkF m 74 #[.val (.int p1), .val (.int p2), .val (.int p3), .val (.int p4), .val (.int p5), .val (.int p6), .val (.long ((p1 &&& (2097151 : Int32))).toInt64), .second, .val (.int ((p2 &&& (2147483647 : Int32)) % (42 : Int32))), .val (.long big), .second, .val (.long x4), .second, .val (.long x5), .second, .val (.long x6), .second, .val (.ref b1), .val (.int (1 : Int32))] [(.double (FP.l2d big)), (.ref b1)])) rfl (by rw [hml]; rfl) (Steps.refl _) (argsL := [(.double (FP.l2d big))]) (rest := []) (lenOf own_pd__D_V rfl) rfl (by show 2 * 0 + _ ≤ _; exact Nat.le_of_eq rfl) (hb hby at_74) (fun _ _ => ⟨rfl, eq36, (by decide : 1 + 0 ≤ _), (by decide : 2 + 0 ≤ _)⟩)
  dsimp only [Pt.U, Pt.locs, Pt.cells, Pt.slots] at X39 l39 y39 z39 st39 hQ39
  subst l39 y39 z39
  obtain ⟨rfl, Nq39, Kq39, Fs39, Fe39⟩ := hQ39
  have N39 := Fr.app N36 Nq39
  have K39 : Keep h0 T39.heap [] := K33.trans Kq39 (allS (Or.inr sz_b1) (all0))
  have pre40 : ∀ τ, Steps p.tables e below (T39.setTop (mkF m 77 #[.val (.int p1), .val (.int p2), .val (.int p3), .val (.int p4), .val (.int p5), .val (.int p6), .val (.long ((p1 &&& (2097151 : Int32))).toInt64), .second, .val (.int ((p2 &&& (2147483647 : Int32)) % (42 : Int32))), .val (.long big), .second, .val (.long x4), .second, .val (.long x5), .second, .val (.long x6), .second, .val (.ref b1), .val (.int (1 : Int32))] [])) τ → Steps p.tables e below (s₁.setTop (entryFrame m #[(.int p1), (.int p2), (.int p3), (.int p4), (.int p5), (.int p6)] maxLocals)) τ := fun τ kt => pre38 τ ((st39).trans kt)
  obtain ⟨s1, e_s1⟩ : ∃ q : UInt64, q = (own_kn (0 : UInt64) (0 : UInt64) (FP.l2d big)) := ⟨_, rfl⟩
  rw [← e_s1] at Fs39
  obtain ⟨e1, e_e1⟩ : ∃ q : UInt64, q = (own_ke (0 : UInt64) (0 : UInt64) (FP.l2d big)) := ⟨_, rfl⟩
  rw [← e_e1] at Fe39
  have d1 : FP.Core.DInt big.toInt s1 := by rw [e_s1, hbz]; exact own_d_int_of k2
  have d1' : FP.Core.DInt (big.toInt - big.toInt) e1 := by rw [e_e1, Int.sub_self]; exact own_d_int.mp (own_d_0 k4)
  have dl1 : FP.Core.DInt big.toInt (FP.l2d big) := by rw [hbz]; exact own_d_int_of hL0
  have hs1 : (big.toInt - big.toInt).natAbs ≤ 4096 := by omega
  have pre43 : ∀ τ, Steps p.tables e below (T39.setTop (mkF m 81 #[.val (.int p1), .val (.int p2), .val (.int p3), .val (.int p4), .val (.int p5), .val (.int p6), .val (.long ((p1 &&& (2097151 : Int32))).toInt64), .second, .val (.int ((p2 &&& (2147483647 : Int32)) % (42 : Int32))), .val (.long big), .second, .val (.long x4), .second, .val (.long x5), .second, .val (.long x6), .second, .val (.ref b1), .val (.int (1 : Int32))] [(.ref b1), (.int (1 : Int32))])) τ → Steps p.tables e below (s₁.setTop (entryFrame m #[(.int p1), (.int p2), (.int p3), (.int p4), (.int p5), (.int p6)] maxLocals)) τ := fun τ kt => pre40 τ (by
    show Steps p.tables e below (T39.setTop (mkF m 77 #[.val (.int p1), .val (.int p2), .val (.int p3), .val (.int p4), .val (.int p5), .val (.int p6), .val (.long ((p1 &&& (2097151 : Int32))).toInt64), .second, .val (.int ((p2 &&& (2147483647 : Int32)) % (42 : Int32))), .val (.long big), .second, .val (.long x4), .second, .val (.long x5), .second, .val (.long x6), .second, .val (.ref b1), .val (.int (1 : Int32))] [])) τ
    refine XS.iload X39.here hx rfl (hb hby at_77) rfl ?_
    show Steps p.tables e below (T39.setTop (mkF m 79 #[.val (.int p1), .val (.int p2), .val (.int p3), .val (.int p4), .val (.int p5), .val (.int p6), .val (.long ((p1 &&& (2097151 : Int32))).toInt64), .second, .val (.int ((p2 &&& (2147483647 : Int32)) % (42 : Int32))), .val (.long big), .second, .val (.long x4), .second, .val (.long x5), .second, .val (.long x6), .second, .val (.ref b1), .val (.int (1 : Int32))] [(.int (1 : Int32))])) τ
    refine XS.aload X39.here hx rfl (hb hby at_79) rfl rfl ?_
    exact kt)
  have f45 := A33.keep Kq39
  obtain ⟨cq44, kq44, qa44, qb44, qc44⟩ := isOf hZ rfl f45
  obtain ⟨_, _, ⟨T44, L44, k44, n44⟩, -, X44, ⟨Lc44, hQ44, l44, y44, z44⟩, st44⟩ := X39.virtualBack hx (y := (⟨"com/example/meticulous_ballot/meticulousballot/CompensatedSum", "value", "()D"⟩ : MethodName)) (z := (⟨"com/example/meticulous_ballot/meticulousballot/CompensatedSum", "value", "()D"⟩ : MethodName)) hown (mvT hZ (hw _ (List.mem_of_getElem? (i := 21) rfl))) (mvT hZ (hw _ (List.mem_of_getElem? (i := 22) rfl))) (notFace_of_selects (args := #[]) (mvT hZ (hw _ (List.mem_of_getElem? (i := 24) rfl)))) (mvT hZ (hw _ (List.mem_of_getElem? (i := 24) rfl))) (mvT hZ (hw _ (List.mem_of_getElem? (i := 23) rfl))) (by decide) (backOf (W := 1) (rmV l Z a0 hw [] b1 s1 T39.heap n0 (Nat.le_trans Z0 K39.1) Fs39) hZ (hw _ (List.mem_of_getElem? (i := 25) rfl)) (hw _ (List.mem_of_getElem? (i := 5) rfl)) (by decide) (by decide)) qa44 qc44 (g := (mkF m 81 #[.val (.int p1), .val (.int p2), .val (.int p3), .val (.int p4), .val (.int p5), .val (.int p6), .val (.long ((p1 &&& (2097151 : Int32))).toInt64), .second, .val (.int ((p2 &&& (2147483647 : Int32)) % (42 : Int32))), .val (.long big), .second, .val (.long x4), .second, .val (.long x5), .second, .val (.long x6), .second, .val (.ref b1), .val (.int (1 : Int32))] [(.ref b1), (.int (1 : Int32))])) rfl (by rw [hml]; rfl) (Steps.refl _) (argsL := []) (rest := [(.int (1 : Int32))]) (lenOf own_pd___D rfl) rfl (by show 2 * 0 + _ ≤ _; exact Nat.le_of_eq rfl) (hb hby at_81) (fun _ _ => ⟨rfl, rfl, (by decide : 1 + 0 ≤ _), (by decide : 2 + 0 ≤ _)⟩)
  dsimp only [Pt.U, Pt.locs, Pt.cells, Pt.slots] at X44 l44 y44 z44 st44 hQ44
  subst l44 y44 z44
  obtain ⟨rfl, Nq44, eq44⟩ := hQ44
  have N44 := Fr.app N39 Nq44
  have pre46 : ∀ τ, Steps p.tables e below (T44.setTop (mkF m 84 #[.val (.int p1), .val (.int p2), .val (.int p3), .val (.int p4), .val (.int p5), .val (.int p6), .val (.long ((p1 &&& (2097151 : Int32))).toInt64), .second, .val (.int ((p2 &&& (2147483647 : Int32)) % (42 : Int32))), .val (.long big), .second, .val (.long x4), .second, .val (.long x5), .second, .val (.long x6), .second, .val (.ref b1), .val (.int (1 : Int32))] [(.double s1), (.int (1 : Int32))])) τ → Steps p.tables e below (s₁.setTop (entryFrame m #[(.int p1), (.int p2), (.int p3), (.int p4), (.int p5), (.int p6)] maxLocals)) τ := fun τ kt => pre43 τ ((st44).trans kt)
  have hE2 : (big + x4).toInt = big.toInt + x4.toInt := own_ladd (by omega) (by omega)
  have dx2 : FP.Core.DInt x4.toInt (FP.l2d x4) := FP.Core.l2d_int (by omega)
  obtain ⟨S2, u1, u2, hs2, u3, u4, u5⟩ := own_kahan (E := big.toInt) d1 d1' dx2 (by omega) (by omega) (by omega)
  have pre47 : ∀ τ, Steps p.tables e below (T44.setTop (mkF m 104 #[.val (.int p1), .val (.int p2), .val (.int p3), .val (.int p4), .val (.int p5), .val (.int p6), .val (.long ((p1 &&& (2097151 : Int32))).toInt64), .second, .val (.int ((p2 &&& (2147483647 : Int32)) % (42 : Int32))), .val (.long big), .second, .val (.long x4), .second, .val (.long x5), .second, .val (.long x6), .second, .val (.ref b1), .val (.int (1 : Int32))] [(.double (FP.l2d x4)), (.ref b1)])) τ → Steps p.tables e below (s₁.setTop (entryFrame m #[(.int p1), (.int p2), (.int p3), (.int p4), (.int p5), (.int p6)] maxLocals)) τ := fun τ kt => pre46 τ (by
    show Steps p.tables e below (T44.setTop (mkF m 84 #[.val (.int p1), .val (.int p2), .val (.int p3), .val (.int p4), .val (.int p5), .val (.int p6), .val (.long ((p1 &&& (2097151 : Int32))).toInt64), .second, .val (.int ((p2 &&& (2147483647 : Int32)) % (42 : Int32))), .val (.long big), .second, .val (.long x4), .second, .val (.long x5), .second, .val (.long x6), .second, .val (.ref b1), .val (.int (1 : Int32))] [(.double s1), (.int (1 : Int32))])) τ
    refine XT.lload X44.here hx rfl (hb hby at_84) rfl ?_
    show Steps p.tables e below (T44.setTop (mkF m 86 #[.val (.int p1), .val (.int p2), .val (.int p3), .val (.int p4), .val (.int p5), .val (.int p6), .val (.long ((p1 &&& (2097151 : Int32))).toInt64), .second, .val (.int ((p2 &&& (2147483647 : Int32)) % (42 : Int32))), .val (.long big), .second, .val (.long x4), .second, .val (.long x5), .second, .val (.long x6), .second, .val (.ref b1), .val (.int (1 : Int32))] [(.long big), (.double s1), (.int (1 : Int32))])) τ
    refine own_l2d X44.here hx rfl (hb hby at_86) rfl ?_
    show Steps p.tables e below (T44.setTop (mkF m 87 #[.val (.int p1), .val (.int p2), .val (.int p3), .val (.int p4), .val (.int p5), .val (.int p6), .val (.long ((p1 &&& (2097151 : Int32))).toInt64), .second, .val (.int ((p2 &&& (2147483647 : Int32)) % (42 : Int32))), .val (.long big), .second, .val (.long x4), .second, .val (.long x5), .second, .val (.long x6), .second, .val (.ref b1), .val (.int (1 : Int32))] [(.double (FP.l2d big)), (.double s1), (.int (1 : Int32))])) τ
    refine own_dcmp X44.here hx rfl (hb hby at_87) rfl ?_
    show Steps p.tables e below (T44.setTop (mkF m 88 #[.val (.int p1), .val (.int p2), .val (.int p3), .val (.int p4), .val (.int p5), .val (.int p6), .val (.long ((p1 &&& (2097151 : Int32))).toInt64), .second, .val (.int ((p2 &&& (2147483647 : Int32)) % (42 : Int32))), .val (.long big), .second, .val (.long x4), .second, .val (.long x5), .second, .val (.long x6), .second, .val (.ref b1), .val (.int (1 : Int32))] [(.int (cmpValue (FP.dcmp s1 (FP.l2d big)) .l)), (.int (1 : Int32))])) τ
    refine XS.ifNo X44.here hx rfl (hb hby at_88) rfl ((if0 _ _).trans (teq (own_cmp0.mpr (by rw [show FP.dcmp s1 (FP.l2d big) = _ from FP.Core.dcmp_int d1 dl1, own_cmp_eq]))).2) ?_
    show Steps p.tables e below (T44.setTop (mkF m 91 #[.val (.int p1), .val (.int p2), .val (.int p3), .val (.int p4), .val (.int p5), .val (.int p6), .val (.long ((p1 &&& (2097151 : Int32))).toInt64), .second, .val (.int ((p2 &&& (2147483647 : Int32)) % (42 : Int32))), .val (.long big), .second, .val (.long x4), .second, .val (.long x5), .second, .val (.long x6), .second, .val (.ref b1), .val (.int (1 : Int32))] [(.int (1 : Int32))])) τ
    refine XS.iconst X44.here hx rfl (hb hby at_91) ?_
    show Steps p.tables e below (T44.setTop (mkF m 92 #[.val (.int p1), .val (.int p2), .val (.int p3), .val (.int p4), .val (.int p5), .val (.int p6), .val (.long ((p1 &&& (2097151 : Int32))).toInt64), .second, .val (.int ((p2 &&& (2147483647 : Int32)) % (42 : Int32))), .val (.long big), .second, .val (.long x4), .second, .val (.long x5), .second, .val (.long x6), .second, .val (.ref b1), .val (.int (1 : Int32))] [(.int (1 : Int32)), (.int (1 : Int32))])) τ
    refine XS.goto X44.here hx rfl (pc0 := 92) (pc' := 96) rfl (hb hby at_92) (by decide) (by decide) ?_
    show Steps p.tables e below (T44.setTop (mkF m 96 #[.val (.int p1), .val (.int p2), .val (.int p3), .val (.int p4), .val (.int p5), .val (.int p6), .val (.long ((p1 &&& (2097151 : Int32))).toInt64), .second, .val (.int ((p2 &&& (2147483647 : Int32)) % (42 : Int32))), .val (.long big), .second, .val (.long x4), .second, .val (.long x5), .second, .val (.long x6), .second, .val (.ref b1), .val (.int (1 : Int32))] [(.int (1 : Int32)), (.int (1 : Int32))])) τ
    refine XS.iand X44.here hx rfl (hb hby at_96) rfl ?_
    show Steps p.tables e below (T44.setTop (mkF m 97 #[.val (.int p1), .val (.int p2), .val (.int p3), .val (.int p4), .val (.int p5), .val (.int p6), .val (.long ((p1 &&& (2097151 : Int32))).toInt64), .second, .val (.int ((p2 &&& (2147483647 : Int32)) % (42 : Int32))), .val (.long big), .second, .val (.long x4), .second, .val (.long x5), .second, .val (.long x6), .second, .val (.ref b1), .val (.int (1 : Int32))] [(.int (1 : Int32))])) τ
    refine XS.istore X44.here hx rfl (hb hby at_97) rfl (l' := #[.val (.int p1), .val (.int p2), .val (.int p3), .val (.int p4), .val (.int p5), .val (.int p6), .val (.long ((p1 &&& (2097151 : Int32))).toInt64), .second, .val (.int ((p2 &&& (2147483647 : Int32)) % (42 : Int32))), .val (.long big), .second, .val (.long x4), .second, .val (.long x5), .second, .val (.long x6), .second, .val (.ref b1), .val (.int (1 : Int32))]) rfl ?_
    show Steps p.tables e below (T44.setTop (mkF m 99 #[.val (.int p1), .val (.int p2), .val (.int p3), .val (.int p4), .val (.int p5), .val (.int p6), .val (.long ((p1 &&& (2097151 : Int32))).toInt64), .second, .val (.int ((p2 &&& (2147483647 : Int32)) % (42 : Int32))), .val (.long big), .second, .val (.long x4), .second, .val (.long x5), .second, .val (.long x6), .second, .val (.ref b1), .val (.int (1 : Int32))] [])) τ
    refine XS.aload X44.here hx rfl (hb hby at_99) rfl rfl ?_
    show Steps p.tables e below (T44.setTop (mkF m 101 #[.val (.int p1), .val (.int p2), .val (.int p3), .val (.int p4), .val (.int p5), .val (.int p6), .val (.long ((p1 &&& (2097151 : Int32))).toInt64), .second, .val (.int ((p2 &&& (2147483647 : Int32)) % (42 : Int32))), .val (.long big), .second, .val (.long x4), .second, .val (.long x5), .second, .val (.long x6), .second, .val (.ref b1), .val (.int (1 : Int32))] [(.ref b1)])) τ
    refine XT.lload X44.here hx rfl (hb hby at_101) rfl ?_
    show Steps p.tables e below (T44.setTop (mkF m 103 #[.val (.int p1), .val (.int p2), .val (.int p3), .val (.int p4), .val (.int p5), .val (.int p6), .val (.long ((p1 &&& (2097151 : Int32))).toInt64), .second, .val (.int ((p2 &&& (2147483647 : Int32)) % (42 : Int32))), .val (.long big), .second, .val (.long x4), .second, .val (.long x5), .second, .val (.long x6), .second, .val (.ref b1), .val (.int (1 : Int32))] [(.long x4), (.ref b1)])) τ
    refine own_l2d X44.here hx rfl (hb hby at_103) rfl ?_
    exact kt)
  obtain ⟨cq48, kq48, qa48, qb48, qc48⟩ := isOf hZ eq44 f45
  obtain ⟨_, _, ⟨T48, L48, k48, n48⟩, -, X48, ⟨Lc48, hQ48, l48, y48, z48⟩, st48⟩ := X44.virtualBack hx (y := (⟨"com/example/meticulous_ballot/meticulousballot/CompensatedSum", "add", "(D)V"⟩ : MethodName)) (z := (⟨"com/example/meticulous_ballot/meticulousballot/CompensatedSum", "add", "(D)V"⟩ : MethodName)) hown (mvT hZ (hw _ (List.mem_of_getElem? (i := 12) rfl))) (mvT hZ (hw _ (List.mem_of_getElem? (i := 13) rfl))) (notFace_of_selects (args := #[]) (mvT hZ (hw _ (List.mem_of_getElem? (i := 15) rfl)))) (mvT hZ (hw _ (List.mem_of_getElem? (i := 15) rfl))) (mvT hZ (hw _ (List.mem_of_getElem? (i := 14) rfl))) (by decide) (backOf (W := 0) (rmA l Z a0 hw [] b1 (FP.l2d x4) s1 e1 T39.heap n0 (Nat.le_trans Z0 K39.1) f45 Fs39 Fe39 g_b1 (own_dint_no u3) (own_dint_no u1) (own_dint_no u4) (own_dint_no u2)) hZ (hw _ (List.mem_of_getElem? (i := 16) rfl)) (hw _ (List.mem_of_getElem? (i := 5) rfl)) (by decide) (by decide)) qa48 qc48 (g := (mkF m 104 #[.val (.int p1), .val (.int p2), .val (.int p3), .val (.int p4), .val (.int p5), .val (.int p6), .val (.long ((p1 &&& (2097151 : Int32))).toInt64), .second, .val (.int ((p2 &&& (2147483647 : Int32)) % (42 : Int32))), .val (.long big), .second, .val (.long x4), .second, .val (.long x5), .second, .val (.long x6), .second, .val (.ref b1), .val (.int (1 : Int32))] [(.double (FP.l2d x4)), (.ref b1)])) rfl (by rw [hml]; rfl) (Steps.refl _) (argsL := [(.double (FP.l2d x4))]) (rest := []) (lenOf own_pd__D_V rfl) rfl (by show 2 * 0 + _ ≤ _; exact Nat.le_of_eq rfl) (hb hby at_104) (fun _ _ => ⟨rfl, eq44, (by decide : 1 + 0 ≤ _), (by decide : 2 + 0 ≤ _)⟩)
  dsimp only [Pt.U, Pt.locs, Pt.cells, Pt.slots] at X48 l48 y48 z48 st48 hQ48
  subst l48 y48 z48
  obtain ⟨rfl, Nq48, Kq48, Fs48, Fe48⟩ := hQ48
  have N48 := Fr.app N44 Nq48
  have K48 : Keep h0 T48.heap [] := K39.trans Kq48 (allS (Or.inr sz_b1) (all0))
  have pre49 : ∀ τ, Steps p.tables e below (T48.setTop (mkF m 107 #[.val (.int p1), .val (.int p2), .val (.int p3), .val (.int p4), .val (.int p5), .val (.int p6), .val (.long ((p1 &&& (2097151 : Int32))).toInt64), .second, .val (.int ((p2 &&& (2147483647 : Int32)) % (42 : Int32))), .val (.long big), .second, .val (.long x4), .second, .val (.long x5), .second, .val (.long x6), .second, .val (.ref b1), .val (.int (1 : Int32))] [])) τ → Steps p.tables e below (s₁.setTop (entryFrame m #[(.int p1), (.int p2), (.int p3), (.int p4), (.int p5), (.int p6)] maxLocals)) τ := fun τ kt => pre47 τ ((st48).trans kt)
  obtain ⟨s2, e_s2⟩ : ∃ q : UInt64, q = (own_kn s1 e1 (FP.l2d x4)) := ⟨_, rfl⟩
  rw [← e_s2] at Fs48
  obtain ⟨e2, e_e2⟩ : ∃ q : UInt64, q = (own_ke s1 e1 (FP.l2d x4)) := ⟨_, rfl⟩
  rw [← e_e2] at Fe48
  have d2 : FP.Core.DInt S2 s2 := by rw [e_s2]; exact u1
  have d2' : FP.Core.DInt (S2 - (big + x4).toInt) e2 := by rw [e_e2, hE2]; exact u2
  have dl2 : FP.Core.DInt S2 (FP.l2d (big + x4)) := u5 _ hE2
  have hs2' : (S2 - (big + x4).toInt).natAbs ≤ 4096 := by rw [hE2]; exact hs2
  have pre52 : ∀ τ, Steps p.tables e below (T48.setTop (mkF m 111 #[.val (.int p1), .val (.int p2), .val (.int p3), .val (.int p4), .val (.int p5), .val (.int p6), .val (.long ((p1 &&& (2097151 : Int32))).toInt64), .second, .val (.int ((p2 &&& (2147483647 : Int32)) % (42 : Int32))), .val (.long big), .second, .val (.long x4), .second, .val (.long x5), .second, .val (.long x6), .second, .val (.ref b1), .val (.int (1 : Int32))] [(.ref b1), (.int (1 : Int32))])) τ → Steps p.tables e below (s₁.setTop (entryFrame m #[(.int p1), (.int p2), (.int p3), (.int p4), (.int p5), (.int p6)] maxLocals)) τ := fun τ kt => pre49 τ (by
    show Steps p.tables e below (T48.setTop (mkF m 107 #[.val (.int p1), .val (.int p2), .val (.int p3), .val (.int p4), .val (.int p5), .val (.int p6), .val (.long ((p1 &&& (2097151 : Int32))).toInt64), .second, .val (.int ((p2 &&& (2147483647 : Int32)) % (42 : Int32))), .val (.long big), .second, .val (.long x4), .second, .val (.long x5), .second, .val (.long x6), .second, .val (.ref b1), .val (.int (1 : Int32))] [])) τ
    refine XS.iload X48.here hx rfl (hb hby at_107) rfl ?_
    show Steps p.tables e below (T48.setTop (mkF m 109 #[.val (.int p1), .val (.int p2), .val (.int p3), .val (.int p4), .val (.int p5), .val (.int p6), .val (.long ((p1 &&& (2097151 : Int32))).toInt64), .second, .val (.int ((p2 &&& (2147483647 : Int32)) % (42 : Int32))), .val (.long big), .second, .val (.long x4), .second, .val (.long x5), .second, .val (.long x6), .second, .val (.ref b1), .val (.int (1 : Int32))] [(.int (1 : Int32))])) τ
    refine XS.aload X48.here hx rfl (hb hby at_109) rfl rfl ?_
    exact kt)
  have f54 := f45.keep Kq48
  obtain ⟨cq53, kq53, qa53, qb53, qc53⟩ := isOf hZ rfl f54
  obtain ⟨_, _, ⟨T53, L53, k53, n53⟩, -, X53, ⟨Lc53, hQ53, l53, y53, z53⟩, st53⟩ := X48.virtualBack hx (y := (⟨"com/example/meticulous_ballot/meticulousballot/CompensatedSum", "value", "()D"⟩ : MethodName)) (z := (⟨"com/example/meticulous_ballot/meticulousballot/CompensatedSum", "value", "()D"⟩ : MethodName)) hown (mvT hZ (hw _ (List.mem_of_getElem? (i := 21) rfl))) (mvT hZ (hw _ (List.mem_of_getElem? (i := 22) rfl))) (notFace_of_selects (args := #[]) (mvT hZ (hw _ (List.mem_of_getElem? (i := 24) rfl)))) (mvT hZ (hw _ (List.mem_of_getElem? (i := 24) rfl))) (mvT hZ (hw _ (List.mem_of_getElem? (i := 23) rfl))) (by decide) (backOf (W := 1) (rmV l Z a0 hw [] b1 s2 T48.heap n0 (Nat.le_trans Z0 K48.1) Fs48) hZ (hw _ (List.mem_of_getElem? (i := 25) rfl)) (hw _ (List.mem_of_getElem? (i := 5) rfl)) (by decide) (by decide)) qa53 qc53 (g := (mkF m 111 #[.val (.int p1), .val (.int p2), .val (.int p3), .val (.int p4), .val (.int p5), .val (.int p6), .val (.long ((p1 &&& (2097151 : Int32))).toInt64), .second, .val (.int ((p2 &&& (2147483647 : Int32)) % (42 : Int32))), .val (.long big), .second, .val (.long x4), .second, .val (.long x5), .second, .val (.long x6), .second, .val (.ref b1), .val (.int (1 : Int32))] [(.ref b1), (.int (1 : Int32))])) rfl (by rw [hml]; rfl) (Steps.refl _) (argsL := []) (rest := [(.int (1 : Int32))]) (lenOf own_pd___D rfl) rfl (by show 2 * 0 + _ ≤ _; exact Nat.le_of_eq rfl) (hb hby at_111) (fun _ _ => ⟨rfl, rfl, (by decide : 1 + 0 ≤ _), (by decide : 2 + 0 ≤ _)⟩)
  dsimp only [Pt.U, Pt.locs, Pt.cells, Pt.slots] at X53 l53 y53 z53 st53 hQ53
  subst l53 y53 z53
  obtain ⟨rfl, Nq53, eq53⟩ := hQ53
  have N53 := Fr.app N48 Nq53
  have pre55 : ∀ τ, Steps p.tables e below (T53.setTop (mkF m 114 #[.val (.int p1), .val (.int p2), .val (.int p3), .val (.int p4), .val (.int p5), .val (.int p6), .val (.long ((p1 &&& (2097151 : Int32))).toInt64), .second, .val (.int ((p2 &&& (2147483647 : Int32)) % (42 : Int32))), .val (.long big), .second, .val (.long x4), .second, .val (.long x5), .second, .val (.long x6), .second, .val (.ref b1), .val (.int (1 : Int32))] [(.double s2), (.int (1 : Int32))])) τ → Steps p.tables e below (s₁.setTop (entryFrame m #[(.int p1), (.int p2), (.int p3), (.int p4), (.int p5), (.int p6)] maxLocals)) τ := fun τ kt => pre52 τ ((st53).trans kt)
  have hE3 : ((big + x4) + x5).toInt = (big + x4).toInt + x5.toInt := own_ladd (by omega) (by omega)
  have dx3 : FP.Core.DInt x5.toInt (FP.l2d x5) := FP.Core.l2d_int (by omega)
  obtain ⟨S3, u1, u2, hs3, u3, u4, u5⟩ := own_kahan (E := (big + x4).toInt) d2 d2' dx3 (by omega) (by omega) (by omega)
  have pre56 : ∀ τ, Steps p.tables e below (T53.setTop (mkF m 137 #[.val (.int p1), .val (.int p2), .val (.int p3), .val (.int p4), .val (.int p5), .val (.int p6), .val (.long ((p1 &&& (2097151 : Int32))).toInt64), .second, .val (.int ((p2 &&& (2147483647 : Int32)) % (42 : Int32))), .val (.long big), .second, .val (.long x4), .second, .val (.long x5), .second, .val (.long x6), .second, .val (.ref b1), .val (.int (1 : Int32))] [(.double (FP.l2d x5)), (.ref b1)])) τ → Steps p.tables e below (s₁.setTop (entryFrame m #[(.int p1), (.int p2), (.int p3), (.int p4), (.int p5), (.int p6)] maxLocals)) τ := fun τ kt => pre55 τ (by
    show Steps p.tables e below (T53.setTop (mkF m 114 #[.val (.int p1), .val (.int p2), .val (.int p3), .val (.int p4), .val (.int p5), .val (.int p6), .val (.long ((p1 &&& (2097151 : Int32))).toInt64), .second, .val (.int ((p2 &&& (2147483647 : Int32)) % (42 : Int32))), .val (.long big), .second, .val (.long x4), .second, .val (.long x5), .second, .val (.long x6), .second, .val (.ref b1), .val (.int (1 : Int32))] [(.double s2), (.int (1 : Int32))])) τ
    refine XT.lload X53.here hx rfl (hb hby at_114) rfl ?_
    show Steps p.tables e below (T53.setTop (mkF m 116 #[.val (.int p1), .val (.int p2), .val (.int p3), .val (.int p4), .val (.int p5), .val (.int p6), .val (.long ((p1 &&& (2097151 : Int32))).toInt64), .second, .val (.int ((p2 &&& (2147483647 : Int32)) % (42 : Int32))), .val (.long big), .second, .val (.long x4), .second, .val (.long x5), .second, .val (.long x6), .second, .val (.ref b1), .val (.int (1 : Int32))] [(.long big), (.double s2), (.int (1 : Int32))])) τ
    refine XT.lload X53.here hx rfl (hb hby at_116) rfl ?_
    show Steps p.tables e below (T53.setTop (mkF m 118 #[.val (.int p1), .val (.int p2), .val (.int p3), .val (.int p4), .val (.int p5), .val (.int p6), .val (.long ((p1 &&& (2097151 : Int32))).toInt64), .second, .val (.int ((p2 &&& (2147483647 : Int32)) % (42 : Int32))), .val (.long big), .second, .val (.long x4), .second, .val (.long x5), .second, .val (.long x6), .second, .val (.ref b1), .val (.int (1 : Int32))] [(.long x4), (.long big), (.double s2), (.int (1 : Int32))])) τ
    refine XT.ladd X53.here hx rfl (hb hby at_118) rfl ?_
    show Steps p.tables e below (T53.setTop (mkF m 119 #[.val (.int p1), .val (.int p2), .val (.int p3), .val (.int p4), .val (.int p5), .val (.int p6), .val (.long ((p1 &&& (2097151 : Int32))).toInt64), .second, .val (.int ((p2 &&& (2147483647 : Int32)) % (42 : Int32))), .val (.long big), .second, .val (.long x4), .second, .val (.long x5), .second, .val (.long x6), .second, .val (.ref b1), .val (.int (1 : Int32))] [(.long (big + x4)), (.double s2), (.int (1 : Int32))])) τ
    refine own_l2d X53.here hx rfl (hb hby at_119) rfl ?_
    show Steps p.tables e below (T53.setTop (mkF m 120 #[.val (.int p1), .val (.int p2), .val (.int p3), .val (.int p4), .val (.int p5), .val (.int p6), .val (.long ((p1 &&& (2097151 : Int32))).toInt64), .second, .val (.int ((p2 &&& (2147483647 : Int32)) % (42 : Int32))), .val (.long big), .second, .val (.long x4), .second, .val (.long x5), .second, .val (.long x6), .second, .val (.ref b1), .val (.int (1 : Int32))] [(.double (FP.l2d (big + x4))), (.double s2), (.int (1 : Int32))])) τ
    refine own_dcmp X53.here hx rfl (hb hby at_120) rfl ?_
    show Steps p.tables e below (T53.setTop (mkF m 121 #[.val (.int p1), .val (.int p2), .val (.int p3), .val (.int p4), .val (.int p5), .val (.int p6), .val (.long ((p1 &&& (2097151 : Int32))).toInt64), .second, .val (.int ((p2 &&& (2147483647 : Int32)) % (42 : Int32))), .val (.long big), .second, .val (.long x4), .second, .val (.long x5), .second, .val (.long x6), .second, .val (.ref b1), .val (.int (1 : Int32))] [(.int (cmpValue (FP.dcmp s2 (FP.l2d (big + x4))) .l)), (.int (1 : Int32))])) τ
    refine XS.ifNo X53.here hx rfl (hb hby at_121) rfl ((if0 _ _).trans (teq (own_cmp0.mpr (by rw [show FP.dcmp s2 (FP.l2d (big + x4)) = _ from FP.Core.dcmp_int d2 dl2, own_cmp_eq]))).2) ?_
    show Steps p.tables e below (T53.setTop (mkF m 124 #[.val (.int p1), .val (.int p2), .val (.int p3), .val (.int p4), .val (.int p5), .val (.int p6), .val (.long ((p1 &&& (2097151 : Int32))).toInt64), .second, .val (.int ((p2 &&& (2147483647 : Int32)) % (42 : Int32))), .val (.long big), .second, .val (.long x4), .second, .val (.long x5), .second, .val (.long x6), .second, .val (.ref b1), .val (.int (1 : Int32))] [(.int (1 : Int32))])) τ
    refine XS.iconst X53.here hx rfl (hb hby at_124) ?_
    show Steps p.tables e below (T53.setTop (mkF m 125 #[.val (.int p1), .val (.int p2), .val (.int p3), .val (.int p4), .val (.int p5), .val (.int p6), .val (.long ((p1 &&& (2097151 : Int32))).toInt64), .second, .val (.int ((p2 &&& (2147483647 : Int32)) % (42 : Int32))), .val (.long big), .second, .val (.long x4), .second, .val (.long x5), .second, .val (.long x6), .second, .val (.ref b1), .val (.int (1 : Int32))] [(.int (1 : Int32)), (.int (1 : Int32))])) τ
    refine XS.goto X53.here hx rfl (pc0 := 125) (pc' := 129) rfl (hb hby at_125) (by decide) (by decide) ?_
    show Steps p.tables e below (T53.setTop (mkF m 129 #[.val (.int p1), .val (.int p2), .val (.int p3), .val (.int p4), .val (.int p5), .val (.int p6), .val (.long ((p1 &&& (2097151 : Int32))).toInt64), .second, .val (.int ((p2 &&& (2147483647 : Int32)) % (42 : Int32))), .val (.long big), .second, .val (.long x4), .second, .val (.long x5), .second, .val (.long x6), .second, .val (.ref b1), .val (.int (1 : Int32))] [(.int (1 : Int32)), (.int (1 : Int32))])) τ
    refine XS.iand X53.here hx rfl (hb hby at_129) rfl ?_
    show Steps p.tables e below (T53.setTop (mkF m 130 #[.val (.int p1), .val (.int p2), .val (.int p3), .val (.int p4), .val (.int p5), .val (.int p6), .val (.long ((p1 &&& (2097151 : Int32))).toInt64), .second, .val (.int ((p2 &&& (2147483647 : Int32)) % (42 : Int32))), .val (.long big), .second, .val (.long x4), .second, .val (.long x5), .second, .val (.long x6), .second, .val (.ref b1), .val (.int (1 : Int32))] [(.int (1 : Int32))])) τ
    refine XS.istore X53.here hx rfl (hb hby at_130) rfl (l' := #[.val (.int p1), .val (.int p2), .val (.int p3), .val (.int p4), .val (.int p5), .val (.int p6), .val (.long ((p1 &&& (2097151 : Int32))).toInt64), .second, .val (.int ((p2 &&& (2147483647 : Int32)) % (42 : Int32))), .val (.long big), .second, .val (.long x4), .second, .val (.long x5), .second, .val (.long x6), .second, .val (.ref b1), .val (.int (1 : Int32))]) rfl ?_
    show Steps p.tables e below (T53.setTop (mkF m 132 #[.val (.int p1), .val (.int p2), .val (.int p3), .val (.int p4), .val (.int p5), .val (.int p6), .val (.long ((p1 &&& (2097151 : Int32))).toInt64), .second, .val (.int ((p2 &&& (2147483647 : Int32)) % (42 : Int32))), .val (.long big), .second, .val (.long x4), .second, .val (.long x5), .second, .val (.long x6), .second, .val (.ref b1), .val (.int (1 : Int32))] [])) τ
    refine XS.aload X53.here hx rfl (hb hby at_132) rfl rfl ?_
    show Steps p.tables e below (T53.setTop (mkF m 134 #[.val (.int p1), .val (.int p2), .val (.int p3), .val (.int p4), .val (.int p5), .val (.int p6), .val (.long ((p1 &&& (2097151 : Int32))).toInt64), .second, .val (.int ((p2 &&& (2147483647 : Int32)) % (42 : Int32))), .val (.long big), .second, .val (.long x4), .second, .val (.long x5), .second, .val (.long x6), .second, .val (.ref b1), .val (.int (1 : Int32))] [(.ref b1)])) τ
    refine XT.lload X53.here hx rfl (hb hby at_134) rfl ?_
    show Steps p.tables e below (T53.setTop (mkF m 136 #[.val (.int p1), .val (.int p2), .val (.int p3), .val (.int p4), .val (.int p5), .val (.int p6), .val (.long ((p1 &&& (2097151 : Int32))).toInt64), .second, .val (.int ((p2 &&& (2147483647 : Int32)) % (42 : Int32))), .val (.long big), .second, .val (.long x4), .second, .val (.long x5), .second, .val (.long x6), .second, .val (.ref b1), .val (.int (1 : Int32))] [(.long x5), (.ref b1)])) τ
    refine own_l2d X53.here hx rfl (hb hby at_136) rfl ?_
    exact kt)
  obtain ⟨cq57, kq57, qa57, qb57, qc57⟩ := isOf hZ eq53 f54
  obtain ⟨_, _, ⟨T57, L57, k57, n57⟩, -, X57, ⟨Lc57, hQ57, l57, y57, z57⟩, st57⟩ := X53.virtualBack hx (y := (⟨"com/example/meticulous_ballot/meticulousballot/CompensatedSum", "add", "(D)V"⟩ : MethodName)) (z := (⟨"com/example/meticulous_ballot/meticulousballot/CompensatedSum", "add", "(D)V"⟩ : MethodName)) hown (mvT hZ (hw _ (List.mem_of_getElem? (i := 12) rfl))) (mvT hZ (hw _ (List.mem_of_getElem? (i := 13) rfl))) (notFace_of_selects (args := #[]) (mvT hZ (hw _ (List.mem_of_getElem? (i := 15) rfl)))) (mvT hZ (hw _ (List.mem_of_getElem? (i := 15) rfl))) (mvT hZ (hw _ (List.mem_of_getElem? (i := 14) rfl))) (by decide) (backOf (W := 0) (rmA l Z a0 hw [] b1 (FP.l2d x5) s2 e2 T48.heap n0 (Nat.le_trans Z0 K48.1) f54 Fs48 Fe48 g_b1 (own_dint_no u3) (own_dint_no u1) (own_dint_no u4) (own_dint_no u2)) hZ (hw _ (List.mem_of_getElem? (i := 16) rfl)) (hw _ (List.mem_of_getElem? (i := 5) rfl)) (by decide) (by decide)) qa57 qc57 (g := (mkF m 137 #[.val (.int p1), .val (.int p2), .val (.int p3), .val (.int p4), .val (.int p5), .val (.int p6), .val (.long ((p1 &&& (2097151 : Int32))).toInt64), .second, .val (.int ((p2 &&& (2147483647 : Int32)) % (42 : Int32))), .val (.long big), .second, .val (.long x4), .second, .val (.long x5), .second, .val (.long x6), .second, .val (.ref b1), .val (.int (1 : Int32))] [(.double (FP.l2d x5)), (.ref b1)])) rfl (by rw [hml]; rfl) (Steps.refl _) (argsL := [(.double (FP.l2d x5))]) (rest := []) (lenOf own_pd__D_V rfl) rfl (by show 2 * 0 + _ ≤ _; exact Nat.le_of_eq rfl) (hb hby at_137) (fun _ _ => ⟨rfl, eq53, (by decide : 1 + 0 ≤ _), (by decide : 2 + 0 ≤ _)⟩)
  dsimp only [Pt.U, Pt.locs, Pt.cells, Pt.slots] at X57 l57 y57 z57 st57 hQ57
  subst l57 y57 z57
  obtain ⟨rfl, Nq57, Kq57, Fs57, Fe57⟩ := hQ57
  have N57 := Fr.app N53 Nq57
  have K57 : Keep h0 T57.heap [] := K48.trans Kq57 (allS (Or.inr sz_b1) (all0))
  have pre58 : ∀ τ, Steps p.tables e below (T57.setTop (mkF m 140 #[.val (.int p1), .val (.int p2), .val (.int p3), .val (.int p4), .val (.int p5), .val (.int p6), .val (.long ((p1 &&& (2097151 : Int32))).toInt64), .second, .val (.int ((p2 &&& (2147483647 : Int32)) % (42 : Int32))), .val (.long big), .second, .val (.long x4), .second, .val (.long x5), .second, .val (.long x6), .second, .val (.ref b1), .val (.int (1 : Int32))] [])) τ → Steps p.tables e below (s₁.setTop (entryFrame m #[(.int p1), (.int p2), (.int p3), (.int p4), (.int p5), (.int p6)] maxLocals)) τ := fun τ kt => pre56 τ ((st57).trans kt)
  obtain ⟨s3, e_s3⟩ : ∃ q : UInt64, q = (own_kn s2 e2 (FP.l2d x5)) := ⟨_, rfl⟩
  rw [← e_s3] at Fs57
  obtain ⟨e3, e_e3⟩ : ∃ q : UInt64, q = (own_ke s2 e2 (FP.l2d x5)) := ⟨_, rfl⟩
  rw [← e_e3] at Fe57
  have d3 : FP.Core.DInt S3 s3 := by rw [e_s3]; exact u1
  have d3' : FP.Core.DInt (S3 - ((big + x4) + x5).toInt) e3 := by rw [e_e3, hE3]; exact u2
  have dl3 : FP.Core.DInt S3 (FP.l2d ((big + x4) + x5)) := u5 _ hE3
  have hs3' : (S3 - ((big + x4) + x5).toInt).natAbs ≤ 4096 := by rw [hE3]; exact hs3
  have pre61 : ∀ τ, Steps p.tables e below (T57.setTop (mkF m 144 #[.val (.int p1), .val (.int p2), .val (.int p3), .val (.int p4), .val (.int p5), .val (.int p6), .val (.long ((p1 &&& (2097151 : Int32))).toInt64), .second, .val (.int ((p2 &&& (2147483647 : Int32)) % (42 : Int32))), .val (.long big), .second, .val (.long x4), .second, .val (.long x5), .second, .val (.long x6), .second, .val (.ref b1), .val (.int (1 : Int32))] [(.ref b1), (.int (1 : Int32))])) τ → Steps p.tables e below (s₁.setTop (entryFrame m #[(.int p1), (.int p2), (.int p3), (.int p4), (.int p5), (.int p6)] maxLocals)) τ := fun τ kt => pre58 τ (by
    show Steps p.tables e below (T57.setTop (mkF m 140 #[.val (.int p1), .val (.int p2), .val (.int p3), .val (.int p4), .val (.int p5), .val (.int p6), .val (.long ((p1 &&& (2097151 : Int32))).toInt64), .second, .val (.int ((p2 &&& (2147483647 : Int32)) % (42 : Int32))), .val (.long big), .second, .val (.long x4), .second, .val (.long x5), .second, .val (.long x6), .second, .val (.ref b1), .val (.int (1 : Int32))] [])) τ
    refine XS.iload X57.here hx rfl (hb hby at_140) rfl ?_
    show Steps p.tables e below (T57.setTop (mkF m 142 #[.val (.int p1), .val (.int p2), .val (.int p3), .val (.int p4), .val (.int p5), .val (.int p6), .val (.long ((p1 &&& (2097151 : Int32))).toInt64), .second, .val (.int ((p2 &&& (2147483647 : Int32)) % (42 : Int32))), .val (.long big), .second, .val (.long x4), .second, .val (.long x5), .second, .val (.long x6), .second, .val (.ref b1), .val (.int (1 : Int32))] [(.int (1 : Int32))])) τ
    refine XS.aload X57.here hx rfl (hb hby at_142) rfl rfl ?_
    exact kt)
  have f63 := f54.keep Kq57
  obtain ⟨cq62, kq62, qa62, qb62, qc62⟩ := isOf hZ rfl f63
  obtain ⟨_, _, ⟨T62, L62, k62, n62⟩, -, X62, ⟨Lc62, hQ62, l62, y62, z62⟩, st62⟩ := X57.virtualBack hx (y := (⟨"com/example/meticulous_ballot/meticulousballot/CompensatedSum", "value", "()D"⟩ : MethodName)) (z := (⟨"com/example/meticulous_ballot/meticulousballot/CompensatedSum", "value", "()D"⟩ : MethodName)) hown (mvT hZ (hw _ (List.mem_of_getElem? (i := 21) rfl))) (mvT hZ (hw _ (List.mem_of_getElem? (i := 22) rfl))) (notFace_of_selects (args := #[]) (mvT hZ (hw _ (List.mem_of_getElem? (i := 24) rfl)))) (mvT hZ (hw _ (List.mem_of_getElem? (i := 24) rfl))) (mvT hZ (hw _ (List.mem_of_getElem? (i := 23) rfl))) (by decide) (backOf (W := 1) (rmV l Z a0 hw [] b1 s3 T57.heap n0 (Nat.le_trans Z0 K57.1) Fs57) hZ (hw _ (List.mem_of_getElem? (i := 25) rfl)) (hw _ (List.mem_of_getElem? (i := 5) rfl)) (by decide) (by decide)) qa62 qc62 (g := (mkF m 144 #[.val (.int p1), .val (.int p2), .val (.int p3), .val (.int p4), .val (.int p5), .val (.int p6), .val (.long ((p1 &&& (2097151 : Int32))).toInt64), .second, .val (.int ((p2 &&& (2147483647 : Int32)) % (42 : Int32))), .val (.long big), .second, .val (.long x4), .second, .val (.long x5), .second, .val (.long x6), .second, .val (.ref b1), .val (.int (1 : Int32))] [(.ref b1), (.int (1 : Int32))])) rfl (by rw [hml]; rfl) (Steps.refl _) (argsL := []) (rest := [(.int (1 : Int32))]) (lenOf own_pd___D rfl) rfl (by show 2 * 0 + _ ≤ _; exact Nat.le_of_eq rfl) (hb hby at_144) (fun _ _ => ⟨rfl, rfl, (by decide : 1 + 0 ≤ _), (by decide : 2 + 0 ≤ _)⟩)
  dsimp only [Pt.U, Pt.locs, Pt.cells, Pt.slots] at X62 l62 y62 z62 st62 hQ62
  subst l62 y62 z62
  obtain ⟨rfl, Nq62, eq62⟩ := hQ62
  have N62 := Fr.app N57 Nq62
  have pre64 : ∀ τ, Steps p.tables e below (T62.setTop (mkF m 147 #[.val (.int p1), .val (.int p2), .val (.int p3), .val (.int p4), .val (.int p5), .val (.int p6), .val (.long ((p1 &&& (2097151 : Int32))).toInt64), .second, .val (.int ((p2 &&& (2147483647 : Int32)) % (42 : Int32))), .val (.long big), .second, .val (.long x4), .second, .val (.long x5), .second, .val (.long x6), .second, .val (.ref b1), .val (.int (1 : Int32))] [(.double s3), (.int (1 : Int32))])) τ → Steps p.tables e below (s₁.setTop (entryFrame m #[(.int p1), (.int p2), (.int p3), (.int p4), (.int p5), (.int p6)] maxLocals)) τ := fun τ kt => pre61 τ ((st62).trans kt)
  have hE4 : (((big + x4) + x5) + x6).toInt = ((big + x4) + x5).toInt + x6.toInt := own_ladd (by omega) (by omega)
  have dx4 : FP.Core.DInt x6.toInt (FP.l2d x6) := FP.Core.l2d_int (by omega)
  obtain ⟨S4, u1, u2, hs4, u3, u4, u5⟩ := own_kahan (E := ((big + x4) + x5).toInt) d3 d3' dx4 (by omega) (by omega) (by omega)
  have pre65 : ∀ τ, Steps p.tables e below (T62.setTop (mkF m 173 #[.val (.int p1), .val (.int p2), .val (.int p3), .val (.int p4), .val (.int p5), .val (.int p6), .val (.long ((p1 &&& (2097151 : Int32))).toInt64), .second, .val (.int ((p2 &&& (2147483647 : Int32)) % (42 : Int32))), .val (.long big), .second, .val (.long x4), .second, .val (.long x5), .second, .val (.long x6), .second, .val (.ref b1), .val (.int (1 : Int32))] [(.double (FP.l2d x6)), (.ref b1)])) τ → Steps p.tables e below (s₁.setTop (entryFrame m #[(.int p1), (.int p2), (.int p3), (.int p4), (.int p5), (.int p6)] maxLocals)) τ := fun τ kt => pre64 τ (by
    show Steps p.tables e below (T62.setTop (mkF m 147 #[.val (.int p1), .val (.int p2), .val (.int p3), .val (.int p4), .val (.int p5), .val (.int p6), .val (.long ((p1 &&& (2097151 : Int32))).toInt64), .second, .val (.int ((p2 &&& (2147483647 : Int32)) % (42 : Int32))), .val (.long big), .second, .val (.long x4), .second, .val (.long x5), .second, .val (.long x6), .second, .val (.ref b1), .val (.int (1 : Int32))] [(.double s3), (.int (1 : Int32))])) τ
    refine XT.lload X62.here hx rfl (hb hby at_147) rfl ?_
    show Steps p.tables e below (T62.setTop (mkF m 149 #[.val (.int p1), .val (.int p2), .val (.int p3), .val (.int p4), .val (.int p5), .val (.int p6), .val (.long ((p1 &&& (2097151 : Int32))).toInt64), .second, .val (.int ((p2 &&& (2147483647 : Int32)) % (42 : Int32))), .val (.long big), .second, .val (.long x4), .second, .val (.long x5), .second, .val (.long x6), .second, .val (.ref b1), .val (.int (1 : Int32))] [(.long big), (.double s3), (.int (1 : Int32))])) τ
    refine XT.lload X62.here hx rfl (hb hby at_149) rfl ?_
    show Steps p.tables e below (T62.setTop (mkF m 151 #[.val (.int p1), .val (.int p2), .val (.int p3), .val (.int p4), .val (.int p5), .val (.int p6), .val (.long ((p1 &&& (2097151 : Int32))).toInt64), .second, .val (.int ((p2 &&& (2147483647 : Int32)) % (42 : Int32))), .val (.long big), .second, .val (.long x4), .second, .val (.long x5), .second, .val (.long x6), .second, .val (.ref b1), .val (.int (1 : Int32))] [(.long x4), (.long big), (.double s3), (.int (1 : Int32))])) τ
    refine XT.ladd X62.here hx rfl (hb hby at_151) rfl ?_
    show Steps p.tables e below (T62.setTop (mkF m 152 #[.val (.int p1), .val (.int p2), .val (.int p3), .val (.int p4), .val (.int p5), .val (.int p6), .val (.long ((p1 &&& (2097151 : Int32))).toInt64), .second, .val (.int ((p2 &&& (2147483647 : Int32)) % (42 : Int32))), .val (.long big), .second, .val (.long x4), .second, .val (.long x5), .second, .val (.long x6), .second, .val (.ref b1), .val (.int (1 : Int32))] [(.long (big + x4)), (.double s3), (.int (1 : Int32))])) τ
    refine XT.lload X62.here hx rfl (hb hby at_152) rfl ?_
    show Steps p.tables e below (T62.setTop (mkF m 154 #[.val (.int p1), .val (.int p2), .val (.int p3), .val (.int p4), .val (.int p5), .val (.int p6), .val (.long ((p1 &&& (2097151 : Int32))).toInt64), .second, .val (.int ((p2 &&& (2147483647 : Int32)) % (42 : Int32))), .val (.long big), .second, .val (.long x4), .second, .val (.long x5), .second, .val (.long x6), .second, .val (.ref b1), .val (.int (1 : Int32))] [(.long x5), (.long (big + x4)), (.double s3), (.int (1 : Int32))])) τ
    refine XT.ladd X62.here hx rfl (hb hby at_154) rfl ?_
    show Steps p.tables e below (T62.setTop (mkF m 155 #[.val (.int p1), .val (.int p2), .val (.int p3), .val (.int p4), .val (.int p5), .val (.int p6), .val (.long ((p1 &&& (2097151 : Int32))).toInt64), .second, .val (.int ((p2 &&& (2147483647 : Int32)) % (42 : Int32))), .val (.long big), .second, .val (.long x4), .second, .val (.long x5), .second, .val (.long x6), .second, .val (.ref b1), .val (.int (1 : Int32))] [(.long ((big + x4) + x5)), (.double s3), (.int (1 : Int32))])) τ
    refine own_l2d X62.here hx rfl (hb hby at_155) rfl ?_
    show Steps p.tables e below (T62.setTop (mkF m 156 #[.val (.int p1), .val (.int p2), .val (.int p3), .val (.int p4), .val (.int p5), .val (.int p6), .val (.long ((p1 &&& (2097151 : Int32))).toInt64), .second, .val (.int ((p2 &&& (2147483647 : Int32)) % (42 : Int32))), .val (.long big), .second, .val (.long x4), .second, .val (.long x5), .second, .val (.long x6), .second, .val (.ref b1), .val (.int (1 : Int32))] [(.double (FP.l2d ((big + x4) + x5))), (.double s3), (.int (1 : Int32))])) τ
    refine own_dcmp X62.here hx rfl (hb hby at_156) rfl ?_
    show Steps p.tables e below (T62.setTop (mkF m 157 #[.val (.int p1), .val (.int p2), .val (.int p3), .val (.int p4), .val (.int p5), .val (.int p6), .val (.long ((p1 &&& (2097151 : Int32))).toInt64), .second, .val (.int ((p2 &&& (2147483647 : Int32)) % (42 : Int32))), .val (.long big), .second, .val (.long x4), .second, .val (.long x5), .second, .val (.long x6), .second, .val (.ref b1), .val (.int (1 : Int32))] [(.int (cmpValue (FP.dcmp s3 (FP.l2d ((big + x4) + x5))) .l)), (.int (1 : Int32))])) τ
    refine XS.ifNo X62.here hx rfl (hb hby at_157) rfl ((if0 _ _).trans (teq (own_cmp0.mpr (by rw [show FP.dcmp s3 (FP.l2d ((big + x4) + x5)) = _ from FP.Core.dcmp_int d3 dl3, own_cmp_eq]))).2) ?_
    show Steps p.tables e below (T62.setTop (mkF m 160 #[.val (.int p1), .val (.int p2), .val (.int p3), .val (.int p4), .val (.int p5), .val (.int p6), .val (.long ((p1 &&& (2097151 : Int32))).toInt64), .second, .val (.int ((p2 &&& (2147483647 : Int32)) % (42 : Int32))), .val (.long big), .second, .val (.long x4), .second, .val (.long x5), .second, .val (.long x6), .second, .val (.ref b1), .val (.int (1 : Int32))] [(.int (1 : Int32))])) τ
    refine XS.iconst X62.here hx rfl (hb hby at_160) ?_
    show Steps p.tables e below (T62.setTop (mkF m 161 #[.val (.int p1), .val (.int p2), .val (.int p3), .val (.int p4), .val (.int p5), .val (.int p6), .val (.long ((p1 &&& (2097151 : Int32))).toInt64), .second, .val (.int ((p2 &&& (2147483647 : Int32)) % (42 : Int32))), .val (.long big), .second, .val (.long x4), .second, .val (.long x5), .second, .val (.long x6), .second, .val (.ref b1), .val (.int (1 : Int32))] [(.int (1 : Int32)), (.int (1 : Int32))])) τ
    refine XS.goto X62.here hx rfl (pc0 := 161) (pc' := 165) rfl (hb hby at_161) (by decide) (by decide) ?_
    show Steps p.tables e below (T62.setTop (mkF m 165 #[.val (.int p1), .val (.int p2), .val (.int p3), .val (.int p4), .val (.int p5), .val (.int p6), .val (.long ((p1 &&& (2097151 : Int32))).toInt64), .second, .val (.int ((p2 &&& (2147483647 : Int32)) % (42 : Int32))), .val (.long big), .second, .val (.long x4), .second, .val (.long x5), .second, .val (.long x6), .second, .val (.ref b1), .val (.int (1 : Int32))] [(.int (1 : Int32)), (.int (1 : Int32))])) τ
    refine XS.iand X62.here hx rfl (hb hby at_165) rfl ?_
    show Steps p.tables e below (T62.setTop (mkF m 166 #[.val (.int p1), .val (.int p2), .val (.int p3), .val (.int p4), .val (.int p5), .val (.int p6), .val (.long ((p1 &&& (2097151 : Int32))).toInt64), .second, .val (.int ((p2 &&& (2147483647 : Int32)) % (42 : Int32))), .val (.long big), .second, .val (.long x4), .second, .val (.long x5), .second, .val (.long x6), .second, .val (.ref b1), .val (.int (1 : Int32))] [(.int (1 : Int32))])) τ
    refine XS.istore X62.here hx rfl (hb hby at_166) rfl (l' := #[.val (.int p1), .val (.int p2), .val (.int p3), .val (.int p4), .val (.int p5), .val (.int p6), .val (.long ((p1 &&& (2097151 : Int32))).toInt64), .second, .val (.int ((p2 &&& (2147483647 : Int32)) % (42 : Int32))), .val (.long big), .second, .val (.long x4), .second, .val (.long x5), .second, .val (.long x6), .second, .val (.ref b1), .val (.int (1 : Int32))]) rfl ?_
    show Steps p.tables e below (T62.setTop (mkF m 168 #[.val (.int p1), .val (.int p2), .val (.int p3), .val (.int p4), .val (.int p5), .val (.int p6), .val (.long ((p1 &&& (2097151 : Int32))).toInt64), .second, .val (.int ((p2 &&& (2147483647 : Int32)) % (42 : Int32))), .val (.long big), .second, .val (.long x4), .second, .val (.long x5), .second, .val (.long x6), .second, .val (.ref b1), .val (.int (1 : Int32))] [])) τ
    refine XS.aload X62.here hx rfl (hb hby at_168) rfl rfl ?_
    show Steps p.tables e below (T62.setTop (mkF m 170 #[.val (.int p1), .val (.int p2), .val (.int p3), .val (.int p4), .val (.int p5), .val (.int p6), .val (.long ((p1 &&& (2097151 : Int32))).toInt64), .second, .val (.int ((p2 &&& (2147483647 : Int32)) % (42 : Int32))), .val (.long big), .second, .val (.long x4), .second, .val (.long x5), .second, .val (.long x6), .second, .val (.ref b1), .val (.int (1 : Int32))] [(.ref b1)])) τ
    refine XT.lload X62.here hx rfl (hb hby at_170) rfl ?_
    show Steps p.tables e below (T62.setTop (mkF m 172 #[.val (.int p1), .val (.int p2), .val (.int p3), .val (.int p4), .val (.int p5), .val (.int p6), .val (.long ((p1 &&& (2097151 : Int32))).toInt64), .second, .val (.int ((p2 &&& (2147483647 : Int32)) % (42 : Int32))), .val (.long big), .second, .val (.long x4), .second, .val (.long x5), .second, .val (.long x6), .second, .val (.ref b1), .val (.int (1 : Int32))] [(.long x6), (.ref b1)])) τ
    refine own_l2d X62.here hx rfl (hb hby at_172) rfl ?_
    exact kt)
  obtain ⟨cq66, kq66, qa66, qb66, qc66⟩ := isOf hZ eq62 f63
  obtain ⟨_, _, ⟨T66, L66, k66, n66⟩, -, X66, ⟨Lc66, hQ66, l66, y66, z66⟩, st66⟩ := X62.virtualBack hx (y := (⟨"com/example/meticulous_ballot/meticulousballot/CompensatedSum", "add", "(D)V"⟩ : MethodName)) (z := (⟨"com/example/meticulous_ballot/meticulousballot/CompensatedSum", "add", "(D)V"⟩ : MethodName)) hown (mvT hZ (hw _ (List.mem_of_getElem? (i := 12) rfl))) (mvT hZ (hw _ (List.mem_of_getElem? (i := 13) rfl))) (notFace_of_selects (args := #[]) (mvT hZ (hw _ (List.mem_of_getElem? (i := 15) rfl)))) (mvT hZ (hw _ (List.mem_of_getElem? (i := 15) rfl))) (mvT hZ (hw _ (List.mem_of_getElem? (i := 14) rfl))) (by decide) (backOf (W := 0) (rmA l Z a0 hw [] b1 (FP.l2d x6) s3 e3 T57.heap n0 (Nat.le_trans Z0 K57.1) f63 Fs57 Fe57 g_b1 (own_dint_no u3) (own_dint_no u1) (own_dint_no u4) (own_dint_no u2)) hZ (hw _ (List.mem_of_getElem? (i := 16) rfl)) (hw _ (List.mem_of_getElem? (i := 5) rfl)) (by decide) (by decide)) qa66 qc66 (g := (mkF m 173 #[.val (.int p1), .val (.int p2), .val (.int p3), .val (.int p4), .val (.int p5), .val (.int p6), .val (.long ((p1 &&& (2097151 : Int32))).toInt64), .second, .val (.int ((p2 &&& (2147483647 : Int32)) % (42 : Int32))), .val (.long big), .second, .val (.long x4), .second, .val (.long x5), .second, .val (.long x6), .second, .val (.ref b1), .val (.int (1 : Int32))] [(.double (FP.l2d x6)), (.ref b1)])) rfl (by rw [hml]; rfl) (Steps.refl _) (argsL := [(.double (FP.l2d x6))]) (rest := []) (lenOf own_pd__D_V rfl) rfl (by show 2 * 0 + _ ≤ _; exact Nat.le_of_eq rfl) (hb hby at_173) (fun _ _ => ⟨rfl, eq62, (by decide : 1 + 0 ≤ _), (by decide : 2 + 0 ≤ _)⟩)
  dsimp only [Pt.U, Pt.locs, Pt.cells, Pt.slots] at X66 l66 y66 z66 st66 hQ66
  subst l66 y66 z66
  obtain ⟨rfl, Nq66, Kq66, Fs66, Fe66⟩ := hQ66
  have N66 := Fr.app N62 Nq66
  have K66 : Keep h0 T66.heap [] := K57.trans Kq66 (allS (Or.inr sz_b1) (all0))
  have pre67 : ∀ τ, Steps p.tables e below (T66.setTop (mkF m 176 #[.val (.int p1), .val (.int p2), .val (.int p3), .val (.int p4), .val (.int p5), .val (.int p6), .val (.long ((p1 &&& (2097151 : Int32))).toInt64), .second, .val (.int ((p2 &&& (2147483647 : Int32)) % (42 : Int32))), .val (.long big), .second, .val (.long x4), .second, .val (.long x5), .second, .val (.long x6), .second, .val (.ref b1), .val (.int (1 : Int32))] [])) τ → Steps p.tables e below (s₁.setTop (entryFrame m #[(.int p1), (.int p2), (.int p3), (.int p4), (.int p5), (.int p6)] maxLocals)) τ := fun τ kt => pre65 τ ((st66).trans kt)
  obtain ⟨s4, e_s4⟩ : ∃ q : UInt64, q = (own_kn s3 e3 (FP.l2d x6)) := ⟨_, rfl⟩
  rw [← e_s4] at Fs66
  obtain ⟨e4, e_e4⟩ : ∃ q : UInt64, q = (own_ke s3 e3 (FP.l2d x6)) := ⟨_, rfl⟩
  rw [← e_e4] at Fe66
  have d4 : FP.Core.DInt S4 s4 := by rw [e_s4]; exact u1
  have d4' : FP.Core.DInt (S4 - (((big + x4) + x5) + x6).toInt) e4 := by rw [e_e4, hE4]; exact u2
  have dl4 : FP.Core.DInt S4 (FP.l2d (((big + x4) + x5) + x6)) := u5 _ hE4
  have hs4' : (S4 - (((big + x4) + x5) + x6).toInt).natAbs ≤ 4096 := by rw [hE4]; exact hs4
  have pre70 : ∀ τ, Steps p.tables e below (T66.setTop (mkF m 180 #[.val (.int p1), .val (.int p2), .val (.int p3), .val (.int p4), .val (.int p5), .val (.int p6), .val (.long ((p1 &&& (2097151 : Int32))).toInt64), .second, .val (.int ((p2 &&& (2147483647 : Int32)) % (42 : Int32))), .val (.long big), .second, .val (.long x4), .second, .val (.long x5), .second, .val (.long x6), .second, .val (.ref b1), .val (.int (1 : Int32))] [(.ref b1), (.int (1 : Int32))])) τ → Steps p.tables e below (s₁.setTop (entryFrame m #[(.int p1), (.int p2), (.int p3), (.int p4), (.int p5), (.int p6)] maxLocals)) τ := fun τ kt => pre67 τ (by
    show Steps p.tables e below (T66.setTop (mkF m 176 #[.val (.int p1), .val (.int p2), .val (.int p3), .val (.int p4), .val (.int p5), .val (.int p6), .val (.long ((p1 &&& (2097151 : Int32))).toInt64), .second, .val (.int ((p2 &&& (2147483647 : Int32)) % (42 : Int32))), .val (.long big), .second, .val (.long x4), .second, .val (.long x5), .second, .val (.long x6), .second, .val (.ref b1), .val (.int (1 : Int32))] [])) τ
    refine XS.iload X66.here hx rfl (hb hby at_176) rfl ?_
    show Steps p.tables e below (T66.setTop (mkF m 178 #[.val (.int p1), .val (.int p2), .val (.int p3), .val (.int p4), .val (.int p5), .val (.int p6), .val (.long ((p1 &&& (2097151 : Int32))).toInt64), .second, .val (.int ((p2 &&& (2147483647 : Int32)) % (42 : Int32))), .val (.long big), .second, .val (.long x4), .second, .val (.long x5), .second, .val (.long x6), .second, .val (.ref b1), .val (.int (1 : Int32))] [(.int (1 : Int32))])) τ
    refine XS.aload X66.here hx rfl (hb hby at_178) rfl rfl ?_
    exact kt)
  have f72 := f63.keep Kq66
  obtain ⟨cq71, kq71, qa71, qb71, qc71⟩ := isOf hZ rfl f72
  obtain ⟨_, _, ⟨T71, L71, k71, n71⟩, -, X71, ⟨Lc71, hQ71, l71, y71, z71⟩, st71⟩ := X66.virtualBack hx (y := (⟨"com/example/meticulous_ballot/meticulousballot/CompensatedSum", "value", "()D"⟩ : MethodName)) (z := (⟨"com/example/meticulous_ballot/meticulousballot/CompensatedSum", "value", "()D"⟩ : MethodName)) hown (mvT hZ (hw _ (List.mem_of_getElem? (i := 21) rfl))) (mvT hZ (hw _ (List.mem_of_getElem? (i := 22) rfl))) (notFace_of_selects (args := #[]) (mvT hZ (hw _ (List.mem_of_getElem? (i := 24) rfl)))) (mvT hZ (hw _ (List.mem_of_getElem? (i := 24) rfl))) (mvT hZ (hw _ (List.mem_of_getElem? (i := 23) rfl))) (by decide) (backOf (W := 1) (rmV l Z a0 hw [] b1 s4 T66.heap n0 (Nat.le_trans Z0 K66.1) Fs66) hZ (hw _ (List.mem_of_getElem? (i := 25) rfl)) (hw _ (List.mem_of_getElem? (i := 5) rfl)) (by decide) (by decide)) qa71 qc71 (g := (mkF m 180 #[.val (.int p1), .val (.int p2), .val (.int p3), .val (.int p4), .val (.int p5), .val (.int p6), .val (.long ((p1 &&& (2097151 : Int32))).toInt64), .second, .val (.int ((p2 &&& (2147483647 : Int32)) % (42 : Int32))), .val (.long big), .second, .val (.long x4), .second, .val (.long x5), .second, .val (.long x6), .second, .val (.ref b1), .val (.int (1 : Int32))] [(.ref b1), (.int (1 : Int32))])) rfl (by rw [hml]; rfl) (Steps.refl _) (argsL := []) (rest := [(.int (1 : Int32))]) (lenOf own_pd___D rfl) rfl (by show 2 * 0 + _ ≤ _; exact Nat.le_of_eq rfl) (hb hby at_180) (fun _ _ => ⟨rfl, rfl, (by decide : 1 + 0 ≤ _), (by decide : 2 + 0 ≤ _)⟩)
  dsimp only [Pt.U, Pt.locs, Pt.cells, Pt.slots] at X71 l71 y71 z71 st71 hQ71
  subst l71 y71 z71
  obtain ⟨rfl, Nq71, eq71⟩ := hQ71
  have N71 := Fr.app N66 Nq71
  have pre73 : ∀ τ, Steps p.tables e below (T71.setTop (mkF m 183 #[.val (.int p1), .val (.int p2), .val (.int p3), .val (.int p4), .val (.int p5), .val (.int p6), .val (.long ((p1 &&& (2097151 : Int32))).toInt64), .second, .val (.int ((p2 &&& (2147483647 : Int32)) % (42 : Int32))), .val (.long big), .second, .val (.long x4), .second, .val (.long x5), .second, .val (.long x6), .second, .val (.ref b1), .val (.int (1 : Int32))] [(.double s4), (.int (1 : Int32))])) τ → Steps p.tables e below (s₁.setTop (entryFrame m #[(.int p1), (.int p2), (.int p3), (.int p4), (.int p5), (.int p6)] maxLocals)) τ := fun τ kt => pre70 τ ((st71).trans kt)
  have pre74 : ∀ τ, Steps p.tables e below (T71.setTop (mkF m 209 #[.val (.int p1), .val (.int p2), .val (.int p3), .val (.int p4), .val (.int p5), .val (.int p6), .val (.long ((p1 &&& (2097151 : Int32))).toInt64), .second, .val (.int ((p2 &&& (2147483647 : Int32)) % (42 : Int32))), .val (.long big), .second, .val (.long x4), .second, .val (.long x5), .second, .val (.long x6), .second, .val (.ref b1), .val (.int (1 : Int32))] [(.int (1 : Int32))])) τ → Steps p.tables e below (s₁.setTop (entryFrame m #[(.int p1), (.int p2), (.int p3), (.int p4), (.int p5), (.int p6)] maxLocals)) τ := fun τ kt => pre73 τ (by
    show Steps p.tables e below (T71.setTop (mkF m 183 #[.val (.int p1), .val (.int p2), .val (.int p3), .val (.int p4), .val (.int p5), .val (.int p6), .val (.long ((p1 &&& (2097151 : Int32))).toInt64), .second, .val (.int ((p2 &&& (2147483647 : Int32)) % (42 : Int32))), .val (.long big), .second, .val (.long x4), .second, .val (.long x5), .second, .val (.long x6), .second, .val (.ref b1), .val (.int (1 : Int32))] [(.double s4), (.int (1 : Int32))])) τ
    refine XT.lload X71.here hx rfl (hb hby at_183) rfl ?_
    show Steps p.tables e below (T71.setTop (mkF m 185 #[.val (.int p1), .val (.int p2), .val (.int p3), .val (.int p4), .val (.int p5), .val (.int p6), .val (.long ((p1 &&& (2097151 : Int32))).toInt64), .second, .val (.int ((p2 &&& (2147483647 : Int32)) % (42 : Int32))), .val (.long big), .second, .val (.long x4), .second, .val (.long x5), .second, .val (.long x6), .second, .val (.ref b1), .val (.int (1 : Int32))] [(.long big), (.double s4), (.int (1 : Int32))])) τ
    refine XT.lload X71.here hx rfl (hb hby at_185) rfl ?_
    show Steps p.tables e below (T71.setTop (mkF m 187 #[.val (.int p1), .val (.int p2), .val (.int p3), .val (.int p4), .val (.int p5), .val (.int p6), .val (.long ((p1 &&& (2097151 : Int32))).toInt64), .second, .val (.int ((p2 &&& (2147483647 : Int32)) % (42 : Int32))), .val (.long big), .second, .val (.long x4), .second, .val (.long x5), .second, .val (.long x6), .second, .val (.ref b1), .val (.int (1 : Int32))] [(.long x4), (.long big), (.double s4), (.int (1 : Int32))])) τ
    refine XT.ladd X71.here hx rfl (hb hby at_187) rfl ?_
    show Steps p.tables e below (T71.setTop (mkF m 188 #[.val (.int p1), .val (.int p2), .val (.int p3), .val (.int p4), .val (.int p5), .val (.int p6), .val (.long ((p1 &&& (2097151 : Int32))).toInt64), .second, .val (.int ((p2 &&& (2147483647 : Int32)) % (42 : Int32))), .val (.long big), .second, .val (.long x4), .second, .val (.long x5), .second, .val (.long x6), .second, .val (.ref b1), .val (.int (1 : Int32))] [(.long (big + x4)), (.double s4), (.int (1 : Int32))])) τ
    refine XT.lload X71.here hx rfl (hb hby at_188) rfl ?_
    show Steps p.tables e below (T71.setTop (mkF m 190 #[.val (.int p1), .val (.int p2), .val (.int p3), .val (.int p4), .val (.int p5), .val (.int p6), .val (.long ((p1 &&& (2097151 : Int32))).toInt64), .second, .val (.int ((p2 &&& (2147483647 : Int32)) % (42 : Int32))), .val (.long big), .second, .val (.long x4), .second, .val (.long x5), .second, .val (.long x6), .second, .val (.ref b1), .val (.int (1 : Int32))] [(.long x5), (.long (big + x4)), (.double s4), (.int (1 : Int32))])) τ
    refine XT.ladd X71.here hx rfl (hb hby at_190) rfl ?_
    show Steps p.tables e below (T71.setTop (mkF m 191 #[.val (.int p1), .val (.int p2), .val (.int p3), .val (.int p4), .val (.int p5), .val (.int p6), .val (.long ((p1 &&& (2097151 : Int32))).toInt64), .second, .val (.int ((p2 &&& (2147483647 : Int32)) % (42 : Int32))), .val (.long big), .second, .val (.long x4), .second, .val (.long x5), .second, .val (.long x6), .second, .val (.ref b1), .val (.int (1 : Int32))] [(.long ((big + x4) + x5)), (.double s4), (.int (1 : Int32))])) τ
    refine XT.lload X71.here hx rfl (hb hby at_191) rfl ?_
    show Steps p.tables e below (T71.setTop (mkF m 193 #[.val (.int p1), .val (.int p2), .val (.int p3), .val (.int p4), .val (.int p5), .val (.int p6), .val (.long ((p1 &&& (2097151 : Int32))).toInt64), .second, .val (.int ((p2 &&& (2147483647 : Int32)) % (42 : Int32))), .val (.long big), .second, .val (.long x4), .second, .val (.long x5), .second, .val (.long x6), .second, .val (.ref b1), .val (.int (1 : Int32))] [(.long x6), (.long ((big + x4) + x5)), (.double s4), (.int (1 : Int32))])) τ
    refine XT.ladd X71.here hx rfl (hb hby at_193) rfl ?_
    show Steps p.tables e below (T71.setTop (mkF m 194 #[.val (.int p1), .val (.int p2), .val (.int p3), .val (.int p4), .val (.int p5), .val (.int p6), .val (.long ((p1 &&& (2097151 : Int32))).toInt64), .second, .val (.int ((p2 &&& (2147483647 : Int32)) % (42 : Int32))), .val (.long big), .second, .val (.long x4), .second, .val (.long x5), .second, .val (.long x6), .second, .val (.ref b1), .val (.int (1 : Int32))] [(.long (((big + x4) + x5) + x6)), (.double s4), (.int (1 : Int32))])) τ
    refine own_l2d X71.here hx rfl (hb hby at_194) rfl ?_
    show Steps p.tables e below (T71.setTop (mkF m 195 #[.val (.int p1), .val (.int p2), .val (.int p3), .val (.int p4), .val (.int p5), .val (.int p6), .val (.long ((p1 &&& (2097151 : Int32))).toInt64), .second, .val (.int ((p2 &&& (2147483647 : Int32)) % (42 : Int32))), .val (.long big), .second, .val (.long x4), .second, .val (.long x5), .second, .val (.long x6), .second, .val (.ref b1), .val (.int (1 : Int32))] [(.double (FP.l2d (((big + x4) + x5) + x6))), (.double s4), (.int (1 : Int32))])) τ
    refine own_dcmp X71.here hx rfl (hb hby at_195) rfl ?_
    show Steps p.tables e below (T71.setTop (mkF m 196 #[.val (.int p1), .val (.int p2), .val (.int p3), .val (.int p4), .val (.int p5), .val (.int p6), .val (.long ((p1 &&& (2097151 : Int32))).toInt64), .second, .val (.int ((p2 &&& (2147483647 : Int32)) % (42 : Int32))), .val (.long big), .second, .val (.long x4), .second, .val (.long x5), .second, .val (.long x6), .second, .val (.ref b1), .val (.int (1 : Int32))] [(.int (cmpValue (FP.dcmp s4 (FP.l2d (((big + x4) + x5) + x6))) .l)), (.int (1 : Int32))])) τ
    refine XS.ifNo X71.here hx rfl (hb hby at_196) rfl ((if0 _ _).trans (teq (own_cmp0.mpr (by rw [show FP.dcmp s4 (FP.l2d (((big + x4) + x5) + x6)) = _ from FP.Core.dcmp_int d4 dl4, own_cmp_eq]))).2) ?_
    show Steps p.tables e below (T71.setTop (mkF m 199 #[.val (.int p1), .val (.int p2), .val (.int p3), .val (.int p4), .val (.int p5), .val (.int p6), .val (.long ((p1 &&& (2097151 : Int32))).toInt64), .second, .val (.int ((p2 &&& (2147483647 : Int32)) % (42 : Int32))), .val (.long big), .second, .val (.long x4), .second, .val (.long x5), .second, .val (.long x6), .second, .val (.ref b1), .val (.int (1 : Int32))] [(.int (1 : Int32))])) τ
    refine XS.iconst X71.here hx rfl (hb hby at_199) ?_
    show Steps p.tables e below (T71.setTop (mkF m 200 #[.val (.int p1), .val (.int p2), .val (.int p3), .val (.int p4), .val (.int p5), .val (.int p6), .val (.long ((p1 &&& (2097151 : Int32))).toInt64), .second, .val (.int ((p2 &&& (2147483647 : Int32)) % (42 : Int32))), .val (.long big), .second, .val (.long x4), .second, .val (.long x5), .second, .val (.long x6), .second, .val (.ref b1), .val (.int (1 : Int32))] [(.int (1 : Int32)), (.int (1 : Int32))])) τ
    refine XS.goto X71.here hx rfl (pc0 := 200) (pc' := 204) rfl (hb hby at_200) (by decide) (by decide) ?_
    show Steps p.tables e below (T71.setTop (mkF m 204 #[.val (.int p1), .val (.int p2), .val (.int p3), .val (.int p4), .val (.int p5), .val (.int p6), .val (.long ((p1 &&& (2097151 : Int32))).toInt64), .second, .val (.int ((p2 &&& (2147483647 : Int32)) % (42 : Int32))), .val (.long big), .second, .val (.long x4), .second, .val (.long x5), .second, .val (.long x6), .second, .val (.ref b1), .val (.int (1 : Int32))] [(.int (1 : Int32)), (.int (1 : Int32))])) τ
    refine XS.iand X71.here hx rfl (hb hby at_204) rfl ?_
    show Steps p.tables e below (T71.setTop (mkF m 205 #[.val (.int p1), .val (.int p2), .val (.int p3), .val (.int p4), .val (.int p5), .val (.int p6), .val (.long ((p1 &&& (2097151 : Int32))).toInt64), .second, .val (.int ((p2 &&& (2147483647 : Int32)) % (42 : Int32))), .val (.long big), .second, .val (.long x4), .second, .val (.long x5), .second, .val (.long x6), .second, .val (.ref b1), .val (.int (1 : Int32))] [(.int (1 : Int32))])) τ
    refine XS.istore X71.here hx rfl (hb hby at_205) rfl (l' := #[.val (.int p1), .val (.int p2), .val (.int p3), .val (.int p4), .val (.int p5), .val (.int p6), .val (.long ((p1 &&& (2097151 : Int32))).toInt64), .second, .val (.int ((p2 &&& (2147483647 : Int32)) % (42 : Int32))), .val (.long big), .second, .val (.long x4), .second, .val (.long x5), .second, .val (.long x6), .second, .val (.ref b1), .val (.int (1 : Int32))]) rfl ?_
    show Steps p.tables e below (T71.setTop (mkF m 207 #[.val (.int p1), .val (.int p2), .val (.int p3), .val (.int p4), .val (.int p5), .val (.int p6), .val (.long ((p1 &&& (2097151 : Int32))).toInt64), .second, .val (.int ((p2 &&& (2147483647 : Int32)) % (42 : Int32))), .val (.long big), .second, .val (.long x4), .second, .val (.long x5), .second, .val (.long x6), .second, .val (.ref b1), .val (.int (1 : Int32))] [])) τ
    refine XS.iload X71.here hx rfl (hb hby at_207) rfl ?_
    exact kt)
  obtain ⟨fs, hrL, hrun, hended, hW, hsame⟩ := X71.leave (v := some (.int (1 : Int32))) (fun h => by rw [Bd.returns] at h; cases h)
  refine ⟨_, _, pre74 _ ?_, hrun, hended, _, _, rfl, ?_, ⟨_, rfl⟩, hW, hsame.mono (by decide) (by decide)⟩
  · show Steps p.tables e below (T71.setTop (mkF m 209 #[.val (.int p1), .val (.int p2), .val (.int p3), .val (.int p4), .val (.int p5), .val (.int p6), .val (.long ((p1 &&& (2097151 : Int32))).toInt64), .second, .val (.int ((p2 &&& (2147483647 : Int32)) % (42 : Int32))), .val (.long big), .second, .val (.long x4), .second, .val (.long x5), .second, .val (.long x6), .second, .val (.ref b1), .val (.int (1 : Int32))] [(.int (1 : Int32))])) _
    exact retN X71 hx (t := .boolean) Bd.returns (by simp) (hb hby at_209) hrL
  · show Q0 n0 _ T71.heap _
    exact ⟨rfl, N71⟩
set_option maxRecDepth 65536 in
set_option maxHeartbeats 40000000 in
theorem comes_1 {Post : Tables → Env → Array Value → State → Outcome → State → Prop} (hpost : ∀ tb e args s v u, (limb_1_1.after args s (.returned v) u = true ∧ limb_1_2.after args s (.returned v) u = true ∧ True) → FrameEnd s (.returned v) u (Jvm.fieldLocs frame_1_writes args s ++ Jvm.arrayLocs frame_1_arrays args s ++ Jvm.staticLocs frame_1_statics s) 16 128 → Post tb e args s (.returned v) u) :
    ArmFor flags0 classFile x code maxLocals ret World_1 tables_1 room_1 Calls_1 rest_1 Pre_1 Post := by
  intro l hfl _ _ p e ha hc hk s m args below hf hA hF happ hP
  obtain ⟨hcalls, hrest, hpre⟩ := hP
  obtain ⟨-, -, -, hnamed, -, -, -, hat⟩ := (Spec.applies_iff hf).mp happ
  obtain ⟨hg, hn⟩ := and_e (Cond.before_iff.mp (show (Jvm.Cond.and given_1 narrow_1).before args s = true from hpre))
  obtain ⟨g1, g2⟩ := and_e hg
  obtain ⟨g3, g4⟩ := and_e g2
  obtain ⟨g5, g6⟩ := and_e g4
  obtain ⟨g7, g8⟩ := and_e g6
  obtain ⟨g9, g10⟩ := and_e g8
  obtain ⟨g11, g12⟩ := and_e g10
  obtain ⟨w0, w1, w2, w3, w4, w5, rfl⟩ : ∃ w0 w1 w2 w3 w4 w5 : Value, args = #[w0, w1, w2, w3, w4, w5] := by
    have hs : args.size = 6 := by simpa [Cond.value, given_1] using g1
    obtain ⟨L⟩ := args
    match L, hs with
    | [w0, w1, w2, w3, w4, w5], _ => exact ⟨w0, w1, w2, w3, w4, w5, rfl⟩
  have hw := fun d (hd : d ∈ tables_1) => atoms_spec (ws := Jvm.Cond.code x code maxLocals ret :: tables_1) hat d (List.mem_cons_of_mem _ hd)
  obtain ⟨i0, ei0⟩ := is_v g3
  obtain rfl : w0 = (.int i0) := Option.some.inj ei0
  obtain ⟨i1, ei1⟩ := is_v g5
  obtain rfl : w1 = (.int i1) := Option.some.inj ei1
  obtain ⟨i2, ei2⟩ := is_v g7
  obtain rfl : w2 = (.int i2) := Option.some.inj ei2
  obtain ⟨i3, ei3⟩ := is_v g9
  obtain rfl : w3 = (.int i3) := Option.some.inj ei3
  obtain ⟨i4, ei4⟩ := is_v g11
  obtain rfl : w4 = (.int i4) := Option.some.inj ei4
  obtain ⟨i5, ei5⟩ := is_v g12
  obtain rfl : w5 = (.int i5) := Option.some.inj ei5
  obtain ⟨n, o, h1, h2, h3, _, L, rfl, ⟨rfl, N⟩, hq⟩ := rm0 l s _ hw tables_1 i0 i1 i2 i3 i4 i5 s.heap s.heap.size (Nat.le_refl _) p e ha hc hk s m _ below hf ((Spec.applies_iff_loose hf).mp happ).1 ⟨rfl, State.Warmed39.refl s, rfl⟩ trivial
  refine ⟨n, _, h1, h2, h3, hpost _ _ _ _ _ _ ⟨Cond.after_iff.mpr rfl, Cond.after_iff.mpr (eq_i res_at (Term.int_eval (1)) rfl), trivial⟩ ⟨hq.1, hq.2.1, (hq.2.2.sift fun y hy => Or.inr (N y hy)).mono (by decide) (by decide)⟩⟩
theorem main_1_1 : Claimed_1_1 := comes_1 fun _ _ _ _ _ _ h hF => ⟨h.1, hF⟩
theorem main_1_2 : Claimed_1_2 := comes_1 fun _ _ _ _ _ _ h hF => ⟨h.2.1, hF⟩
end Jvm.Pilot.@@N@@
namespace Jvm.Pilot.@@N@@
open Jvm Jvm.ClassFile Sem Op Lib Jvm.Free Jvm.Stand Jvm.Pilot.@@N@@.Jvm.D
/-! MADE BY PROGRAM (witnessworld.py) out of the Statement's table words and the real class files: 9 classes; the members and pool entries that the words name. The judged class is class 1, her method 1. -/
namespace start1
open Jvm.ClassFile
def u (s : String) : CpInfo := .utf8 (stringToUtf16 s)
/-- a pool by its gaps: so many unusable entries, then the entry; so many at the end -/
def gap : Nat → List CpInfo → List CpInfo
  | 0, r => r
  | n + 1, r => .unusable :: gap n r
def poolList (es : List (Nat × CpInfo)) (last : Nat) : List CpInfo := es.foldr (fun e r => gap e.1 (e.2 :: r)) (gap last [])
def pool (es : List (Nat × CpInfo)) (last : Nat) : Array CpInfo := ⟨poolList es last⟩
def fileOf (pool : Array CpInfo) (this : Nat) (attrs : Array Attribute := #[]) (ms : Array MethodInfo := #[]) (fl : Nat := 33) (sup : Nat := 0) (ifs : Array Nat := #[]) (fds : Array FieldInfo := #[]) : ClassFile where
  minorVersion := 0
  majorVersion := 65
  constantPool := pool
  accessFlags := fl
  thisClass := this
  superClass := sup
  interfaces := ifs
  fields := fds
  methods := ms
  attributes := attrs
def plain (name : String) (sup : Option ClassId) : Class where
  name := name
  kind := .ordinary
  loader := none
  accessFlags := 33
  super := sup
  interfaces := #[]
  cf := none
  fields := #[]
  methods := #[]
  instanceTypes := #[]
  staticTypes := #[]
  resolved := #[]
  callSites := []
  init := .initialized
  statics := none
  mirror := none

def pool0 : Array CpInfo := pool [(5, u "<init>"), (0, u "()V"), (1, .class_ 10), (1, u "java/lang/Object")] 113

def k0c0 : Code := { maxStack := 0, maxLocals := 1, code := object_method_1_code, exceptionTable := #[], attributes := #[] }
def k0m0 : Method := { name := "<init>", desc := "()V", sig := { parameters := [], returnType := none }, accessFlags := 1, code := some k0c0 }
/-- java/lang/Object -/
def k0 : Class := { plain "java/lang/Object" none with
  accessFlags := 33
  interfaces := #[]
  cf := some (fileOf pool0 8 #[] #[{ accessFlags := 1, nameIndex := 5, descriptorIndex := 6, attributes := #[] }] 33 0 #[] #[])
  fields := #[]
  methods := #[k0m0]
  instanceTypes := #[]
  staticTypes := #[]
  resolved := Array.replicate 124 none
  statics := none }

def pool1 : Array CpInfo := pool [(2, .class_ 4), (0, .nameAndType 5 6), (0, u "java/lang/Object"), (0, u "<init>"), (0, u "()V"), (0, .integer 2097151), (0, .integer 2147483647), (0, .integer 1048576), (0, .class_ 11), (0, u "com/example/meticulous_ballot/meticulousballot/CompensatedSum"), (0, .methodref 10 3), (0, .methodref 10 14), (0, .nameAndType 15 16), (0, u "add"), (0, u "(D)V"), (0, .methodref 10 18), (0, .nameAndType 19 20), (0, u "value"), (0, u "()D"), (0, .class_ 22), (0, u "com/example/meticulous_ballot/meticulousballot/CompensatedSumAddPinLaw"), (2, u "law"), (0, u "(IIIIII)Z")] 3

def k1m0 : Method := { name := "<init>", desc := "()V", sig := { parameters := [], returnType := none }, accessFlags := 1, code := none }
def k1c1 : Code := { maxStack := 7, maxLocals := 19, code := code, exceptionTable := #[], attributes := #[] }
def k1m1 : Method := { name := "law", desc := "(IIIIII)Z", sig := { parameters := [.int, .int, .int, .int, .int, .int], returnType := some .boolean }, accessFlags := 9, code := some k1c1 }
/-- com/example/meticulous_ballot/meticulousballot/CompensatedSumAddPinLaw -/
def k1 : Class := { plain "com/example/meticulous_ballot/meticulousballot/CompensatedSumAddPinLaw" (some 0) with
  accessFlags := 49
  interfaces := #[]
  cf := some (fileOf pool1 21 #[] #[{ accessFlags := 1, nameIndex := 5, descriptorIndex := 6, attributes := #[] }, { accessFlags := 9, nameIndex := 25, descriptorIndex := 26, attributes := #[] }] 49 2 #[] #[])
  fields := #[]
  methods := #[k1m0, k1m1]
  instanceTypes := #[]
  staticTypes := #[]
  resolved := Array.replicate 30 none
  statics := none }

def pool2 : Array CpInfo := pool [(1, .methodref 2 3), (0, .class_ 4), (0, .nameAndType 5 6), (0, u "java/lang/Object"), (0, u "<init>"), (0, u "()V"), (0, .fieldref 8 9), (0, .class_ 10), (0, .nameAndType 11 12), (0, u "com/example/meticulous_ballot/meticulousballot/CompensatedSum"), (0, u "excess"), (0, u "D"), (0, .fieldref 8 14), (0, .nameAndType 15 12), (0, u "sum"), (2, u "add"), (0, u "(D)V"), (0, u "value"), (0, u "()D")] 2

def k2c0 : Code := { maxStack := 1, maxLocals := 1, code := prog_11_method_1_code, exceptionTable := #[], attributes := #[] }
def k2m0 : Method := { name := "<init>", desc := "()V", sig := { parameters := [], returnType := none }, accessFlags := 0, code := some k2c0 }
def k2c1 : Code := { maxStack := 5, maxLocals := 7, code := prog_11_method_2_code, exceptionTable := #[], attributes := #[] }
def k2m1 : Method := { name := "add", desc := "(D)V", sig := { parameters := [.double], returnType := none }, accessFlags := 0, code := some k2c1 }
def k2c2 : Code := { maxStack := 2, maxLocals := 1, code := prog_11_method_3_code, exceptionTable := #[], attributes := #[] }
def k2m2 : Method := { name := "value", desc := "()D", sig := { parameters := [], returnType := some .double }, accessFlags := 0, code := some k2c2 }
/-- com/example/meticulous_ballot/meticulousballot/CompensatedSum -/
def k2 : Class := { plain "com/example/meticulous_ballot/meticulousballot/CompensatedSum" (some 0) with
  accessFlags := 48
  interfaces := #[]
  cf := some (fileOf pool2 8 #[] #[{ accessFlags := 0, nameIndex := 5, descriptorIndex := 6, attributes := #[] }, { accessFlags := 0, nameIndex := 18, descriptorIndex := 19, attributes := #[] }, { accessFlags := 0, nameIndex := 20, descriptorIndex := 21, attributes := #[] }] 48 2 #[] #[{ accessFlags := 2, nameIndex := 15, descriptorIndex := 12, attributes := #[] }, { accessFlags := 2, nameIndex := 11, descriptorIndex := 12, attributes := #[] }])
  fields := #[{ name := "sum", type := .double, accessFlags := 2, slot := 0, constantValue := 0 }, { name := "excess", type := .double, accessFlags := 2, slot := 1, constantValue := 0 }]
  methods := #[k2m0, k2m1, k2m2]
  instanceTypes := #[.double, .double]
  staticTypes := #[]
  resolved := Array.replicate 24 none
  statics := none }

def pool3 : Array CpInfo := pool [(1, u "java/lang/Cloneable"), (0, .class_ 1), (0, u "java/lang/Object"), (0, .class_ 3)] 3

/-- java/lang/Cloneable -/
def k3 : Class := { plain "java/lang/Cloneable" (some 0) with
  accessFlags := 1537
  interfaces := #[]
  cf := some (fileOf pool3 2 #[] #[] 1537 4 #[] #[])
  fields := #[]
  methods := #[]
  instanceTypes := #[]
  staticTypes := #[]
  resolved := Array.replicate 8 none
  statics := none }

def pool4 : Array CpInfo := pool [(1, u "java/io/Serializable"), (0, .class_ 1), (0, u "java/lang/Object"), (0, .class_ 3)] 3

/-- java/io/Serializable -/
def k4 : Class := { plain "java/io/Serializable" (some 0) with
  accessFlags := 1537
  interfaces := #[]
  cf := some (fileOf pool4 2 #[] #[] 1537 4 #[] #[])
  fields := #[]
  methods := #[]
  instanceTypes := #[]
  staticTypes := #[]
  resolved := Array.replicate 8 none
  statics := none }

/-- the primitive byte -/
def k5 : Class := { plain "byte" none with kind := .primitive 'B', accessFlags := 0x411 }
/-- [B -/
def k6 : Class := { plain "[B" (some 0) with kind := .array 5 .byte, interfaces := #[3, 4], accessFlags := 1041 }

/-- the primitive int -/
def k7 : Class := { plain "int" none with kind := .primitive 'I', accessFlags := 0x411 }
/-- [I -/
def k8 : Class := { plain "[I" (some 0) with kind := .array 7 .int, interfaces := #[3, 4], accessFlags := 1041 }

def heap : Heap := #[]
def classes : Array Class := #[k0, k1, k2, k3, k4, k5, k6, k7, k8]
def interned : List (Array UInt16 × Addr) := []
def slotsUsed : Nat := 0
def theMethod : MethodId := ⟨1, 1⟩
def args0 : Array Value := #[.int 5, .int 7, .int 1, .int 2, .int 3, .int 4]
def aboutOver (below : List Frame) : State where
  vm := { classes := classes, interned := interned.toArray }
  heap := heap
  slotsUsed := slotsUsed
  threads := #[{ frames := .invoking theMethod args0 :: below }]
def below0 : List Frame := [.native { method := ⟨0, 0⟩, args := #[] }]
def about1 : State := aboutOver below0
def p0 : Program := .bare "" "" ""
def e0 : Env := launch0.env 0 0 0
theorem w_frames : about1.frames = Frame.invoking theMethod args0 :: below0 := rfl
set_option maxRecDepth 65536 in
theorem w_args : argsFit about1.vm theMethod args0 = true := by decide +kernel
set_option maxRecDepth 65536 in
theorem w_heap : heapFits about1 = true := by decide +kernel
set_option maxRecDepth 65536 in
theorem w_runnable : about1.curStatus? = some .runnable := by decide +kernel
set_option maxRecDepth 65536 in
theorem w_alone : about1.alone = true := by decide +kernel
set_option maxRecDepth 65536 in
theorem w_named : about1.methodNamed? x = some theMethod := by decide +kernel
set_option maxRecDepth 65536 in
theorem w_hears : about1.hears theMethod below0 = true := by decide +kernel
set_option maxRecDepth 65536 in
theorem w_ripe : about1.ripe theMethod args0 below0 = true := by decide +kernel
theorem w_running : about1.status = .running := rfl
set_option maxRecDepth 65536 in
theorem w_room : about1.hasRoom e0.platform room_1 = true :=
  launch0.hasRoom_least _ room_1 (by decide +kernel) (by decide +kernel) (by decide +kernel) (by decide +kernel) (by decide +kernel) (by decide +kernel)
theorem allAtoms_all (ts : List Jvm.Cond) (a : Array Jvm.Value) (st : Jvm.State) : (allAtoms ts).before a st = ts.all (fun c => c.before a st) := by
  induction ts with
  | nil => rfl
  | cons c t ih =>
    show (Jvm.Cond.and c (allAtoms t)).before a st = _
    rw [Jvm.Cond.before_and, ih, List.all_cons]
def words1 : List Jvm.Cond := Jvm.Cond.code x code maxLocals ret :: tables_1
/-- a 'code' word, met by the world's own term for the bytes: nothing is compared byte by byte -/
theorem code_word {y : MethodName} {bytes : ByteArray} {mx : Nat} {rt : Option FieldType} {a : Array Value} {s : State} {m : MethodId} {meth : Method} {c : Code} (h1 : s.methodNamed? y = some m) (h2 : s.vm.method? m = some meth) (h3 : meth.code = some c) (h4 : c.code = bytes)
    (h5 : (c.maxLocals == mx && c.exceptionTable.isEmpty && decide (c.maxStack ≤ mostOperands) && decide (meth.sig.returnType = rt) && !meth.locks && decide (parseMethodDescriptor y.desc = some meth.sig)) = true) : (Jvm.Cond.code y bytes mx rt).before a s = true := by
  simp only [Bool.and_eq_true, beq_iff_eq, Bool.not_eq_true', decide_eq_true_eq] at h5
  obtain ⟨⟨⟨⟨⟨g1, g2⟩, g3⟩, g4⟩, g5⟩, g6⟩ := h5
  simp [Cond.before, Cond.holds, Cond.value, h1, h2, h3, h4, g1, g2, g3, g4, g5, g6]
def isCode : Jvm.Cond → Bool
  | .code _ _ _ _ => true
  | _ => false
theorem all_split {L : List Jvm.Cond} {P : Jvm.Cond → Bool} (h1 : L.all (fun c => isCode c || P c) = true) (h2 : ∀ c ∈ L.filter isCode, P c = true) : L.all P = true := by
  refine List.all_eq_true.mpr fun c hc => ?_
  have h := List.all_eq_true.mp h1 c hc
  rcases Bool.eq_false_or_eq_true (isCode c) with hi | hi
  · exact h2 c (List.mem_filter.mpr ⟨hc, hi⟩)
  · simpa [hi] using h
set_option maxRecDepth 65536 in
theorem w_c0 : (Jvm.Cond.code x code maxLocals ret).before args0 about1 = true := code_word (m := ⟨1, 1⟩) (meth := k1m1) (c := k1c1) (by decide +kernel) rfl rfl rfl (by decide +kernel)
set_option maxRecDepth 65536 in
theorem w_c1 : (Jvm.Cond.code ({ cls := "com/example/meticulous_ballot/meticulousballot/CompensatedSum", name := "<init>", desc := "()V" } : Jvm.MethodName) prog_11_method_1_code (1 : Nat) (Option.none : Option Jvm.ClassFile.FieldType)).before args0 about1 = true := code_word (m := ⟨2, 0⟩) (meth := k2m0) (c := k2c0) (by decide +kernel) rfl rfl rfl (by decide +kernel)
set_option maxRecDepth 65536 in
theorem w_c2 : (Jvm.Cond.code ({ cls := "java/lang/Object", name := "<init>", desc := "()V" } : Jvm.MethodName) object_method_1_code (1 : Nat) (Option.none : Option Jvm.ClassFile.FieldType)).before args0 about1 = true := code_word (m := ⟨0, 0⟩) (meth := k0m0) (c := k0c0) (by decide +kernel) rfl rfl rfl (by decide +kernel)
set_option maxRecDepth 65536 in
theorem w_c3 : (Jvm.Cond.code ({ cls := "com/example/meticulous_ballot/meticulousballot/CompensatedSum", name := "add", desc := "(D)V" } : Jvm.MethodName) prog_11_method_2_code (7 : Nat) (Option.none : Option Jvm.ClassFile.FieldType)).before args0 about1 = true := code_word (m := ⟨2, 1⟩) (meth := k2m1) (c := k2c1) (by decide +kernel) rfl rfl rfl (by decide +kernel)
set_option maxRecDepth 65536 in
theorem w_c4 : (Jvm.Cond.code ({ cls := "com/example/meticulous_ballot/meticulousballot/CompensatedSum", name := "value", desc := "()D" } : Jvm.MethodName) prog_11_method_3_code (1 : Nat) (Option.some Jvm.ClassFile.FieldType.double)).before args0 about1 = true := code_word (m := ⟨2, 2⟩) (meth := k2m2) (c := k2c2) (by decide +kernel) rfl rfl rfl (by decide +kernel)
def codes1 : List Jvm.Cond := [Jvm.Cond.code x code maxLocals ret, Jvm.Cond.code ({ cls := "com/example/meticulous_ballot/meticulousballot/CompensatedSum", name := "<init>", desc := "()V" } : Jvm.MethodName) prog_11_method_1_code (1 : Nat) (Option.none : Option Jvm.ClassFile.FieldType), Jvm.Cond.code ({ cls := "java/lang/Object", name := "<init>", desc := "()V" } : Jvm.MethodName) object_method_1_code (1 : Nat) (Option.none : Option Jvm.ClassFile.FieldType), Jvm.Cond.code ({ cls := "com/example/meticulous_ballot/meticulousballot/CompensatedSum", name := "add", desc := "(D)V" } : Jvm.MethodName) prog_11_method_2_code (7 : Nat) (Option.none : Option Jvm.ClassFile.FieldType), Jvm.Cond.code ({ cls := "com/example/meticulous_ballot/meticulousballot/CompensatedSum", name := "value", desc := "()D" } : Jvm.MethodName) prog_11_method_3_code (1 : Nat) (Option.some Jvm.ClassFile.FieldType.double)]
set_option maxRecDepth 65536 in
theorem codes_eq : words1.filter isCode = codes1 := rfl
theorem w_codes : ∀ c ∈ words1.filter isCode, c.before args0 about1 = true := by
  rw [codes_eq]
  intro c hc
  simp only [codes1, List.mem_cons, List.not_mem_nil, or_false] at hc
  rcases hc with rfl | rfl | rfl | rfl | rfl
  · exact w_c0
  · exact w_c1
  · exact w_c2
  · exact w_c3
  · exact w_c4
set_option maxRecDepth 65536 in
theorem w_t1 : (words1.take 24).all (fun c => isCode c || c.before args0 about1) = true := by decide +kernel
set_option maxRecDepth 65536 in
theorem w_t2 : (words1.drop 24).all (fun c => isCode c || c.before args0 about1) = true := by decide +kernel
theorem w_tables : (allAtoms (Jvm.Cond.code x code maxLocals ret :: tables_1)).before args0 about1 = true := by
  rw [allAtoms_all]
  show words1.all (fun c => c.before args0 about1) = true
  refine all_split ?_ w_codes
  rw [← List.take_append_drop 24 words1, List.all_append, w_t1, w_t2]
  rfl
set_option maxRecDepth 65536 in
theorem w_case : (Jvm.Cond.and given_1 narrow_1).before args0 about1 = true := by decide +kernel
theorem w_applies : (headSpec (Jvm.Cond.code x code maxLocals ret :: tables_1) room_1).applies x e0.platform about1 = true :=
  (Spec.applies_iff w_frames).mpr ⟨w_running, w_runnable, w_alone, w_named, w_hears, w_ripe, w_room, w_tables⟩
theorem atStart : AtStart classFile x code maxLocals ret World_1 tables_1 room_1 Calls_1 rest_1 Pre_1 launch0 p0 e0 about1 theMethod args0 below0 :=
  ⟨lists_1, trivial, launch0.admits_env _ _ _, launch0.least_env, fairChoices_fair.cas, fairChoices_fair.clock, w_frames, w_args, w_heap, w_applies, trivial, trivial, w_case⟩
end start1
theorem witness_1 : WitnessClaimed_1 := ⟨start1.p0, start1.e0, start1.about1, start1.theMethod, start1.args0, start1.below0, start1.atStart⟩
end Jvm.Pilot.@@N@@
