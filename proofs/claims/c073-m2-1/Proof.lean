import JvmDerived
import JvmDerived.Pilot.@@N@@Statement
import JvmDerived.Pilot.@@N@@Code
set_option linter.unusedVariables false
set_option linter.unusedSimpArgs false
namespace Jvm.RoadKit
open Sem ClassFile Op Lib Jvm.Stand Jvm.Free Jvm.LawKit
section New
variable {p : Program} {l : Launch} {e : Env} {R : Room} {s : State} {m : MethodId} {args : Array Value} {below : List Frame} {meth : Method} {c : Code} {T : State} {locs : List Loc} {cells slots : Nat}
theorem retI (X : Stand p l e R s m args below meth c T locs cells slots) (hx : p.tables.exec = Jvm.exec) {pc : Nat} {Ls : Array Slot} {z : Int32} {rest : List Value} (hret : meth.sig.returnType = some .int) (hd : decode c.code pc = .ok (.ireturn, 1)) {fs : List Frame}
    (hl : ∀ (f : JFrame) (acts : List Action), f.method = m → f.locked = none → f.entered = [] → (doReturn e (T.setTop f) acts (some (.int z))).1 = T.setFrames fs) : Steps p.tables e below (T.setTop (mkF m pc Ls (.int z :: rest))) (T.setFrames fs) :=
  retOut X hx hret rfl (Or.inl ⟨rfl, Or.inl rfl, z, rfl⟩) hd hl
end New
end Jvm.RoadKit
namespace Jvm.Pilot.@@N@@
open Jvm Jvm.ClassFile Sem Op Lib Jvm.Free Jvm.Stand Jvm.LawKit Jvm.RoadKit Bundle Jvm.Pilot.@@N@@.Jvm.D
theorem own_dloadN {tb : Tables} [Ours tb] {e : Env} {below : List Frame} {T target : State} {m : MethodId} {c : Code} {g : JFrame} (h : At T m c below) (hx : tb.exec = Jvm.exec) (hg : g.method = m) {k : Fin 4} {v : UInt64} (hd : decode c.code g.pc = .ok (.dload_n k, 1)) (hl : g.locals[k.val]? = some (.val (.double v)))
    (hr : Steps tb e below (T.setTop { g with pc := g.pc + 1, stack := .double v :: g.stack }) target) : Steps tb e below (T.setTop g) target := by
  subst hg
  jvm_step h [h.top, hx, hd, hl]
  exact hr
theorem own_dload {tb : Tables} [Ours tb] {e : Env} {below : List Frame} {T target : State} {m : MethodId} {c : Code} {g : JFrame} (h : At T m c below) (hx : tb.exec = Jvm.exec) (hg : g.method = m) {k : Nat} {v : UInt64} (hd : decode c.code g.pc = .ok (.dload k, 2)) (hl : g.locals[k]? = some (.val (.double v)))
    (hr : Steps tb e below (T.setTop { g with pc := g.pc + 2, stack := .double v :: g.stack }) target) : Steps tb e below (T.setTop g) target := by
  subst hg
  jvm_step h [h.top, hx, hd, hl]
  exact hr
theorem own_dstoreN {tb : Tables} [Ours tb] {e : Env} {below : List Frame} {T target : State} {m : MethodId} {c : Code} {g : JFrame} (h : At T m c below) (hx : tb.exec = Jvm.exec) (hg : g.method = m) {k : Fin 4} {x : UInt64} {rest : List Value} {l' : Array Slot} (hd : decode c.code g.pc = .ok (.dstore_n k, 1)) (hs : g.stack = .double x :: rest) (hl : storeLocals g.locals k.val (.double x) = some l')
    (hr : Steps tb e below (T.setTop { g with pc := g.pc + 1, stack := rest, locals := l' }) target) : Steps tb e below (T.setTop g) target := by
  subst hg
  jvm_step h [h.top, hx, hd, hs, hl]
  exact hr
theorem own_dstore {tb : Tables} [Ours tb] {e : Env} {below : List Frame} {T target : State} {m : MethodId} {c : Code} {g : JFrame} (h : At T m c below) (hx : tb.exec = Jvm.exec) (hg : g.method = m) {k : Nat} {x : UInt64} {rest : List Value} {l' : Array Slot} (hd : decode c.code g.pc = .ok (.dstore k, 2)) (hs : g.stack = .double x :: rest) (hl : storeLocals g.locals k (.double x) = some l')
    (hr : Steps tb e below (T.setTop { g with pc := g.pc + 2, stack := rest, locals := l' }) target) : Steps tb e below (T.setTop g) target := by
  subst hg
  jvm_step h [h.top, hx, hd, hs, hl]
  exact hr
theorem own_dconst0 {tb : Tables} [Ours tb] {e : Env} {below : List Frame} {T target : State} {m : MethodId} {c : Code} {g : JFrame} (h : At T m c below) (hx : tb.exec = Jvm.exec) (hg : g.method = m) (hd : decode c.code g.pc = .ok (.dconst 0, 1))
    (hr : Steps tb e below (T.setTop { g with pc := g.pc + 1, stack := .double FP.dconst0 :: g.stack }) target) : Steps tb e below (T.setTop g) target := by
  subst hg
  jvm_step h [h.top, hx, hd]
  exact hr
theorem own_dconst1 {tb : Tables} [Ours tb] {e : Env} {below : List Frame} {T target : State} {m : MethodId} {c : Code} {g : JFrame} (h : At T m c below) (hx : tb.exec = Jvm.exec) (hg : g.method = m) (hd : decode c.code g.pc = .ok (.dconst 1, 1))
    (hr : Steps tb e below (T.setTop { g with pc := g.pc + 1, stack := .double FP.dconst1 :: g.stack }) target) : Steps tb e below (T.setTop g) target := by
  subst hg
  jvm_step h [h.top, hx, hd]
  exact hr
theorem own_i2d {tb : Tables} [Ours tb] {e : Env} {below : List Frame} {T target : State} {m : MethodId} {c : Code} {g : JFrame} (h : At T m c below) (hx : tb.exec = Jvm.exec) (hg : g.method = m) {x : Int32} {rest : List Value} (hd : decode c.code g.pc = .ok (.i2d, 1)) (hs : g.stack = .int x :: rest)
    (hr : Steps tb e below (T.setTop { g with pc := g.pc + 1, stack := .double (FP.i2d x) :: rest }) target) : Steps tb e below (T.setTop g) target := by
  subst hg
  jvm_step h [h.top, hx, hd, hs]
  exact hr
theorem own_l2d {tb : Tables} [Ours tb] {e : Env} {below : List Frame} {T target : State} {m : MethodId} {c : Code} {g : JFrame} (h : At T m c below) (hx : tb.exec = Jvm.exec) (hg : g.method = m) {x : Int64} {rest : List Value} (hd : decode c.code g.pc = .ok (.l2d, 1)) (hs : g.stack = .long x :: rest)
    (hr : Steps tb e below (T.setTop { g with pc := g.pc + 1, stack := .double (FP.l2d x) :: rest }) target) : Steps tb e below (T.setTop g) target := by
  subst hg
  jvm_step h [h.top, hx, hd, hs]
  exact hr
theorem own_d2l {tb : Tables} [Ours tb] {e : Env} {below : List Frame} {T target : State} {m : MethodId} {c : Code} {g : JFrame} (h : At T m c below) (hx : tb.exec = Jvm.exec) (hg : g.method = m) {x : UInt64} {rest : List Value} (hd : decode c.code g.pc = .ok (.d2l, 1)) (hs : g.stack = .double x :: rest)
    (hr : Steps tb e below (T.setTop { g with pc := g.pc + 1, stack := .long (FP.d2l x) :: rest }) target) : Steps tb e below (T.setTop g) target := by
  subst hg
  jvm_step h [h.top, hx, hd, hs]
  exact hr
theorem own_d2i {tb : Tables} [Ours tb] {e : Env} {below : List Frame} {T target : State} {m : MethodId} {c : Code} {g : JFrame} (h : At T m c below) (hx : tb.exec = Jvm.exec) (hg : g.method = m) {x : UInt64} {rest : List Value} (hd : decode c.code g.pc = .ok (.d2i, 1)) (hs : g.stack = .double x :: rest)
    (hr : Steps tb e below (T.setTop { g with pc := g.pc + 1, stack := .int (FP.d2i x) :: rest }) target) : Steps tb e below (T.setTop g) target := by
  subst hg
  jvm_step h [h.top, hx, hd, hs]
  exact hr
theorem own_dneg {tb : Tables} [Ours tb] {e : Env} {below : List Frame} {T target : State} {m : MethodId} {c : Code} {g : JFrame} (h : At T m c below) (hx : tb.exec = Jvm.exec) (hg : g.method = m) {x : UInt64} {rest : List Value} (hd : decode c.code g.pc = .ok (.dneg, 1)) (hs : g.stack = .double x :: rest)
    (hr : Steps tb e below (T.setTop { g with pc := g.pc + 1, stack := .double (FP.dneg x) :: rest }) target) : Steps tb e below (T.setTop g) target := by
  subst hg
  jvm_step h [h.top, hx, hd, hs]
  exact hr
theorem own_dcmp {tb : Tables} [Ours tb] {e : Env} {below : List Frame} {T target : State} {m : MethodId} {c : Code} {g : JFrame} (h : At T m c below) (hx : tb.exec = Jvm.exec) (hg : g.method = m) {op : CmpOp} {x y : UInt64} {rest : List Value} (hd : decode c.code g.pc = .ok (.dcmp op, 1)) (hs : g.stack = .double y :: .double x :: rest)
    (hr : Steps tb e below (T.setTop { g with pc := g.pc + 1, stack := .int (cmpValue (FP.dcmp x y) op) :: rest }) target) : Steps tb e below (T.setTop g) target := by
  subst hg
  jvm_step h [h.top, hx, hd, hs]
  exact hr
theorem own_dadd {tb : Tables} [Ours tb] {e : Env} {below : List Frame} {T target : State} {m : MethodId} {c : Code} {g : JFrame} (h : At T m c below) (hx : tb.exec = Jvm.exec) (hg : g.method = m) {x y : UInt64} {rest : List Value} (hd : decode c.code g.pc = .ok (.dadd, 1)) (hs : g.stack = .double y :: .double x :: rest) (hn : Jvm.Free.Fl.NoNaN64 (FP.dadd x y))
    (hr : Steps tb e below (T.setTop { g with pc := g.pc + 1, stack := .double (FP.dadd x y) :: rest }) target) : Steps tb e below (T.setTop g) target := by
  obtain ⟨gm, gpc, gl, gs, glk, gen, gmr⟩ := g
  subst hg
  dsimp only at hs
  subst hs
  jvm_step h [hx, hd, Op.dadd.at_number h.top hn]
  exact hr
theorem own_dsub {tb : Tables} [Ours tb] {e : Env} {below : List Frame} {T target : State} {m : MethodId} {c : Code} {g : JFrame} (h : At T m c below) (hx : tb.exec = Jvm.exec) (hg : g.method = m) {x y : UInt64} {rest : List Value} (hd : decode c.code g.pc = .ok (.dsub, 1)) (hs : g.stack = .double y :: .double x :: rest) (hn : Jvm.Free.Fl.NoNaN64 (FP.dsub x y))
    (hr : Steps tb e below (T.setTop { g with pc := g.pc + 1, stack := .double (FP.dsub x y) :: rest }) target) : Steps tb e below (T.setTop g) target := by
  obtain ⟨gm, gpc, gl, gs, glk, gen, gmr⟩ := g
  subst hg
  dsimp only at hs
  subst hs
  jvm_step h [hx, hd, Op.dsub.at_number h.top hn]
  exact hr
theorem own_dmul {tb : Tables} [Ours tb] {e : Env} {below : List Frame} {T target : State} {m : MethodId} {c : Code} {g : JFrame} (h : At T m c below) (hx : tb.exec = Jvm.exec) (hg : g.method = m) {x y : UInt64} {rest : List Value} (hd : decode c.code g.pc = .ok (.dmul, 1)) (hs : g.stack = .double y :: .double x :: rest) (hn : Jvm.Free.Fl.NoNaN64 (FP.dmul x y))
    (hr : Steps tb e below (T.setTop { g with pc := g.pc + 1, stack := .double (FP.dmul x y) :: rest }) target) : Steps tb e below (T.setTop g) target := by
  obtain ⟨gm, gpc, gl, gs, glk, gen, gmr⟩ := g
  subst hg
  dsimp only at hs
  subst hs
  jvm_step h [hx, hd, Op.dmul.at_number h.top hn]
  exact hr
theorem own_ddiv {tb : Tables} [Ours tb] {e : Env} {below : List Frame} {T target : State} {m : MethodId} {c : Code} {g : JFrame} (h : At T m c below) (hx : tb.exec = Jvm.exec) (hg : g.method = m) {x y : UInt64} {rest : List Value} (hd : decode c.code g.pc = .ok (.ddiv, 1)) (hs : g.stack = .double y :: .double x :: rest) (hn : Jvm.Free.Fl.NoNaN64 (FP.ddiv x y))
    (hr : Steps tb e below (T.setTop { g with pc := g.pc + 1, stack := .double (FP.ddiv x y) :: rest }) target) : Steps tb e below (T.setTop g) target := by
  obtain ⟨gm, gpc, gl, gs, glk, gen, gmr⟩ := g
  subst hg
  dsimp only at hs
  subst hs
  jvm_step h [hx, hd, Op.ddiv.at_number h.top hn]
  exact hr
theorem own_dup2D {tb : Tables} [Ours tb] {e : Env} {below : List Frame} {T target : State} {m : MethodId} {c : Code} {g : JFrame} (h : At T m c below) (hx : tb.exec = Jvm.exec) (hg : g.method = m) {x : UInt64} {rest : List Value} (hd : decode c.code g.pc = .ok (.dup2, 1)) (hs : g.stack = .double x :: rest)
    (hr : Steps tb e below (T.setTop { g with pc := g.pc + 1, stack := .double x :: .double x :: rest }) target) : Steps tb e below (T.setTop g) target := by
  subst hg
  jvm_step h [h.top, hx, hd, hs, Value.category]
  exact hr
theorem own_retD {p : Program} {l : Launch} {e : Env} {R : Room} {s : State} {m : MethodId} {args : Array Value} {below : List Frame} {meth : Method} {c : Code} {T : State} {locs : List Loc} {cells slots : Nat} (Y : Stand p l e R s m args below meth c T locs cells slots) (hexec : p.tables.exec = Jvm.exec) {pc : Nat} {Ls : Array Slot} {w : UInt64} {rest : List Value} (hret : meth.sig.returnType = some .double)
    (hdg : decode c.code pc = .ok (.dreturn, 1)) {fs : List Frame} (hleave : ∀ (f : JFrame) (acts : List Action), f.method = m → f.locked = none → f.entered = [] → (doReturn e (T.setTop f) acts (some (.double w))).1 = T.setFrames fs) :
    Steps p.tables e below (T.setTop (mkF m pc Ls (.double w :: rest))) (T.setFrames fs) :=
  retOut Y hexec hret rfl (Or.inr (Or.inr (Or.inl ⟨rfl, rfl, w, rfl⟩))) hdg hleave
theorem own_stD {p : Program} {l : Launch} {e : Env} {R : Room} {s : State} {m : MethodId} {args : Array Value} {below : List Frame} {meth : Method} {c : Code} {T : State} {locs : List Loc} {cells slots : Nat} {Z : State} {h : Heap}
    (X : Stand p l e R s m args below meth c T locs cells slots) (hx : p.tables.exec = Jvm.exec) (hZ : Z.Warmed39 s.vm) (eT : T.heap = h) {a : Addr} {cl : Cell} (A : Arr Z h a cl .double) {j : Int32} {x : UInt64} (hj : ¬ (j < 0 ∨ cl.slots.size ≤ j.toNatClampNeg)) {g : JFrame} (hg : g.method = m) {rest : List Value} (hs : g.stack = .double x :: .int j :: .ref a :: rest) (hd : decode c.code g.pc = .ok (.dastore, 1)) :
    ∃ T' h', Stand p l e R s m args below meth c T' (locs ++ [⟨a, j.toNatClampNeg⟩]) cells slots ∧ T'.heap = h' ∧ Wr h h' a j.toNatClampNeg (.double x) ∧ ∀ target, Steps p.tables e below (T'.setTop { g with pc := g.pc + 1, stack := rest }) target → Steps p.tables e below (T.setTop g) target := by
  obtain ⟨X', st⟩ := X.dastore hx (by rw [eT]; exact A.1) (State.isArrayOf_alike hZ.alike A.2.1) A.2.2 hj hg hs hd
  exact ⟨_, _, X', rfl, ⟨cl, A.1, A.plain, Nat.lt_of_not_le fun q => hj (Or.inr q), by rw [← eT]; rfl⟩, st⟩
section OwnDy
open Jvm.FP Jvm.FP.Core
/-- the datum's exponent moved by j -/
def own_sh (j : Int) : Datum → Datum
  | .fin s c q => .fin s c (q + j)
  | d => d
/-- the datum is n * 2^k -/
def own_Dy (n k : Int) (d : Datum) : Prop := Whole n (own_sh (-k) d)
theorem own_dy0 {n : Int} {d : Datum} : own_Dy n 0 d ↔ Whole n d := by
  cases d with
  | nan => exact Iff.rfl
  | inf => exact Iff.rfl
  | fin s c q =>
    show Whole n (.fin s c (q + -0)) ↔ _
    rw [show q + -0 = q by omega]
theorem own_sh_sum (j : Int) (x y : Datum) : exactSum (own_sh j x) (own_sh j y) = own_sh j (exactSum x y) := by
  cases x <;> cases y <;> try rfl
  · simp only [own_sh, exactSum]; split <;> rfl
  · rename_i s c q t d r
    have hm : min (q + j) (r + j) = min q r + j := by omega
    have hu : sumUnits s c (q + j) t d (r + j) (min q r + j) = sumUnits s c q t d r (min q r) := by
      unfold sumUnits inUnits
      rw [show q + j - (min q r + j) = q - min q r by omega, show r + j - (min q r + j) = r - min q r by omega]
    simp only [own_sh, exactSum, hm, hu]
theorem own_sh_prod (i j : Int) (x y : Datum) : exactProduct (own_sh i x) (own_sh j y) = own_sh (i + j) (exactProduct x y) := by
  cases x <;> cases y <;> try rfl
  · simp only [own_sh, exactProduct]; split <;> rfl
  · simp only [own_sh, exactProduct]; split <;> rfl
  · simp only [own_sh, exactProduct, Datum.fin.injEq, true_and]; omega
theorem own_sh_order (j : Int) (x y : Datum) : order (own_sh j x) (own_sh j y) = order x y := by
  cases x <;> cases y <;> try rfl
  rename_i s c q t d r
  simp only [own_sh, order]
  unfold inUnits
  rw [show q + j - min (q + j) (r + j) = q - min q r by omega, show r + j - min (q + j) (r + j) = r - min q r by omega]
theorem own_sh_neg (j : Int) (x : Datum) : negate (own_sh j x) = own_sh j (negate x) := by cases x <;> rfl
theorem own_dy_sum {n m k : Int} {x y : Datum} (hx : own_Dy n k x) (hy : own_Dy m k y) : own_Dy (n + m) k (exactSum x y) := by
  unfold own_Dy; rw [← own_sh_sum]; exact whole_sum hx hy
theorem own_dy_neg {n k : Int} {x : Datum} (hx : own_Dy n k x) : own_Dy (-n) k (negate x) := by
  unfold own_Dy; rw [← own_sh_neg]; exact whole_negate hx
theorem own_dy_prod {n m k l : Int} {x y : Datum} (hx : own_Dy n k x) (hy : own_Dy m l y) : own_Dy (n * m) (k + l) (exactProduct x y) := by
  unfold own_Dy; rw [show -(k + l) = -k + -l by omega, ← own_sh_prod]; exact whole_product hx hy
theorem own_dy_order {n m k : Int} {x y : Datum} (hx : own_Dy n k x) (hy : own_Dy m k y) : order x y = some (compare n m) := by
  rw [← own_sh_order (-k)]; exact order_whole hx hy
theorem own_dy_fin {n k : Int} {x : Datum} (h : own_Dy n k x) : ∃ s c q, x = .fin s c q := by
  cases x with
  | nan => exact h.elim
  | inf => exact h.elim
  | fin s c q => exact ⟨s, c, q, rfl⟩
theorem own_dy_abs {n k q : Int} {s : Bool} {c : Nat} (h : own_Dy n k (.fin s c q)) : c * 2 ^ (q - k).toNat = n.natAbs * 2 ^ (k - q).toNat := by
  have := whole_natAbs (q := q + -k) h
  rw [show q + -k = q - k by omega, show -(q - k) = k - q by omega] at this
  exact this
theorem own_dy_sign {n k q : Int} {s : Bool} {c : Nat} (h : own_Dy n k (.fin s c q)) (hn : n ≠ 0) : s = decide (n < 0) := whole_sign (q := q + -k) h hn
theorem own_dy_mk {n k q : Int} {s : Bool} {c : Nat} (h : c * 2 ^ (q - k).toNat = n.natAbs * 2 ^ (k - q).toNat) (hs : n ≠ 0 → s = decide (n < 0)) : own_Dy n k (.fin s c q) := by
  show signed s (c * 2 ^ (q + -k).toNat) = n * ((2 ^ (-(q + -k)).toNat : Nat) : Int)
  rw [show q + -k = q - k by omega, show -(q - k) = k - q by omega, h]
  by_cases h0 : n = 0
  · subst h0; simp [signed]
  · rw [hs h0, signed_mul]
    congr 1
    unfold signed
    by_cases h : n < 0 <;> simp [h] <;> omega
/-- the same number in smaller units -/
theorem own_dy_scale {n k : Int} {x : Datum} (h : own_Dy n k x) (j : Nat) : own_Dy (n * ((2 ^ j : Nat) : Int)) (k - j) x := by
  obtain ⟨s, c, q, rfl⟩ := own_dy_fin h
  have p : 0 < 2 ^ j := Nat.two_pow_pos j
  refine own_dy_mk ?_ fun hn => ?_
  · have ha := own_dy_abs h
    rw [Int.natAbs_mul, Int.natAbs_natCast]
    have e1 : (q - (k - (j : Int))).toNat + (k - q).toNat = (q - k).toNat + j + (k - (j : Int) - q).toNat := by omega
    refine Nat.eq_of_mul_eq_mul_right (Nat.two_pow_pos (k - q).toNat) ?_
    calc c * 2 ^ (q - (k - (j : Int))).toNat * 2 ^ (k - q).toNat = c * 2 ^ ((q - (k - (j : Int))).toNat + (k - q).toNat) := by rw [Nat.pow_add, Nat.mul_assoc]
      _ = (c * 2 ^ (q - k).toNat) * 2 ^ j * 2 ^ (k - (j : Int) - q).toNat := by rw [e1, Nat.pow_add, Nat.pow_add]; simp only [Nat.mul_assoc]
      _ = n.natAbs * 2 ^ j * 2 ^ (k - (j : Int) - q).toNat * 2 ^ (k - q).toNat := by rw [ha]; ac_rfl
  · have p' : (0 : Int) < ((2 ^ j : Nat) : Int) := by omega
    have h0 : n ≠ 0 := fun h => hn (by rw [h, Int.zero_mul])
    rw [own_dy_sign h h0, decide_eq_decide]
    constructor
    · intro hl; exact Int.mul_neg_of_neg_of_pos hl p'
    · intro hl; exact Int.lt_of_not_ge fun hg => by have := Int.mul_nonneg hg (Int.le_of_lt p'); omega
/-- whole multiples of 2^k of at most 53 digits are doubles -/
theorem own_fit {n : Nat} {k : Int} (s : Bool) (hn : n ≤ 2 ^ 53) (h1 : -1074 ≤ k) (h2 : k ≤ 971) (h3 : n = 2 ^ 53 → k ≤ 970) : ∃ c q, Core.fits b64 (.fin s c q) ∧ n * 2 ^ (k - q).toNat = c * 1 * 2 ^ (q - k).toNat := by
  have ht : b64.tails = 2 ^ 52 := by decide
  have hp : b64.p = 53 := rfl
  have hm : b64.qmin = -1074 := by decide
  have hM : b64.qmax = 971 := by decide
  by_cases h0 : n = 0
  · subst h0
    exact ⟨0, b64.qmin, zero_fits good_b64 s, by simp⟩
  by_cases hp2 : n = 2 ^ 53
  · have h3 := h3 hp2
    refine ⟨2 ^ 52, k + 1, ⟨by rw [hp]; decide, by omega, by omega, .inr (by omega)⟩, ?_⟩
    rw [hp2, show (k - (k + 1)).toNat = 0 by omega, show (k + 1 - k).toNat = 1 by omega]
  · have l1 : 2 ^ n.log2 ≤ n := Nat.log2_self_le h0
    have l2 : n < 2 ^ (n.log2 + 1) := Nat.lt_log2_self
    have l3 : n.log2 < 53 := (Nat.pow_lt_pow_iff_right (by decide : 1 < 2)).mp (Nat.lt_of_le_of_lt l1 (by omega))
    generalize n.log2 = L at l1 l2 l3
    have hq : ∃ q : Int, q = max (-1074) ((L : Int) + k - 52) := ⟨_, rfl⟩
    obtain ⟨q, hq⟩ := hq
    have q1 : q ≤ k := by omega
    refine ⟨n * 2 ^ (k - q).toNat, q, ⟨?_, by omega, by omega, ?_⟩, ?_⟩
    · rw [hp]
      calc n * 2 ^ (k - q).toNat < 2 ^ (L + 1) * 2 ^ (k - q).toNat := Nat.mul_lt_mul_of_pos_right l2 (Nat.two_pow_pos _)
        _ = 2 ^ (L + 1 + (k - q).toNat) := by rw [← Nat.pow_add]
        _ ≤ 2 ^ 53 := Nat.pow_le_pow_right (by decide) (by omega)
    · by_cases hm2 : q = -1074
      · left; rw [hm]; exact hm2
      · right
        rw [ht]
        calc 2 ^ 52 = 2 ^ L * 2 ^ (k - q).toNat := by rw [← Nat.pow_add]; congr 1; omega
          _ ≤ n * 2 ^ (k - q).toNat := Nat.mul_le_mul_right _ l1
    · rw [show (q - k).toNat = 0 by omega]; simp
theorem own_dy_roundRatio {n k e : Int} {A B : Nat} {s : Bool} (hB : 0 < B) (hn : n.natAbs ≤ 2 ^ 53) (h1 : -1074 ≤ k) (h2 : k ≤ 970) (hA : A * 2 ^ (e - k).toNat = n.natAbs * B * 2 ^ (k - e).toNat) (hs : n ≠ 0 → s = decide (n < 0)) : own_Dy n k (roundRatio b64 s A B e) := by
  obtain ⟨c, q, hf, hv⟩ := own_fit (n := n.natAbs) s hn h1 (by omega) (fun _ => h2)
  have : roundRatio b64 s A B e = .fin s c q := by
    rw [roundRatio_congr (A' := n.natAbs) (B' := 1) (e' := k) hB (by decide) (by rw [Nat.mul_one]; exact hA)]
    exact roundRatio_exact good_b64 (by decide) hf hv
  rw [this]
  refine own_dy_mk ?_ hs
  rw [Nat.mul_one] at hv
  exact hv.symm
theorem own_dy_round {n k : Int} {d : Datum} (hn : n.natAbs ≤ 2 ^ 53) (h1 : -1074 ≤ k) (h2 : k ≤ 970) (h : own_Dy n k d) : own_Dy n k (round b64 d) := by
  obtain ⟨s, c, q, rfl⟩ := own_dy_fin h
  refine own_dy_roundRatio (by decide) hn h1 h2 ?_ (own_dy_sign h)
  rw [Nat.mul_one]; exact own_dy_abs h
theorem own_pow_cancel {a b x y : Nat} {u : Int} (h : a * 2 ^ x = b * 2 ^ y) (hu : u = (x : Int) - y) : a * 2 ^ u.toNat = b * 2 ^ (-u).toNat := by
  have hx : x = u.toNat + min x y := by omega
  have hy : y = (-u).toNat + min x y := by omega
  generalize u.toNat = v at *
  generalize (-u).toNat = w at *
  generalize min x y = t at hx hy
  subst hx hy
  rw [Nat.pow_add, Nat.pow_add, ← Nat.mul_assoc, ← Nat.mul_assoc] at h
  exact Nat.eq_of_mul_eq_mul_right (Nat.two_pow_pos t) h
/-- an exact quotient -/
theorem own_dy_quot {r m k l : Int} {x y : Datum} (hm : m ≠ 0) (hn : r.natAbs ≤ 2 ^ 53) (h1 : -1074 ≤ k) (h2 : k ≤ 970) (hx : own_Dy (r * m) (k + l) x) (hy : own_Dy m l y) : own_Dy r k (quotient b64 x y) := by
  obtain ⟨s, c, q, rfl⟩ := own_dy_fin hx
  obtain ⟨t, d, q', rfl⟩ := own_dy_fin hy
  have ha := own_dy_abs hx
  have hb := own_dy_abs hy
  have hd : d ≠ 0 := by
    rintro rfl
    rw [Nat.zero_mul] at hb
    rcases Nat.mul_eq_zero.mp hb.symm with h | h
    · exact hm (Int.natAbs_eq_zero.mp h)
    · have := Nat.two_pow_pos (l - q').toNat; omega
  show own_Dy r k (if d = 0 then _ else _)
  rw [if_neg hd]
  refine own_dy_roundRatio (Nat.pos_of_ne_zero hd) hn h1 h2 ?_ fun h0 => ?_
  · rw [Int.natAbs_mul] at ha
    have e1 : (q - q' - k) = (((q - (k + l)).toNat + (l - q').toNat : Nat) : Int) - (((k + l - q).toNat + (q' - l).toNat : Nat) : Int) := by omega
    have e2 : k - (q - q') = -(q - q' - k) := by omega
    rw [e2]
    refine own_pow_cancel (x := (q - (k + l)).toNat + (l - q').toNat) (y := (k + l - q).toNat + (q' - l).toNat) ?_ e1
    calc c * 2 ^ ((q - (k + l)).toNat + (l - q').toNat) = (c * 2 ^ (q - (k + l)).toNat) * 2 ^ (l - q').toNat := by rw [Nat.pow_add, Nat.mul_assoc]
      _ = r.natAbs * (m.natAbs * 2 ^ (l - q').toNat) * 2 ^ (k + l - q).toNat := by rw [ha]; ac_rfl
      _ = r.natAbs * d * 2 ^ ((k + l - q).toNat + (q' - l).toNat) := by rw [← hb, Nat.pow_add]; ac_rfl
  · have h3 : r * m ≠ 0 := fun h => (Int.mul_eq_zero.mp h).elim h0 hm
    rw [own_dy_sign hx h3, own_dy_sign hy hm]
    rcases Int.lt_or_gt_of_ne h0 with a | a <;> rcases Int.lt_or_gt_of_ne hm with b | b
    · have := Int.mul_pos_of_neg_of_neg a b; simp [a, b]; omega
    · have := Int.mul_neg_of_neg_of_pos a b; simp [a, this]; omega
    · have := Int.mul_neg_of_pos_of_neg a b; simp [b, this]; omega
    · have := Int.mul_pos a b; simp [show ¬ r < 0 by omega, show ¬ m < 0 by omega]; omega
theorem own_dy_unscale {n k : Int} {x : Datum} (j : Nat) (h : own_Dy (n * ((2 ^ j : Nat) : Int)) k x) : own_Dy n (k + j) x := by
  obtain ⟨s, c, q, rfl⟩ := own_dy_fin h
  have p : 0 < 2 ^ j := Nat.two_pow_pos j
  have p' : (0 : Int) < ((2 ^ j : Nat) : Int) := by omega
  refine own_dy_mk ?_ fun h0 => ?_
  · have ha := own_dy_abs h
    rw [Int.natAbs_mul, Int.natAbs_natCast] at ha
    have e1 : (q - (k + (j : Int))) = (((q - k).toNat : Nat) : Int) - (((k - q).toNat + j : Nat) : Int) := by omega
    have e2 : k + (j : Int) - q = -(q - (k + (j : Int))) := by omega
    rw [e2]
    refine own_pow_cancel (x := (q - k).toNat) (y := (k - q).toNat + j) ?_ e1
    rw [ha, Nat.pow_add]; ac_rfl
  · have hn : n * ((2 ^ j : Nat) : Int) ≠ 0 := fun h => (Int.mul_eq_zero.mp h).elim h0 (by omega)
    rw [own_dy_sign h hn, decide_eq_decide]
    constructor
    · intro hl; exact Int.lt_of_not_ge fun hg => by have := Int.mul_nonneg hg (Int.le_of_lt p'); omega
    · intro hl; exact Int.mul_neg_of_neg_of_pos hl p'
/-- the number in units of 2^e -/
theorem own_dy_units {n k q e : Int} {s : Bool} {c : Nat} (h : own_Dy n k (.fin s c q)) (h1 : e ≤ k) (h2 : e ≤ q) : signed s (inUnits c q e) = n * ((2 ^ (k - e).toNat : Nat) : Int) := by
  have ha := own_dy_abs h
  have e1 : inUnits c q e = n.natAbs * 2 ^ (k - e).toNat := by
    unfold inUnits
    refine Nat.eq_of_mul_eq_mul_right (Nat.two_pow_pos (k - q).toNat) ?_
    calc c * 2 ^ (q - e).toNat * 2 ^ (k - q).toNat = (c * 2 ^ (q - k).toNat) * 2 ^ (k - e).toNat := by
          rw [Nat.mul_assoc, ← Nat.pow_add, Nat.mul_assoc, ← Nat.pow_add]; congr 2; omega
      _ = n.natAbs * 2 ^ (k - e).toNat * 2 ^ (k - q).toNat := by rw [ha]; ac_rfl
  rw [e1, signed_mul]
  congr 1
  by_cases h0 : n = 0
  · subst h0; simp [signed]
  · rw [own_dy_sign h h0]
    unfold signed
    by_cases hl : n < 0 <;> simp [hl] <;> omega
theorem own_pow_split (n : Int) {k e : Int} (h1 : -1074 ≤ k) (h2 : e ≤ -1074) : n * ((2 ^ (k - e).toNat : Nat) : Int) = n * ((2 ^ (k + 1074).toNat : Nat) : Int) * ((2 ^ (b64.qmin - e).toNat : Nat) : Int) := by
  have hm : b64.qmin = -1074 := by decide
  rw [hm, Int.mul_assoc, ← Int.natCast_mul, ← Nat.pow_add]
  congr 4
  omega
/-- rounding is monotone -/
theorem own_round_le {n k w : Int} {d V : Datum} (h : own_Dy n k d) (h1 : -1074 ≤ k) (hV : Core.fits b64 V) (hn : V ≠ .nan) (hz : zval b64 V = w) (hw : n * ((2 ^ (k + 1074).toNat : Nat) : Int) ≤ w) : zval b64 (round b64 d) ≤ w := by
  obtain ⟨s, c, q, rfl⟩ := own_dy_fin h
  have hm : b64.qmin = -1074 := by decide
  have p := Nat.two_pow_pos (b64.qmin - min (-1074) q).toNat
  rw [← hz]
  refine zval_round_le good_b64 hV hn (e0 := min (-1074) q) (by omega) (by omega) ?_
  rw [own_dy_units h (by omega) (by omega), own_pow_split n h1 (by omega), hz]
  exact Int.mul_le_mul_of_nonneg_right hw (by omega)
theorem own_round_ge {n k w : Int} {d V : Datum} (h : own_Dy n k d) (h1 : -1074 ≤ k) (hV : Core.fits b64 V) (hn : V ≠ .nan) (hz : zval b64 V = w) (hw : w ≤ n * ((2 ^ (k + 1074).toNat : Nat) : Int)) : w ≤ zval b64 (round b64 d) := by
  obtain ⟨s, c, q, rfl⟩ := own_dy_fin h
  have hm : b64.qmin = -1074 := by decide
  have p := Nat.two_pow_pos (b64.qmin - min (-1074) q).toNat
  rw [← hz]
  refine zval_round_ge good_b64 hV hn (e0 := min (-1074) q) (by omega) (by omega) ?_
  rw [own_dy_units h (by omega) (by omega), own_pow_split n h1 (by omega), hz]
  exact Int.mul_le_mul_of_nonneg_right hw (by omega)
/-! ### on doubles -/
def own_D (n k : Int) (a : UInt64) : Prop := own_Dy n k (val64 a)
theorem own_d_int {n : Int} {a : UInt64} : own_D n 0 a ↔ DInt n a := own_dy0
theorem own_d_ne {n k : Int} {a : UInt64} (h : own_D n k a) : val64 a ≠ .nan := by
  obtain ⟨s, c, q, e⟩ := own_dy_fin h; rw [e]; exact Datum.noConfusion
theorem own_d_no {n k : Int} {a : UInt64} (h : own_D n k a) : Jvm.Free.Fl.NoNaN64 a := Jvm.Free.Fl.val64_no.mpr (own_d_ne h)
theorem own_d_scale {n k : Int} {a : UInt64} (h : own_D n k a) (j : Nat) : own_D (n * ((2 ^ j : Nat) : Int)) (k - j) a := own_dy_scale h j
theorem own_d_add {n m k : Int} {a b : UInt64} (ha : own_D n k a) (hb : own_D m k b) (hn : (n + m).natAbs ≤ 2 ^ 53) (h1 : -1074 ≤ k) (h2 : k ≤ 970) : own_D (n + m) k (FP.dadd a b) := by
  unfold own_D; rw [show FP.dadd a b = Core.dadd a b from rfl, val64_dadd]; exact own_dy_round hn h1 h2 (own_dy_sum ha hb)
theorem own_d_sub {n m k : Int} {a b : UInt64} (ha : own_D n k a) (hb : own_D m k b) (hn : (n - m).natAbs ≤ 2 ^ 53) (h1 : -1074 ≤ k) (h2 : k ≤ 970) : own_D (n - m) k (FP.dsub a b) := by
  unfold own_D; rw [show FP.dsub a b = Core.dsub a b from rfl, val64_dsub]; exact own_dy_round hn h1 h2 (own_dy_sum ha (own_dy_neg hb))
theorem own_d_mul {n m k l : Int} {a b : UInt64} (ha : own_D n k a) (hb : own_D m l b) (hn : (n * m).natAbs ≤ 2 ^ 53) (h1 : -1074 ≤ k + l) (h2 : k + l ≤ 970) : own_D (n * m) (k + l) (FP.dmul a b) := by
  unfold own_D; rw [show FP.dmul a b = Core.dmul a b from rfl, val64_dmul]; exact own_dy_round hn h1 h2 (own_dy_prod ha hb)
theorem own_d_div {r m k l : Int} {a b : UInt64} (hm : m ≠ 0) (ha : own_D (r * m) (k + l) a) (hb : own_D m l b) (hn : r.natAbs ≤ 2 ^ 53) (h1 : -1074 ≤ k) (h2 : k ≤ 970) : own_D r k (FP.ddiv a b) := by
  unfold own_D; rw [show FP.ddiv a b = Core.ddiv a b from rfl, val64_ddiv]; exact own_dy_quot hm hn h1 h2 ha hb
theorem own_d_neg {n k : Int} {a : UInt64} (ha : own_D n k a) : own_D (-n) k (FP.dneg a) := by
  unfold own_D; rw [FP.val64_dneg]; exact own_dy_neg ha
theorem own_d_cmp {n m k : Int} {a b : UInt64} (ha : own_D n k a) (hb : own_D m k b) : FP.dcmp a b = some (compare n m) := own_dy_order ha hb
theorem own_d_i2d (x : Int32) : own_D x.toInt 0 (FP.i2d x) := own_d_int.mpr (i2d_int x)
theorem own_d_l2d {x : Int64} (h : x.toInt.natAbs ≤ 2 ^ 53) : own_D x.toInt 0 (FP.l2d x) := own_d_int.mpr (l2d_int h)
theorem own_d_unscale {n k : Int} {a : UInt64} (j : Nat) (h : own_D (n * ((2 ^ j : Nat) : Int)) k a) : own_D n (k + j) a := own_dy_unscale j h
theorem own_d_zv {n k : Int} {a : UInt64} (h : own_D n k a) (h1 : -1074 ≤ k) : zval b64 (val64 a) = n * ((2 ^ (k + 1074).toNat : Nat) : Int) := by
  obtain ⟨s, c, q, e⟩ := own_dy_fin h
  have hf := val64_fits a
  unfold own_D at h
  rw [e] at h hf ⊢
  have hm : b64.qmin = -1074 := by decide
  have := own_dy_units h (e := b64.qmin) (by omega) (by have := hf.2.1; omega)
  show signed s (inUnits c q b64.qmin) = _
  rw [this, hm]
  congr 4
theorem own_cmp_eq (n : Int) : compare n n = .eq := by simp [compare, compareOfLessAndEq]
theorem own_cmp0 {r : Option Ordering} {op : CmpOp} : cmpValue r op = 0 ↔ r = some .eq := by
  rcases r with _ | o
  · cases op <;> simp [cmpValue] <;> decide
  · cases o <;> simp [cmpValue]
theorem own_d_of {n k q : Int} {s : Bool} {c : Nat} {a : UInt64} (h : val64 a = .fin s c q) (h' : c * 2 ^ (q - k).toNat = n.natAbs * 2 ^ (k - q).toNat) (hs : n = 0 ∨ s = decide (n < 0)) : own_D n k a := by
  unfold own_D; rw [h]; exact own_dy_mk h' fun h0 => hs.resolve_left h0
theorem own_d_0 {k l : Int} {a : UInt64} (h : own_D 0 k a) : own_D 0 l a := by
  obtain ⟨s, c, q, e⟩ := own_dy_fin h
  unfold own_D at h ⊢
  rw [e] at h ⊢
  have := own_dy_abs h
  refine own_dy_mk ?_ fun h0 => absurd rfl h0
  have p := Nat.two_pow_pos (q - k).toNat
  rw [show (0 : Int).natAbs = 0 from rfl, Nat.zero_mul] at this
  rcases Nat.mul_eq_zero.mp this with h | h
  · rw [h]; simp
  · omega
theorem own_d_zero : own_D 0 0 FP.dconst0 := own_d_of (s := false) (c := 0) (q := -1074) (by decide +kernel) (by decide +kernel) (Or.inl rfl)
theorem own_d_one : own_D 1 0 FP.dconst1 := own_d_of (s := false) (c := 4503599627370496) (q := -52) (by decide +kernel) (by decide +kernel) (Or.inr rfl)
end OwnDy
section OwnCalls
variable {p : Program} {l : Launch} {e : Env} {R : Room} {s : State} {m : MethodId} {args : Array Value} {below : List Frame} {meth : Method} {c : Code} {T : State} {locs : List Loc} {cells slots : Nat} {Z : State} {a0 : Array Value} {h : Heap}
theorem own_virt (X : Stand p l e R s m args below meth c T locs cells slots) (hx : p.tables.exec = Jvm.exec) (hZ : Z.Warmed39 s.vm) {own C : String} {index : Nat} {y : MethodName} (hown : s.vm.findClass own = some m.cls)
    (w1 : (Jvm.Cond.methodLink own index y).before a0 Z = true) (w2 : (Jvm.Cond.declares y).before a0 Z = true) (w3 : (Jvm.Cond.selects C y y).before a0 Z = true) (w4 : (Jvm.Cond.instanceMethod y).before a0 Z = true)
    (hy : y.cls ≠ "java/lang/invoke/MethodHandle" ∧ y.cls ≠ "java/lang/invoke/VarHandle") {bytes : ByteArray} {maxL : Nat} {ret : Option FieldType} {rm : Room} {as' : Array Value} {Q : Option Value → Heap → List Loc → Prop}
    (hM : MetFree l y (head1 [Jvm.Cond.code y bytes maxL ret] rm) (fun α U => α = as' ∧ Z.Warmed39 U.vm ∧ U.heap = h) (fun _ _ _ _ _ => True) (fun _ U o U' => ∃ v L, o = .returned v ∧ Q v U'.heap L ∧ FrameEnd U o U' L rm.cells rm.slots))
    (wc : (Jvm.Cond.code y bytes maxL ret).before a0 Z = true) (wz : (Jvm.Cond.initialized y.cls).before a0 Z = true) (W : Nat) (hf : rm.frames + 1 ≤ R.frames) (hl : W + (maxL + 11) + rm.locals ≤ R.locals)
    {b : Addr} (E : Exa Z h b C) (eT : T.heap = h) (g : JFrame) (hg : g.method = m) (hsize : g.locals.size = c.maxLocals) (argsL rest : List Value) (has : (.ref b :: argsL).toArray = as')
    (hlen : ∀ sig, parseMethodDescriptor y.desc = some sig → argsL.length = sig.parameters.length) (hstack : g.stack = argsL.reverse ++ .ref b :: rest) (hW : 2 * g.monitorRoom + (rest.map fun v => v.category).sum ≤ W)
    (hdg : decode c.code g.pc = .ok (.invokevirtual index, 3)) (hc : cells + rm.cells ≤ R.cells) (hs : slots + rm.slots ≤ R.slots) :
    ∃ (v : Option Value) (T' : State) (L : List Loc), Stand p l e R s m args below meth c T' (locs ++ L) (cells + rm.cells) (slots + rm.slots) ∧ Q v T'.heap L ∧
      ∀ τ, Steps p.tables e below (T'.setTop { g with pc := g.pc + 3, stack := v.toList ++ rest }) τ → Steps p.tables e below (T.setTop g) τ := by
  obtain ⟨cq, kq, qa, qb, qc⟩ := isOf hZ eT E
  obtain ⟨v, _, ⟨T1, L1, k1, n1⟩, -, X1, ⟨Lc, hQ, l1, y1, z1⟩, st⟩ := X.virtualBack hx (y := y) (z := y) hown (mvT hZ w1) (mvT hZ w2) (notFace_of_selects (args := #[]) (mvT hZ w3)) (mvT hZ w3) (mvT hZ w4) hy (backOf (W := W) hM hZ wc wz hf hl) qa qc (g := g) hg hsize (Steps.refl _) (argsL := argsL) (rest := rest) hlen hstack hW hdg (fun _ _ => ⟨has, eT, hc, hs⟩)
  dsimp only [Pt.U, Pt.locs, Pt.cells, Pt.slots] at X1 l1 y1 z1 st hQ
  subst l1 y1 z1
  exact ⟨v, T1, Lc, X1, hQ, fun τ kt => st.trans kt⟩
theorem own_spec (X : Stand p l e R s m args below meth c T locs cells slots) (hx : p.tables.exec = Jvm.exec) (hZ : Z.Warmed39 s.vm) {own : String} {index : Nat} {y : MethodName} (hy1 : y.name = "<init>") (hown : s.vm.findClass own = some m.cls)
    (w1 : (Jvm.Cond.methodLink own index y).before a0 Z = true) (w4 : (Jvm.Cond.instanceMethod y).before a0 Z = true)
    (hy : y.cls ≠ "java/lang/invoke/MethodHandle" ∧ y.cls ≠ "java/lang/invoke/VarHandle") {bytes : ByteArray} {maxL : Nat} {rm : Room} {as' : Array Value} {Q : Option Value → Heap → List Loc → Prop}
    (hM : MetFree l y (head1 [Jvm.Cond.code y bytes maxL none] rm) (fun α U => α = as' ∧ Z.Warmed39 U.vm ∧ U.heap = h) (fun _ _ _ _ _ => True) (fun _ U o U' => ∃ v L, o = .returned v ∧ Q v U'.heap L ∧ FrameEnd U o U' L rm.cells rm.slots))
    (wc : (Jvm.Cond.code y bytes maxL none).before a0 Z = true) (wz : (Jvm.Cond.initialized y.cls).before a0 Z = true) (W : Nat) (hf : rm.frames + 1 ≤ R.frames) (hl : W + (maxL + 11) + rm.locals ≤ R.locals)
    {b : Addr} (eT : T.heap = h) (g : JFrame) (hg : g.method = m) (hsize : g.locals.size = c.maxLocals) (argsL rest : List Value) (has : (.ref b :: argsL).toArray = as')
    (hlen : ∀ sig, parseMethodDescriptor y.desc = some sig → argsL.length = sig.parameters.length) (hstack : g.stack = argsL.reverse ++ .ref b :: rest) (hW : 2 * g.monitorRoom + (rest.map fun v => v.category).sum ≤ W)
    (hdg : decode c.code g.pc = .ok (.invokespecial index, 3)) (hc : cells + rm.cells ≤ R.cells) (hs : slots + rm.slots ≤ R.slots) :
    ∃ (v : Option Value) (T' : State) (L : List Loc), Stand p l e R s m args below meth c T' (locs ++ L) (cells + rm.cells) (slots + rm.slots) ∧ Q v T'.heap L ∧
      ∀ τ, Steps p.tables e below (T'.setTop { g with pc := g.pc + 3, stack := v.toList ++ rest }) τ → Steps p.tables e below (T.setTop g) τ := by
  obtain ⟨v, _, ⟨T1, L1, k1, n1⟩, -, X1, ⟨Lc, hQ, l1, y1, z1⟩, st⟩ := X.specialBack hx (y := y) hy1 hown (mvT hZ w1) (mvT hZ w4) (mvT hZ wc) hy (backOf (W := W) hM hZ wc wz hf hl) (g := g) hg hsize (Steps.refl _) (a := b) (argsL := argsL) (rest := rest) hlen hstack hW hdg (fun _ _ => ⟨has, eT, hc, hs⟩)
  dsimp only [Pt.U, Pt.locs, Pt.cells, Pt.slots] at X1 l1 y1 z1 st hQ
  subst l1 y1 z1
  exact ⟨v, T1, Lc, X1, hQ, fun τ kt => st.trans kt⟩
theorem own_stat (X : Stand p l e R s m args below meth c T locs cells slots) (hx : p.tables.exec = Jvm.exec) (hZ : Z.Warmed39 s.vm) {own : String} {index : Nat} {y : MethodName} (hown : s.vm.findClass own = some m.cls)
    (w1 : (Jvm.Cond.methodLink own index y).before a0 Z = true) (w2 : (Jvm.Cond.static y).before a0 Z = true)
    (hy : y.cls ≠ "java/lang/invoke/MethodHandle" ∧ y.cls ≠ "java/lang/invoke/VarHandle") {bytes : ByteArray} {maxL : Nat} {ret : Option FieldType} {rm : Room} {as' : Array Value} {Q : Option Value → Heap → List Loc → Prop}
    (hM : MetFree l y (head1 [Jvm.Cond.code y bytes maxL ret] rm) (fun α U => α = as' ∧ Z.Warmed39 U.vm ∧ U.heap = h) (fun _ _ _ _ _ => True) (fun _ U o U' => ∃ v L, o = .returned v ∧ Q v U'.heap L ∧ FrameEnd U o U' L rm.cells rm.slots))
    (wc : (Jvm.Cond.code y bytes maxL ret).before a0 Z = true) (wz : (Jvm.Cond.initialized y.cls).before a0 Z = true) (W : Nat) (hf : rm.frames + 1 ≤ R.frames) (hl : W + (maxL + 11) + rm.locals ≤ R.locals)
    (eT : T.heap = h) (g : JFrame) (hg : g.method = m) (hsize : g.locals.size = c.maxLocals) (argsL rest : List Value) (has : argsL.toArray = as')
    (hlen : ∀ sig, parseMethodDescriptor y.desc = some sig → argsL.length = sig.parameters.length) (hstack : g.stack = argsL.reverse ++ rest) (hW : 2 * g.monitorRoom + (rest.map fun v => v.category).sum ≤ W)
    (hdg : decode c.code g.pc = .ok (.invokestatic index, 3)) (hc : cells + rm.cells ≤ R.cells) (hs : slots + rm.slots ≤ R.slots) :
    ∃ (v : Option Value) (T' : State) (L : List Loc), Stand p l e R s m args below meth c T' (locs ++ L) (cells + rm.cells) (slots + rm.slots) ∧ Q v T'.heap L ∧
      ∀ τ, Steps p.tables e below (T'.setTop { g with pc := g.pc + 3, stack := v.toList ++ rest }) τ → Steps p.tables e below (T.setTop g) τ := by
  obtain ⟨v, _, ⟨T1, L1, k1, n1⟩, -, X1, ⟨Lc, hQ, l1, y1, z1⟩, st⟩ := Jvm.LawKit.callS X hx (y := y) hown (mvT hZ w1) (mvT hZ w2) (mvT hZ wz) (mvT hZ wc) hy (backOf (W := W) hM hZ wc wz hf hl) (g := g) hg hsize (argsL := argsL) (rest := rest) hlen hstack hW hdg (fun _ _ => ⟨has, eT, hc, hs⟩)
  dsimp only [Pt.U, Pt.locs, Pt.cells, Pt.slots] at X1 l1 y1 z1 st hQ
  subst l1 y1 z1
  exact ⟨v, T1, Lc, X1, hQ, st⟩
end OwnCalls
theorem own_pd__I_V : parseMethodDescriptor "(I)V" = some ⟨[.int], none⟩ := by decide +kernel
theorem own_pd__IDD_V : parseMethodDescriptor "(IDD)V" = some ⟨[.int, .double, .double], none⟩ := by decide +kernel
theorem own_pd____D : parseMethodDescriptor "()[D" = some ⟨[], some (.array .double)⟩ := by decide +kernel
theorem own_pd___II_V : parseMethodDescriptor "([II)V" = some ⟨[(.array .int), .int], none⟩ := by decide +kernel
theorem own_pd___V : parseMethodDescriptor "()V" = some ⟨[], none⟩ := by decide +kernel
theorem own_pd__D_V : parseMethodDescriptor "(D)V" = some ⟨[.double], none⟩ := by decide +kernel
theorem own_pd___D : parseMethodDescriptor "()D" = some ⟨[], some .double⟩ := by decide +kernel
def own_fine (t : UInt64) : Prop := (∃ s c q, FP.Core.val64 t = .fin s c q) ∧ t ≠ FP.Core.dzeroNeg
theorem own_fine_ne {t : UInt64} (h : own_fine t) : FP.Core.val64 t ≠ .nan := by obtain ⟨⟨s, c, q, e⟩, -⟩ := h; rw [e]; exact FP.Core.Datum.noConfusion
theorem own_sub0 {t : UInt64} (h : own_fine t) : FP.dsub t 0 = t := by
  show FP.Core.dsub t 0 = t
  rw [FP.Core.dsub_eq, show FP.Core.dneg 0 = FP.Core.dzeroNeg by decide +kernel]
  exact FP.Core.dadd_zeroNeg (own_fine_ne h)
theorem own_add0 {t : UInt64} (h : own_fine t) : FP.dadd 0 t = t := by
  show FP.Core.dadd 0 t = t
  rw [FP.Core.dadd_comm]
  exact FP.Core.dadd_zero (own_fine_ne h) h.2
theorem own_self0 {t : UInt64} (h : own_fine t) : FP.dsub t t = 0 := by
  obtain ⟨⟨s, c, q, e⟩, -⟩ := h
  exact FP.Core.dsub_self e
theorem own_fine_no {t : UInt64} (h : own_fine t) : Jvm.Free.Fl.NoNaN64 t := Jvm.Free.Fl.val64_no.mpr (own_fine_ne h)
theorem own_fine_i2d (x : Int32) : own_fine (FP.i2d x) := by
  refine ⟨own_dy_fin (own_d_i2d x), fun q => ?_⟩
  by_cases h : x = 0
  · subst h; exact absurd q (by decide +kernel)
  · have hx : x.toInt ≠ 0 := fun z => h (Int32.toInt_inj.mp (by rw [z]; rfl))
    have h1 := own_d_i2d x
    rw [q] at h1
    have h2 : own_D 0 0 FP.Core.dzeroNeg := own_d_of (s := true) (c := 0) (q := -1074) (by decide +kernel) (by decide +kernel) (Or.inl rfl)
    have := own_d_cmp h1 h2
    rw [show FP.dcmp FP.Core.dzeroNeg FP.Core.dzeroNeg = some .eq by decide +kernel] at this
    exact hx (Int.compare_eq_eq.mp (Option.some.inj this).symm)
/-- a chance and a worth that may stand in the chain -/
def own_cw (x w : UInt64) : Prop := own_fine x ∧ own_fine w ∧ Jvm.Free.Fl.NoNaN64 (FP.ddiv w x)
theorem own_cw_i2d (c w : Int32) : own_cw (FP.i2d ((c &&& (1048575 : Int32)) + (1 : Int32))) (FP.i2d w) := by
  refine ⟨own_fine_i2d _, own_fine_i2d _, ?_⟩
  have hb := c_and c 1048575 (by decide)
  rw [show (1048575 : Int32).toInt = 1048575 by decide] at hb
  generalize c &&& 1048575 = u at *
  have hc := c_iadd u 1
  have r := rng32 (u + 1)
  rw [show (1 : Int32).toInt = 1 by decide] at hc
  have h0 : u + 1 ≠ 0 := fun q => by rw [q] at hc; rw [show (0 : Int32).toInt = 0 by decide] at hc; omega
  exact Jvm.Free.Fl.noNaN64_no.mpr (FP.Core.ddiv_out (FP.Core.i2d_fin w).notNaN (FP.Core.i2d_fin _) (fun q => FP.Core.i2d_ne_zero h0 ((FP.Core.zero_bits2 _).mp q)))
theorem own_cw1 : own_cw FP.dconst1 (4621819117588971520 : UInt64) := ⟨⟨⟨false, 4503599627370496, -52, by decide +kernel⟩, by decide +kernel⟩, ⟨⟨false, 5629499534213120, -49, by decide +kernel⟩, by decide +kernel⟩, by decide +kernel⟩
theorem own_cw2 : own_cw (4611686018427387904 : UInt64) (4626322717216342016 : UInt64) := ⟨⟨⟨false, 4503599627370496, -51, by decide +kernel⟩, by decide +kernel⟩, ⟨⟨false, 5629499534213120, -48, by decide +kernel⟩, by decide +kernel⟩, by decide +kernel⟩
theorem own_cw4 : own_cw (4616189618054758400 : UInt64) (4630826316843712512 : UInt64) := ⟨⟨⟨false, 4503599627370496, -50, by decide +kernel⟩, by decide +kernel⟩, ⟨⟨false, 5629499534213120, -47, by decide +kernel⟩, by decide +kernel⟩, by decide +kernel⟩
theorem own_rem3 {x : Int32} (h : 0 ≤ x.toInt) : x % (3 : Int32) = 0 ∨ x % (3 : Int32) = 1 ∨ x % (3 : Int32) = 2 := by
  have hr := (c_irem x 3 3 (by decide)).1 h
  have : (x % 3).toInt = 0 ∨ (x % 3).toInt = 1 ∨ (x % 3).toInt = 2 := by omega
  rcases this with q | q | q
  · exact Or.inl (Int32.toInt_inj.mp (by rw [q]; rfl))
  · exact Or.inr (Or.inl (Int32.toInt_inj.mp (by rw [q]; rfl)))
  · exact Or.inr (Or.inr (Int32.toInt_inj.mp (by rw [q]; rfl)))
theorem own_deq {a : UInt64} (h : Jvm.Free.Fl.NoNaN64 a) : cmpValue (FP.dcmp a a) .l = 0 := own_cmp0.mpr (FP.Core.dcmp_self (Jvm.Free.Fl.val64_no.mp h))
abbrev own_mn0 : MethodName := ⟨"java/util/Arrays", "fill", "([II)V"⟩
abbrev own_mn1 : MethodName := ⟨"com/example/meticulous_ballot/meticulousballot/CompensatedSum", "<init>", "()V"⟩
abbrev own_mn2 : MethodName := ⟨"com/example/meticulous_ballot/meticulousballot/CompensatedSum", "add", "(D)V"⟩
abbrev own_mn3 : MethodName := ⟨"com/example/meticulous_ballot/meticulousballot/CompensatedSum", "value", "()D"⟩
abbrev own_mn4 : MethodName := ⟨"com/example/meticulous_ballot/meticulousballot/AbsorbingChain", "<init>", "(I)V"⟩
abbrev own_mn5 : MethodName := ⟨"com/example/meticulous_ballot/meticulousballot/AbsorbingChain", "leave", "(IDD)V"⟩
abbrev own_mn6 : MethodName := ⟨"com/example/meticulous_ballot/meticulousballot/AbsorbingChain", "solve", "()[D"⟩
theorem own_W0 {a0 : Array Value} {Z : State} (hw : ∀ d ∈ tables_1, d.before a0 Z = true) : Jvm.Cond.before (Jvm.Cond.classLink "com/example/meticulous_ballot/meticulousballot/AbsorbingChainLeavePinLaw" (7 : Nat) "com/example/meticulous_ballot/meticulousballot/AbsorbingChain") a0 Z = true := hw _ (List.mem_of_getElem? (i := 0) rfl)
theorem own_W1 {a0 : Array Value} {Z : State} (hw : ∀ d ∈ tables_1, d.before a0 Z = true) : Jvm.Cond.before (Jvm.Cond.instantiable "com/example/meticulous_ballot/meticulousballot/AbsorbingChain" (7 : Nat)) a0 Z = true := hw _ (List.mem_of_getElem? (i := 1) rfl)
theorem own_W2 {a0 : Array Value} {Z : State} (hw : ∀ d ∈ tables_1, d.before a0 Z = true) : Jvm.Cond.before (Jvm.Cond.initialized "com/example/meticulous_ballot/meticulousballot/AbsorbingChain") a0 Z = true := hw _ (List.mem_of_getElem? (i := 2) rfl)
theorem own_W3 {a0 : Array Value} {Z : State} (hw : ∀ d ∈ tables_1, d.before a0 Z = true) : Jvm.Cond.before (Jvm.Cond.methodLink "com/example/meticulous_ballot/meticulousballot/AbsorbingChainLeavePinLaw" (9 : Nat) ({ cls := "com/example/meticulous_ballot/meticulousballot/AbsorbingChain", name := "<init>", desc := "(I)V" } : Jvm.MethodName)) a0 Z = true := hw _ (List.mem_of_getElem? (i := 3) rfl)
theorem own_W4 {a0 : Array Value} {Z : State} (hw : ∀ d ∈ tables_1, d.before a0 Z = true) : Jvm.Cond.before (Jvm.Cond.instanceMethod ({ cls := "com/example/meticulous_ballot/meticulousballot/AbsorbingChain", name := "<init>", desc := "(I)V" } : Jvm.MethodName)) a0 Z = true := hw _ (List.mem_of_getElem? (i := 4) rfl)
theorem own_W5 {a0 : Array Value} {Z : State} (hw : ∀ d ∈ tables_1, d.before a0 Z = true) : Jvm.Cond.before (Jvm.Cond.code ({ cls := "com/example/meticulous_ballot/meticulousballot/AbsorbingChain", name := "<init>", desc := "(I)V" } : Jvm.MethodName) prog_1_method_1_code (2 : Nat) (Option.none : Option Jvm.ClassFile.FieldType)) a0 Z = true := hw _ (List.mem_of_getElem? (i := 5) rfl)
theorem own_W6 {a0 : Array Value} {Z : State} (hw : ∀ d ∈ tables_1, d.before a0 Z = true) : Jvm.Cond.before (Jvm.Cond.methodLink "com/example/meticulous_ballot/meticulousballot/AbsorbingChain" (1 : Nat) ({ cls := "java/lang/Object", name := "<init>", desc := "()V" } : Jvm.MethodName)) a0 Z = true := hw _ (List.mem_of_getElem? (i := 6) rfl)
theorem own_W7 {a0 : Array Value} {Z : State} (hw : ∀ d ∈ tables_1, d.before a0 Z = true) : Jvm.Cond.before (Jvm.Cond.instanceMethod ({ cls := "java/lang/Object", name := "<init>", desc := "()V" } : Jvm.MethodName)) a0 Z = true := hw _ (List.mem_of_getElem? (i := 7) rfl)
theorem own_W8 {a0 : Array Value} {Z : State} (hw : ∀ d ∈ tables_1, d.before a0 Z = true) : Jvm.Cond.before (Jvm.Cond.code ({ cls := "java/lang/Object", name := "<init>", desc := "()V" } : Jvm.MethodName) object_method_1_code (1 : Nat) (Option.none : Option Jvm.ClassFile.FieldType)) a0 Z = true := hw _ (List.mem_of_getElem? (i := 8) rfl)
theorem own_W9 {a0 : Array Value} {Z : State} (hw : ∀ d ∈ tables_1, d.before a0 Z = true) : Jvm.Cond.before (Jvm.Cond.arrayClass Jvm.ClassFile.FieldType.double) a0 Z = true := hw _ (List.mem_of_getElem? (i := 9) rfl)
theorem own_W10 {a0 : Array Value} {Z : State} (hw : ∀ d ∈ tables_1, d.before a0 Z = true) : Jvm.Cond.before (Jvm.Cond.fieldLink "com/example/meticulous_ballot/meticulousballot/AbsorbingChain" (7 : Nat) "com/example/meticulous_ballot/meticulousballot/AbsorbingChain" "leaving" "[D") a0 Z = true := hw _ (List.mem_of_getElem? (i := 10) rfl)
theorem own_W11 {a0 : Array Value} {Z : State} (hw : ∀ d ∈ tables_1, d.before a0 Z = true) : Jvm.Cond.before (Jvm.Cond.laysFinal "com/example/meticulous_ballot/meticulousballot/AbsorbingChain" "com/example/meticulous_ballot/meticulousballot/AbsorbingChain" "leaving" "[D") a0 Z = true := hw _ (List.mem_of_getElem? (i := 11) rfl)
theorem own_W12 {a0 : Array Value} {Z : State} (hw : ∀ d ∈ tables_1, d.before a0 Z = true) : Jvm.Cond.before (Jvm.Cond.fieldLink "com/example/meticulous_ballot/meticulousballot/AbsorbingChain" (13 : Nat) "com/example/meticulous_ballot/meticulousballot/AbsorbingChain" "worths" "[D") a0 Z = true := hw _ (List.mem_of_getElem? (i := 12) rfl)
theorem own_W13 {a0 : Array Value} {Z : State} (hw : ∀ d ∈ tables_1, d.before a0 Z = true) : Jvm.Cond.before (Jvm.Cond.laysFinal "com/example/meticulous_ballot/meticulousballot/AbsorbingChain" "com/example/meticulous_ballot/meticulousballot/AbsorbingChain" "worths" "[D") a0 Z = true := hw _ (List.mem_of_getElem? (i := 13) rfl)
theorem own_W14 {a0 : Array Value} {Z : State} (hw : ∀ d ∈ tables_1, d.before a0 Z = true) : Jvm.Cond.before (Jvm.Cond.classLink "com/example/meticulous_ballot/meticulousballot/AbsorbingChain" (16 : Nat) "[[I") a0 Z = true := hw _ (List.mem_of_getElem? (i := 14) rfl)
theorem own_W15 {a0 : Array Value} {Z : State} (hw : ∀ d ∈ tables_1, d.before a0 Z = true) : Jvm.Cond.before (Jvm.Cond.arrayOver (Jvm.ClassFile.FieldType.array Jvm.ClassFile.FieldType.int)) a0 Z = true := hw _ (List.mem_of_getElem? (i := 15) rfl)
theorem own_W16 {a0 : Array Value} {Z : State} (hw : ∀ d ∈ tables_1, d.before a0 Z = true) : Jvm.Cond.before (Jvm.Cond.arrayClass Jvm.ClassFile.FieldType.int) a0 Z = true := hw _ (List.mem_of_getElem? (i := 16) rfl)
theorem own_W17 {a0 : Array Value} {Z : State} (hw : ∀ d ∈ tables_1, d.before a0 Z = true) : Jvm.Cond.before (Jvm.Cond.fieldLink "com/example/meticulous_ballot/meticulousballot/AbsorbingChain" (18 : Nat) "com/example/meticulous_ballot/meticulousballot/AbsorbingChain" "links" "[[I") a0 Z = true := hw _ (List.mem_of_getElem? (i := 17) rfl)
theorem own_W18 {a0 : Array Value} {Z : State} (hw : ∀ d ∈ tables_1, d.before a0 Z = true) : Jvm.Cond.before (Jvm.Cond.laysFinal "com/example/meticulous_ballot/meticulousballot/AbsorbingChain" "com/example/meticulous_ballot/meticulousballot/AbsorbingChain" "links" "[[I") a0 Z = true := hw _ (List.mem_of_getElem? (i := 18) rfl)
theorem own_W19 {a0 : Array Value} {Z : State} (hw : ∀ d ∈ tables_1, d.before a0 Z = true) : Jvm.Cond.before (Jvm.Cond.classLink "com/example/meticulous_ballot/meticulousballot/AbsorbingChain" (21 : Nat) "[[D") a0 Z = true := hw _ (List.mem_of_getElem? (i := 19) rfl)
theorem own_W20 {a0 : Array Value} {Z : State} (hw : ∀ d ∈ tables_1, d.before a0 Z = true) : Jvm.Cond.before (Jvm.Cond.arrayOver (Jvm.ClassFile.FieldType.array Jvm.ClassFile.FieldType.double)) a0 Z = true := hw _ (List.mem_of_getElem? (i := 20) rfl)
theorem own_W21 {a0 : Array Value} {Z : State} (hw : ∀ d ∈ tables_1, d.before a0 Z = true) : Jvm.Cond.before (Jvm.Cond.fieldLink "com/example/meticulous_ballot/meticulousballot/AbsorbingChain" (23 : Nat) "com/example/meticulous_ballot/meticulousballot/AbsorbingChain" "chances" "[[D") a0 Z = true := hw _ (List.mem_of_getElem? (i := 21) rfl)
theorem own_W22 {a0 : Array Value} {Z : State} (hw : ∀ d ∈ tables_1, d.before a0 Z = true) : Jvm.Cond.before (Jvm.Cond.laysFinal "com/example/meticulous_ballot/meticulousballot/AbsorbingChain" "com/example/meticulous_ballot/meticulousballot/AbsorbingChain" "chances" "[[D") a0 Z = true := hw _ (List.mem_of_getElem? (i := 22) rfl)
theorem own_W23 {a0 : Array Value} {Z : State} (hw : ∀ d ∈ tables_1, d.before a0 Z = true) : Jvm.Cond.before (Jvm.Cond.fieldLink "com/example/meticulous_ballot/meticulousballot/AbsorbingChain" (26 : Nat) "com/example/meticulous_ballot/meticulousballot/AbsorbingChain" "linkCounts" "[I") a0 Z = true := hw _ (List.mem_of_getElem? (i := 23) rfl)
theorem own_W24 {a0 : Array Value} {Z : State} (hw : ∀ d ∈ tables_1, d.before a0 Z = true) : Jvm.Cond.before (Jvm.Cond.laysFinal "com/example/meticulous_ballot/meticulousballot/AbsorbingChain" "com/example/meticulous_ballot/meticulousballot/AbsorbingChain" "linkCounts" "[I") a0 Z = true := hw _ (List.mem_of_getElem? (i := 24) rfl)
theorem own_W25 {a0 : Array Value} {Z : State} (hw : ∀ d ∈ tables_1, d.before a0 Z = true) : Jvm.Cond.before (Jvm.Cond.fieldLink "com/example/meticulous_ballot/meticulousballot/AbsorbingChain" (30 : Nat) "com/example/meticulous_ballot/meticulousballot/AbsorbingChain" "linkedFrom" "[[I") a0 Z = true := hw _ (List.mem_of_getElem? (i := 25) rfl)
theorem own_W26 {a0 : Array Value} {Z : State} (hw : ∀ d ∈ tables_1, d.before a0 Z = true) : Jvm.Cond.before (Jvm.Cond.laysFinal "com/example/meticulous_ballot/meticulousballot/AbsorbingChain" "com/example/meticulous_ballot/meticulousballot/AbsorbingChain" "linkedFrom" "[[I") a0 Z = true := hw _ (List.mem_of_getElem? (i := 26) rfl)
theorem own_W27 {a0 : Array Value} {Z : State} (hw : ∀ d ∈ tables_1, d.before a0 Z = true) : Jvm.Cond.before (Jvm.Cond.fieldLink "com/example/meticulous_ballot/meticulousballot/AbsorbingChain" (33 : Nat) "com/example/meticulous_ballot/meticulousballot/AbsorbingChain" "linkedFromCounts" "[I") a0 Z = true := hw _ (List.mem_of_getElem? (i := 27) rfl)
theorem own_W28 {a0 : Array Value} {Z : State} (hw : ∀ d ∈ tables_1, d.before a0 Z = true) : Jvm.Cond.before (Jvm.Cond.laysFinal "com/example/meticulous_ballot/meticulousballot/AbsorbingChain" "com/example/meticulous_ballot/meticulousballot/AbsorbingChain" "linkedFromCounts" "[I") a0 Z = true := hw _ (List.mem_of_getElem? (i := 28) rfl)
theorem own_W29 {a0 : Array Value} {Z : State} (hw : ∀ d ∈ tables_1, d.before a0 Z = true) : Jvm.Cond.before (Jvm.Cond.constantDouble "com/example/meticulous_ballot/meticulousballot/AbsorbingChainLeavePinLaw" (12 : Nat) (4621819117588971520 : UInt64)) a0 Z = true := hw _ (List.mem_of_getElem? (i := 29) rfl)
theorem own_W30 {a0 : Array Value} {Z : State} (hw : ∀ d ∈ tables_1, d.before a0 Z = true) : Jvm.Cond.before (Jvm.Cond.methodLink "com/example/meticulous_ballot/meticulousballot/AbsorbingChainLeavePinLaw" (14 : Nat) ({ cls := "com/example/meticulous_ballot/meticulousballot/AbsorbingChain", name := "leave", desc := "(IDD)V" } : Jvm.MethodName)) a0 Z = true := hw _ (List.mem_of_getElem? (i := 30) rfl)
theorem own_W31 {a0 : Array Value} {Z : State} (hw : ∀ d ∈ tables_1, d.before a0 Z = true) : Jvm.Cond.before (Jvm.Cond.declares ({ cls := "com/example/meticulous_ballot/meticulousballot/AbsorbingChain", name := "leave", desc := "(IDD)V" } : Jvm.MethodName)) a0 Z = true := hw _ (List.mem_of_getElem? (i := 31) rfl)
theorem own_W32 {a0 : Array Value} {Z : State} (hw : ∀ d ∈ tables_1, d.before a0 Z = true) : Jvm.Cond.before (Jvm.Cond.instanceMethod ({ cls := "com/example/meticulous_ballot/meticulousballot/AbsorbingChain", name := "leave", desc := "(IDD)V" } : Jvm.MethodName)) a0 Z = true := hw _ (List.mem_of_getElem? (i := 32) rfl)
theorem own_W33 {a0 : Array Value} {Z : State} (hw : ∀ d ∈ tables_1, d.before a0 Z = true) : Jvm.Cond.before (Jvm.Cond.selects "com/example/meticulous_ballot/meticulousballot/AbsorbingChain" ({ cls := "com/example/meticulous_ballot/meticulousballot/AbsorbingChain", name := "leave", desc := "(IDD)V" } : Jvm.MethodName) ({ cls := "com/example/meticulous_ballot/meticulousballot/AbsorbingChain", name := "leave", desc := "(IDD)V" } : Jvm.MethodName)) a0 Z = true := hw _ (List.mem_of_getElem? (i := 33) rfl)
theorem own_W34 {a0 : Array Value} {Z : State} (hw : ∀ d ∈ tables_1, d.before a0 Z = true) : Jvm.Cond.before (Jvm.Cond.code ({ cls := "com/example/meticulous_ballot/meticulousballot/AbsorbingChain", name := "leave", desc := "(IDD)V" } : Jvm.MethodName) prog_1_method_2_code (6 : Nat) (Option.none : Option Jvm.ClassFile.FieldType)) a0 Z = true := hw _ (List.mem_of_getElem? (i := 34) rfl)
theorem own_W35 {a0 : Array Value} {Z : State} (hw : ∀ d ∈ tables_1, d.before a0 Z = true) : Jvm.Cond.before (Jvm.Cond.constantDouble "com/example/meticulous_ballot/meticulousballot/AbsorbingChainLeavePinLaw" (18 : Nat) (4611686018427387904 : UInt64)) a0 Z = true := hw _ (List.mem_of_getElem? (i := 35) rfl)
theorem own_W36 {a0 : Array Value} {Z : State} (hw : ∀ d ∈ tables_1, d.before a0 Z = true) : Jvm.Cond.before (Jvm.Cond.constantDouble "com/example/meticulous_ballot/meticulousballot/AbsorbingChainLeavePinLaw" (20 : Nat) (4626322717216342016 : UInt64)) a0 Z = true := hw _ (List.mem_of_getElem? (i := 36) rfl)
theorem own_W37 {a0 : Array Value} {Z : State} (hw : ∀ d ∈ tables_1, d.before a0 Z = true) : Jvm.Cond.before (Jvm.Cond.constantDouble "com/example/meticulous_ballot/meticulousballot/AbsorbingChainLeavePinLaw" (22 : Nat) (4616189618054758400 : UInt64)) a0 Z = true := hw _ (List.mem_of_getElem? (i := 37) rfl)
theorem own_W38 {a0 : Array Value} {Z : State} (hw : ∀ d ∈ tables_1, d.before a0 Z = true) : Jvm.Cond.before (Jvm.Cond.constantDouble "com/example/meticulous_ballot/meticulousballot/AbsorbingChainLeavePinLaw" (24 : Nat) (4630826316843712512 : UInt64)) a0 Z = true := hw _ (List.mem_of_getElem? (i := 38) rfl)
theorem own_W39 {a0 : Array Value} {Z : State} (hw : ∀ d ∈ tables_1, d.before a0 Z = true) : Jvm.Cond.before (Jvm.Cond.constant "com/example/meticulous_ballot/meticulousballot/AbsorbingChainLeavePinLaw" (26 : Nat) (2147483647 : Int32)) a0 Z = true := hw _ (List.mem_of_getElem? (i := 39) rfl)
theorem own_W40 {a0 : Array Value} {Z : State} (hw : ∀ d ∈ tables_1, d.before a0 Z = true) : Jvm.Cond.before (Jvm.Cond.constant "com/example/meticulous_ballot/meticulousballot/AbsorbingChainLeavePinLaw" (27 : Nat) (1048575 : Int32)) a0 Z = true := hw _ (List.mem_of_getElem? (i := 40) rfl)
theorem own_W41 {a0 : Array Value} {Z : State} (hw : ∀ d ∈ tables_1, d.before a0 Z = true) : Jvm.Cond.before (Jvm.Cond.constant "com/example/meticulous_ballot/meticulousballot/AbsorbingChainLeavePinLaw" (28 : Nat) (1073741823 : Int32)) a0 Z = true := hw _ (List.mem_of_getElem? (i := 41) rfl)
theorem own_W42 {a0 : Array Value} {Z : State} (hw : ∀ d ∈ tables_1, d.before a0 Z = true) : Jvm.Cond.before (Jvm.Cond.methodLink "com/example/meticulous_ballot/meticulousballot/AbsorbingChainLeavePinLaw" (29 : Nat) ({ cls := "com/example/meticulous_ballot/meticulousballot/AbsorbingChain", name := "solve", desc := "()[D" } : Jvm.MethodName)) a0 Z = true := hw _ (List.mem_of_getElem? (i := 42) rfl)
theorem own_W43 {a0 : Array Value} {Z : State} (hw : ∀ d ∈ tables_1, d.before a0 Z = true) : Jvm.Cond.before (Jvm.Cond.declares ({ cls := "com/example/meticulous_ballot/meticulousballot/AbsorbingChain", name := "solve", desc := "()[D" } : Jvm.MethodName)) a0 Z = true := hw _ (List.mem_of_getElem? (i := 43) rfl)
theorem own_W44 {a0 : Array Value} {Z : State} (hw : ∀ d ∈ tables_1, d.before a0 Z = true) : Jvm.Cond.before (Jvm.Cond.instanceMethod ({ cls := "com/example/meticulous_ballot/meticulousballot/AbsorbingChain", name := "solve", desc := "()[D" } : Jvm.MethodName)) a0 Z = true := hw _ (List.mem_of_getElem? (i := 44) rfl)
theorem own_W45 {a0 : Array Value} {Z : State} (hw : ∀ d ∈ tables_1, d.before a0 Z = true) : Jvm.Cond.before (Jvm.Cond.selects "com/example/meticulous_ballot/meticulousballot/AbsorbingChain" ({ cls := "com/example/meticulous_ballot/meticulousballot/AbsorbingChain", name := "solve", desc := "()[D" } : Jvm.MethodName) ({ cls := "com/example/meticulous_ballot/meticulousballot/AbsorbingChain", name := "solve", desc := "()[D" } : Jvm.MethodName)) a0 Z = true := hw _ (List.mem_of_getElem? (i := 45) rfl)
theorem own_W46 {a0 : Array Value} {Z : State} (hw : ∀ d ∈ tables_1, d.before a0 Z = true) : Jvm.Cond.before (Jvm.Cond.code ({ cls := "com/example/meticulous_ballot/meticulousballot/AbsorbingChain", name := "solve", desc := "()[D" } : Jvm.MethodName) prog_1_method_4_code (8 : Nat) (Option.some (Jvm.ClassFile.FieldType.array Jvm.ClassFile.FieldType.double))) a0 Z = true := hw _ (List.mem_of_getElem? (i := 46) rfl)
theorem own_W47 {a0 : Array Value} {Z : State} (hw : ∀ d ∈ tables_1, d.before a0 Z = true) : Jvm.Cond.before (Jvm.Cond.methodLink "com/example/meticulous_ballot/meticulousballot/AbsorbingChain" (40 : Nat) ({ cls := "java/util/Arrays", name := "fill", desc := "([II)V" } : Jvm.MethodName)) a0 Z = true := hw _ (List.mem_of_getElem? (i := 47) rfl)
theorem own_W48 {a0 : Array Value} {Z : State} (hw : ∀ d ∈ tables_1, d.before a0 Z = true) : Jvm.Cond.before (Jvm.Cond.static ({ cls := "java/util/Arrays", name := "fill", desc := "([II)V" } : Jvm.MethodName)) a0 Z = true := hw _ (List.mem_of_getElem? (i := 48) rfl)
theorem own_W49 {a0 : Array Value} {Z : State} (hw : ∀ d ∈ tables_1, d.before a0 Z = true) : Jvm.Cond.before (Jvm.Cond.initialized "java/util/Arrays") a0 Z = true := hw _ (List.mem_of_getElem? (i := 49) rfl)
theorem own_W50 {a0 : Array Value} {Z : State} (hw : ∀ d ∈ tables_1, d.before a0 Z = true) : Jvm.Cond.before (Jvm.Cond.code ({ cls := "java/util/Arrays", name := "fill", desc := "([II)V" } : Jvm.MethodName) jdk_65_method_103_code (4 : Nat) (Option.none : Option Jvm.ClassFile.FieldType)) a0 Z = true := hw _ (List.mem_of_getElem? (i := 50) rfl)
theorem own_W51 {a0 : Array Value} {Z : State} (hw : ∀ d ∈ tables_1, d.before a0 Z = true) : Jvm.Cond.before (Jvm.Cond.classLink "com/example/meticulous_ballot/meticulousballot/AbsorbingChain" (46 : Nat) "com/example/meticulous_ballot/meticulousballot/CompensatedSum") a0 Z = true := hw _ (List.mem_of_getElem? (i := 51) rfl)
theorem own_W52 {a0 : Array Value} {Z : State} (hw : ∀ d ∈ tables_1, d.before a0 Z = true) : Jvm.Cond.before (Jvm.Cond.instantiable "com/example/meticulous_ballot/meticulousballot/CompensatedSum" (2 : Nat)) a0 Z = true := hw _ (List.mem_of_getElem? (i := 52) rfl)
theorem own_W53 {a0 : Array Value} {Z : State} (hw : ∀ d ∈ tables_1, d.before a0 Z = true) : Jvm.Cond.before (Jvm.Cond.initialized "com/example/meticulous_ballot/meticulousballot/CompensatedSum") a0 Z = true := hw _ (List.mem_of_getElem? (i := 53) rfl)
theorem own_W54 {a0 : Array Value} {Z : State} (hw : ∀ d ∈ tables_1, d.before a0 Z = true) : Jvm.Cond.before (Jvm.Cond.methodLink "com/example/meticulous_ballot/meticulousballot/AbsorbingChain" (48 : Nat) ({ cls := "com/example/meticulous_ballot/meticulousballot/CompensatedSum", name := "<init>", desc := "()V" } : Jvm.MethodName)) a0 Z = true := hw _ (List.mem_of_getElem? (i := 54) rfl)
theorem own_W55 {a0 : Array Value} {Z : State} (hw : ∀ d ∈ tables_1, d.before a0 Z = true) : Jvm.Cond.before (Jvm.Cond.instanceMethod ({ cls := "com/example/meticulous_ballot/meticulousballot/CompensatedSum", name := "<init>", desc := "()V" } : Jvm.MethodName)) a0 Z = true := hw _ (List.mem_of_getElem? (i := 55) rfl)
theorem own_W56 {a0 : Array Value} {Z : State} (hw : ∀ d ∈ tables_1, d.before a0 Z = true) : Jvm.Cond.before (Jvm.Cond.code ({ cls := "com/example/meticulous_ballot/meticulousballot/CompensatedSum", name := "<init>", desc := "()V" } : Jvm.MethodName) prog_12_method_1_code (1 : Nat) (Option.none : Option Jvm.ClassFile.FieldType)) a0 Z = true := hw _ (List.mem_of_getElem? (i := 56) rfl)
theorem own_W57 {a0 : Array Value} {Z : State} (hw : ∀ d ∈ tables_1, d.before a0 Z = true) : Jvm.Cond.before (Jvm.Cond.methodLink "com/example/meticulous_ballot/meticulousballot/CompensatedSum" (1 : Nat) ({ cls := "java/lang/Object", name := "<init>", desc := "()V" } : Jvm.MethodName)) a0 Z = true := hw _ (List.mem_of_getElem? (i := 57) rfl)
theorem own_W58 {a0 : Array Value} {Z : State} (hw : ∀ d ∈ tables_1, d.before a0 Z = true) : Jvm.Cond.before (Jvm.Cond.methodLink "com/example/meticulous_ballot/meticulousballot/AbsorbingChain" (49 : Nat) ({ cls := "com/example/meticulous_ballot/meticulousballot/CompensatedSum", name := "add", desc := "(D)V" } : Jvm.MethodName)) a0 Z = true := hw _ (List.mem_of_getElem? (i := 58) rfl)
theorem own_W59 {a0 : Array Value} {Z : State} (hw : ∀ d ∈ tables_1, d.before a0 Z = true) : Jvm.Cond.before (Jvm.Cond.declares ({ cls := "com/example/meticulous_ballot/meticulousballot/CompensatedSum", name := "add", desc := "(D)V" } : Jvm.MethodName)) a0 Z = true := hw _ (List.mem_of_getElem? (i := 59) rfl)
theorem own_W60 {a0 : Array Value} {Z : State} (hw : ∀ d ∈ tables_1, d.before a0 Z = true) : Jvm.Cond.before (Jvm.Cond.instanceMethod ({ cls := "com/example/meticulous_ballot/meticulousballot/CompensatedSum", name := "add", desc := "(D)V" } : Jvm.MethodName)) a0 Z = true := hw _ (List.mem_of_getElem? (i := 60) rfl)
theorem own_W61 {a0 : Array Value} {Z : State} (hw : ∀ d ∈ tables_1, d.before a0 Z = true) : Jvm.Cond.before (Jvm.Cond.selects "com/example/meticulous_ballot/meticulousballot/CompensatedSum" ({ cls := "com/example/meticulous_ballot/meticulousballot/CompensatedSum", name := "add", desc := "(D)V" } : Jvm.MethodName) ({ cls := "com/example/meticulous_ballot/meticulousballot/CompensatedSum", name := "add", desc := "(D)V" } : Jvm.MethodName)) a0 Z = true := hw _ (List.mem_of_getElem? (i := 61) rfl)
theorem own_W62 {a0 : Array Value} {Z : State} (hw : ∀ d ∈ tables_1, d.before a0 Z = true) : Jvm.Cond.before (Jvm.Cond.code ({ cls := "com/example/meticulous_ballot/meticulousballot/CompensatedSum", name := "add", desc := "(D)V" } : Jvm.MethodName) prog_12_method_2_code (7 : Nat) (Option.none : Option Jvm.ClassFile.FieldType)) a0 Z = true := hw _ (List.mem_of_getElem? (i := 62) rfl)
theorem own_W63 {a0 : Array Value} {Z : State} (hw : ∀ d ∈ tables_1, d.before a0 Z = true) : Jvm.Cond.before (Jvm.Cond.fieldLink "com/example/meticulous_ballot/meticulousballot/CompensatedSum" (7 : Nat) "com/example/meticulous_ballot/meticulousballot/CompensatedSum" "excess" "D") a0 Z = true := hw _ (List.mem_of_getElem? (i := 63) rfl)
theorem own_W64 {a0 : Array Value} {Z : State} (hw : ∀ d ∈ tables_1, d.before a0 Z = true) : Jvm.Cond.before (Jvm.Cond.lays "com/example/meticulous_ballot/meticulousballot/CompensatedSum" "com/example/meticulous_ballot/meticulousballot/CompensatedSum" "excess" "D") a0 Z = true := hw _ (List.mem_of_getElem? (i := 64) rfl)
theorem own_W65 {a0 : Array Value} {Z : State} (hw : ∀ d ∈ tables_1, d.before a0 Z = true) : Jvm.Cond.before (Jvm.Cond.fieldLink "com/example/meticulous_ballot/meticulousballot/CompensatedSum" (13 : Nat) "com/example/meticulous_ballot/meticulousballot/CompensatedSum" "sum" "D") a0 Z = true := hw _ (List.mem_of_getElem? (i := 65) rfl)
theorem own_W66 {a0 : Array Value} {Z : State} (hw : ∀ d ∈ tables_1, d.before a0 Z = true) : Jvm.Cond.before (Jvm.Cond.lays "com/example/meticulous_ballot/meticulousballot/CompensatedSum" "com/example/meticulous_ballot/meticulousballot/CompensatedSum" "sum" "D") a0 Z = true := hw _ (List.mem_of_getElem? (i := 66) rfl)
theorem own_W67 {a0 : Array Value} {Z : State} (hw : ∀ d ∈ tables_1, d.before a0 Z = true) : Jvm.Cond.before (Jvm.Cond.methodLink "com/example/meticulous_ballot/meticulousballot/AbsorbingChain" (53 : Nat) ({ cls := "com/example/meticulous_ballot/meticulousballot/CompensatedSum", name := "value", desc := "()D" } : Jvm.MethodName)) a0 Z = true := hw _ (List.mem_of_getElem? (i := 67) rfl)
theorem own_W68 {a0 : Array Value} {Z : State} (hw : ∀ d ∈ tables_1, d.before a0 Z = true) : Jvm.Cond.before (Jvm.Cond.declares ({ cls := "com/example/meticulous_ballot/meticulousballot/CompensatedSum", name := "value", desc := "()D" } : Jvm.MethodName)) a0 Z = true := hw _ (List.mem_of_getElem? (i := 68) rfl)
theorem own_W69 {a0 : Array Value} {Z : State} (hw : ∀ d ∈ tables_1, d.before a0 Z = true) : Jvm.Cond.before (Jvm.Cond.instanceMethod ({ cls := "com/example/meticulous_ballot/meticulousballot/CompensatedSum", name := "value", desc := "()D" } : Jvm.MethodName)) a0 Z = true := hw _ (List.mem_of_getElem? (i := 69) rfl)
theorem own_W70 {a0 : Array Value} {Z : State} (hw : ∀ d ∈ tables_1, d.before a0 Z = true) : Jvm.Cond.before (Jvm.Cond.selects "com/example/meticulous_ballot/meticulousballot/CompensatedSum" ({ cls := "com/example/meticulous_ballot/meticulousballot/CompensatedSum", name := "value", desc := "()D" } : Jvm.MethodName) ({ cls := "com/example/meticulous_ballot/meticulousballot/CompensatedSum", name := "value", desc := "()D" } : Jvm.MethodName)) a0 Z = true := hw _ (List.mem_of_getElem? (i := 70) rfl)
theorem own_W71 {a0 : Array Value} {Z : State} (hw : ∀ d ∈ tables_1, d.before a0 Z = true) : Jvm.Cond.before (Jvm.Cond.code ({ cls := "com/example/meticulous_ballot/meticulousballot/CompensatedSum", name := "value", desc := "()D" } : Jvm.MethodName) prog_12_method_3_code (1 : Nat) (Option.some Jvm.ClassFile.FieldType.double)) a0 Z = true := hw _ (List.mem_of_getElem? (i := 71) rfl)
def QV (z : Value) (h0 : Heap) (n0 : Nat) (v : Option Value) (h : Heap) (L : List Loc) : Prop := v = some z ∧ Fr n0 L ∧ h = h0
def QU (h0 : Heap) (n0 : Nat) (v : Option Value) (h : Heap) (L : List Loc) : Prop := v = none ∧ Fr n0 L ∧ h = h0
theorem d6_0 : decode prog_12_method_1_code 0 = .ok (.aload_n 0, 1) := by decide +kernel
theorem d6_1 : decode prog_12_method_1_code 1 = .ok (.invokespecial 1, 3) := by decide +kernel
theorem d6_4 : decode prog_12_method_1_code 4 = .ok (.return_, 1) := by decide +kernel
theorem own_pn_com_example_meticulous_ballot_meticulousballot_CompensatedSum : plainName "com/example/meticulous_ballot/meticulousballot/CompensatedSum" = true := by first | (simp [plainName, overriddenIn]; done) | decide +kernel
theorem own_ef6 (m : MethodId) (x0 : Addr) : entryFrame m #[(.ref x0)] 1 = mkF m 0 #[.val (.ref x0)] [] := by first | (simp [entryFrame, mkF, argsToLocals, Value.category]; done) | rfl
set_option maxRecDepth 65536 in
set_option maxHeartbeats 40000000 in
theorem rmSI (l : Launch) (Z : State) (a0 : Array Value) (hw : ∀ d ∈ tables_1, d.before a0 Z = true) (ws : List Jvm.Cond) (a : Addr)  (h0 : Heap) (n0 : Nat) (Z0 : n0 ≤ h0.size)  :
    MetFree l (⟨"com/example/meticulous_ballot/meticulousballot/CompensatedSum", "<init>", "()V"⟩ : MethodName) (head1 (Jvm.Cond.code (⟨"com/example/meticulous_ballot/meticulousballot/CompensatedSum", "<init>", "()V"⟩ : MethodName) prog_12_method_1_code 1 none :: ws) ({ frames := 1, cells := 0, slots := 0, locals := 12 } : Room)) (fun α U => α = #[(.ref a)] ∧ Z.Warmed39 U.vm ∧ U.heap = h0) (fun _ _ _ _ _ => True) (fun _ U ω U' => ∃ ν Λ, ω = .returned ν ∧ QU h0 n0 ν U'.heap Λ ∧ FrameEnd U ω U' Λ ({ frames := 1, cells := 0, slots := 0, locals := 12 } : Room).cells ({ frames := 1, cells := 0, slots := 0, locals := 12 } : Room).slots) := by
  refine MetFree.of_bodySF (plainFor_of_name own_pn_com_example_meticulous_ballot_meticulousballot_CompensatedSum) hisR ?_
  intro p e s m args below meth c s₁ Bd hml0 hP hK
  obtain ⟨rfl, hZ, hh⟩ := hP
  have hx := Bd.exec
  have hby := Bd.bytes
  have hml : c.maxLocals = 1 := hml0
  have hown : s.vm.findClass "com/example/meticulous_ballot/meticulousballot/CompensatedSum" = some m.cls := findClass_of_methodNamed Bd.named
  have hnm := (name_of_methodNamed Bd.named Bd.method).1
  have X0 : Stand p l e ({ frames := 1, cells := 0, slots := 0, locals := 12 } : Room) s m #[(.ref a)] below meth c s₁ [] 0 0 := Stand.of_body Bd
  have e0 : s₁.heap = h0 := by rw [← hh, Bd.state]; rfl
  have N0 := Fr.nil n0
  have KK0 : Keep h0 h0 [] := Keep.refl h0 []
  obtain ⟨PS, hPS⟩ : ∃ P : State → Prop, P = fun τ => Steps p.tables e below (s₁.setTop (entryFrame m #[(.ref a)] 1)) τ := ⟨_, rfl⟩
  have pre0 : ∀ τ, Steps p.tables e below (s₁.setTop (mkF m 0 #[.val (.ref a)] [])) τ → PS τ := by rw [hPS]; exact fun τ κ => castTop (own_ef6 m a) κ
  obtain ⟨T1, X1, e1, st1⟩ := initO X0 hx hZ hown (own_W57 hw) (own_W7 hw) (own_W8 hw) e0 (g := (mkF m 1 #[.val (.ref a)] [(.ref a)])) rfl (by rw [hml]; rfl) rfl (Jvm.hb hby d6_1) (by decide) (W := 0) (by show 2 * 0 + _ ≤ _; exact Nat.le_of_eq rfl) (by decide)
  have pre2 := fun (τ : State) kt => pre0 τ (by
    show Steps p.tables e below (s₁.setTop (mkF m 0 #[.val (.ref a)] [])) τ
    refine XS.aloadN X0.here hx rfl (Jvm.hb hby d6_0) rfl rfl ?_
    exact st1 τ kt)
  obtain ⟨fs, hrL, hrun, hended, hW, hsame⟩ := X1.leave (v := none) (fun _ => rfl)
  refine ⟨_, _, cast (congrFun hPS _) (pre2 _ ?_), hrun, hended, _, _, rfl, ?_, ⟨_, rfl⟩, hW, hsame.mono (by decide) (by decide)⟩
  · show Steps p.tables e below (T1.setTop (mkF m 4 #[.val (.ref a)] [])) _
    exact X1.returnOut hx Bd.returns (Jvm.hb hby d6_4) hrL
  · show QU h0 n0 _ T1.heap _
    rw [e1]
    exact ⟨rfl, N0, rfl⟩
def QA (Z : State) (a : Addr) (n : UInt64) (h0 : Heap) (n0 : Nat) (v : Option Value) (h : Heap) (L : List Loc) : Prop := v = none ∧ Fr n0 L ∧ Keep h0 h [a] ∧ Fld Z h a "com/example/meticulous_ballot/meticulousballot/CompensatedSum" "sum" "D" (.double n)
theorem d7_0 : decode prog_12_method_2_code 0 = .ok (.dload_n 1, 1) := by decide +kernel
theorem d7_1 : decode prog_12_method_2_code 1 = .ok (.aload_n 0, 1) := by decide +kernel
theorem d7_2 : decode prog_12_method_2_code 2 = .ok (.getfield 7, 3) := by decide +kernel
theorem d7_5 : decode prog_12_method_2_code 5 = .ok (.dsub, 1) := by decide +kernel
theorem d7_6 : decode prog_12_method_2_code 6 = .ok (.dstore_n 3, 1) := by decide +kernel
theorem d7_7 : decode prog_12_method_2_code 7 = .ok (.aload_n 0, 1) := by decide +kernel
theorem d7_8 : decode prog_12_method_2_code 8 = .ok (.getfield 13, 3) := by decide +kernel
theorem d7_11 : decode prog_12_method_2_code 11 = .ok (.dload_n 3, 1) := by decide +kernel
theorem d7_12 : decode prog_12_method_2_code 12 = .ok (.dadd, 1) := by decide +kernel
theorem d7_13 : decode prog_12_method_2_code 13 = .ok (.dstore 5, 2) := by decide +kernel
theorem d7_15 : decode prog_12_method_2_code 15 = .ok (.aload_n 0, 1) := by decide +kernel
theorem d7_16 : decode prog_12_method_2_code 16 = .ok (.dload 5, 2) := by decide +kernel
theorem d7_18 : decode prog_12_method_2_code 18 = .ok (.aload_n 0, 1) := by decide +kernel
theorem d7_19 : decode prog_12_method_2_code 19 = .ok (.getfield 13, 3) := by decide +kernel
theorem d7_22 : decode prog_12_method_2_code 22 = .ok (.dsub, 1) := by decide +kernel
theorem d7_23 : decode prog_12_method_2_code 23 = .ok (.dload_n 3, 1) := by decide +kernel
theorem d7_24 : decode prog_12_method_2_code 24 = .ok (.dsub, 1) := by decide +kernel
theorem d7_25 : decode prog_12_method_2_code 25 = .ok (.putfield 7, 3) := by decide +kernel
theorem d7_28 : decode prog_12_method_2_code 28 = .ok (.aload_n 0, 1) := by decide +kernel
theorem d7_29 : decode prog_12_method_2_code 29 = .ok (.dload 5, 2) := by decide +kernel
theorem d7_31 : decode prog_12_method_2_code 31 = .ok (.putfield 13, 3) := by decide +kernel
theorem d7_34 : decode prog_12_method_2_code 34 = .ok (.return_, 1) := by decide +kernel
theorem own_ef7 (m : MethodId) (x0 : Addr) (x1 : UInt64) : entryFrame m #[(.ref x0), (.double x1)] 7 = mkF m 0 #[.val (.ref x0), .val (.double x1), .second, .unset, .unset, .unset, .unset] [] := by first | (simp [entryFrame, mkF, argsToLocals, Value.category]; done) | rfl
set_option maxRecDepth 65536 in
set_option maxHeartbeats 40000000 in
theorem rmSA (l : Launch) (Z : State) (a0 : Array Value) (hw : ∀ d ∈ tables_1, d.before a0 Z = true) (ws : List Jvm.Cond) (a : Addr) (t : UInt64)  (h0 : Heap) (n0 : Nat) (Z0 : n0 ≤ h0.size) (E7 : Exa Z h0 a "com/example/meticulous_ballot/meticulousballot/CompensatedSum") (F1 : Fld Z h0 a "com/example/meticulous_ballot/meticulousballot/CompensatedSum" "sum" "D" (.double 0)) (F2 : Fld Z h0 a "com/example/meticulous_ballot/meticulousballot/CompensatedSum" "excess" "D" (.double 0)) (ga : n0 ≤ a) (ht : own_fine t) :
    MetFree l (⟨"com/example/meticulous_ballot/meticulousballot/CompensatedSum", "add", "(D)V"⟩ : MethodName) (head1 (Jvm.Cond.code (⟨"com/example/meticulous_ballot/meticulousballot/CompensatedSum", "add", "(D)V"⟩ : MethodName) prog_12_method_2_code 7 none :: ws) ({ frames := 0, cells := 0, slots := 0, locals := 0 } : Room)) (fun α U => α = #[(.ref a), (.double t)] ∧ Z.Warmed39 U.vm ∧ U.heap = h0) (fun _ _ _ _ _ => True) (fun _ U ω U' => ∃ ν Λ, ω = .returned ν ∧ QA Z a t h0 n0 ν U'.heap Λ ∧ FrameEnd U ω U' Λ ({ frames := 0, cells := 0, slots := 0, locals := 0 } : Room).cells ({ frames := 0, cells := 0, slots := 0, locals := 0 } : Room).slots) := by
  refine MetFree.of_bodySF (plainFor_of_name own_pn_com_example_meticulous_ballot_meticulousballot_CompensatedSum) hisR ?_
  intro p e s m args below meth c s₁ Bd hml0 hP hK
  obtain ⟨rfl, hZ, hh⟩ := hP
  have hx := Bd.exec
  have hby := Bd.bytes
  have hml : c.maxLocals = 7 := hml0
  have hown : s.vm.findClass "com/example/meticulous_ballot/meticulousballot/CompensatedSum" = some m.cls := findClass_of_methodNamed Bd.named
  have hnm := (name_of_methodNamed Bd.named Bd.method).1
  have X0 : Stand p l e ({ frames := 0, cells := 0, slots := 0, locals := 0 } : Room) s m #[(.ref a), (.double t)] below meth c s₁ [] 0 0 := Stand.of_body Bd
  have e0 : s₁.heap = h0 := by rw [← hh, Bd.state]; rfl
  have N0 := Fr.nil n0
  have KK0 : Keep h0 h0 [a] := Keep.refl h0 [a]
  obtain ⟨PS, hPS⟩ : ∃ P : State → Prop, P = fun τ => Steps p.tables e below (s₁.setTop (entryFrame m #[(.ref a), (.double t)] 7)) τ := ⟨_, rfl⟩
  have pre0 : ∀ τ, Steps p.tables e below (s₁.setTop (mkF m 0 #[.val (.ref a), .val (.double t), .second, .unset, .unset, .unset, .unset] [])) τ → PS τ := by rw [hPS]; exact fun τ κ => castTop (own_ef7 m a t) κ
  have t1 := own_sub0 ht
  have t2 := own_add0 ht
  have t3 := own_self0 ht
  have tn := own_fine_no ht
  obtain ⟨T3, X3, e3, st3⟩ := getF X0 hx hZ hown (host := "") (Or.inl (own_W63 hw)) Via.refl e0 F2 (g := (mkF m 2 #[.val (.ref a), .val (.double t), .second, .unset, .unset, .unset, .unset] [(.ref a), (.double t)])) rfl rfl (Jvm.hb hby d7_2)
  have pre4 := fun (τ : State) kt => pre0 τ (by
    show Steps p.tables e below (s₁.setTop (mkF m 0 #[.val (.ref a), .val (.double t), .second, .unset, .unset, .unset, .unset] [])) τ
    refine own_dloadN X0.here hx rfl (Jvm.hb hby d7_0) rfl ?_
    refine XS.aloadN X0.here hx rfl (Jvm.hb hby d7_1) rfl rfl ?_
    exact st3 τ kt)
  obtain ⟨T5, X5, e5, st5⟩ := getF X3 hx hZ hown (host := "") (Or.inl (own_W65 hw)) Via.refl e3 F1 (g := (mkF m 8 #[.val (.ref a), .val (.double t), .second, .val (.double (FP.dsub t 0)), .second, .unset, .unset] [(.ref a)])) rfl rfl (Jvm.hb hby d7_8)
  have pre6 := fun (τ : State) kt => pre4 τ (by
    show Steps p.tables e below (T3.setTop (mkF m 5 #[.val (.ref a), .val (.double t), .second, .unset, .unset, .unset, .unset] [(.double 0), (.double t)])) τ
    refine own_dsub X3.here hx rfl (Jvm.hb hby d7_5) rfl (by rw [t1]; exact tn) ?_
    refine own_dstoreN X3.here hx rfl (Jvm.hb hby d7_6) rfl (l' := #[.val (.ref a), .val (.double t), .second, .val (.double (FP.dsub t 0)), .second, .unset, .unset]) rfl ?_
    refine XS.aloadN X3.here hx rfl (Jvm.hb hby d7_7) rfl rfl ?_
    exact st5 τ kt)
  obtain ⟨T7, X7, e7, st7⟩ := getF X5 hx hZ hown (host := "") (Or.inl (own_W65 hw)) Via.refl e5 F1 (g := (mkF m 19 #[.val (.ref a), .val (.double t), .second, .val (.double (FP.dsub t 0)), .second, .val (.double (FP.dadd 0 (FP.dsub t 0))), .second] [(.ref a), (.double (FP.dadd 0 (FP.dsub t 0))), (.ref a)])) rfl rfl (Jvm.hb hby d7_19)
  have pre8 := fun (τ : State) kt => pre6 τ (by
    show Steps p.tables e below (T5.setTop (mkF m 11 #[.val (.ref a), .val (.double t), .second, .val (.double (FP.dsub t 0)), .second, .unset, .unset] [(.double 0)])) τ
    refine own_dloadN X5.here hx rfl (Jvm.hb hby d7_11) rfl ?_
    refine own_dadd X5.here hx rfl (Jvm.hb hby d7_12) rfl (by rw [t1, t2]; exact tn) ?_
    refine own_dstore X5.here hx rfl (Jvm.hb hby d7_13) rfl (l' := #[.val (.ref a), .val (.double t), .second, .val (.double (FP.dsub t 0)), .second, .val (.double (FP.dadd 0 (FP.dsub t 0))), .second]) rfl ?_
    refine XS.aloadN X5.here hx rfl (Jvm.hb hby d7_15) rfl rfl ?_
    refine own_dload X5.here hx rfl (Jvm.hb hby d7_16) rfl ?_
    refine XS.aloadN X5.here hx rfl (Jvm.hb hby d7_18) rfl rfl ?_
    exact st7 τ kt)
  obtain ⟨T9, h9, X9, e9, W9, st9⟩ := putF X7 hx hZ hown (host := "") (Or.inl (own_W63 hw)) Via.refl e7 F2 E7 (Or.inl (own_W64 hw)) (own_W52 hw) (ty := .double) (by decide) rfl rfl (g := (mkF m 25 #[.val (.ref a), .val (.double t), .second, .val (.double (FP.dsub t 0)), .second, .val (.double (FP.dadd 0 (FP.dsub t 0))), .second] [(.double (FP.dsub (FP.dsub (FP.dadd 0 (FP.dsub t 0)) 0) (FP.dsub t 0))), (.ref a)])) rfl rfl (Jvm.hb hby d7_25)
  have fw9 := Fld.same W9 F2
  have N9 := Fr.snoc X9 N0 ga
  have K9 : Keep h0 h9 [a] := KK0.wr W9 (Or.inl (by simp))
  have pre10 := fun (τ : State) kt => pre8 τ (by
    show Steps p.tables e below (T7.setTop (mkF m 22 #[.val (.ref a), .val (.double t), .second, .val (.double (FP.dsub t 0)), .second, .val (.double (FP.dadd 0 (FP.dsub t 0))), .second] [(.double 0), (.double (FP.dadd 0 (FP.dsub t 0))), (.ref a)])) τ
    refine own_dsub X7.here hx rfl (Jvm.hb hby d7_22) rfl (by rw [t1, t2, t1]; exact tn) ?_
    refine own_dloadN X7.here hx rfl (Jvm.hb hby d7_23) rfl ?_
    refine own_dsub X7.here hx rfl (Jvm.hb hby d7_24) rfl (by rw [t1, t2, t1, t3]; decide +kernel) ?_
    exact st9 τ kt)
  have f12 := (F1.other W9 (Or.inr (slot_ne (Or.inl (own_W66 hw)) (Or.inl (own_W64 hw)) (by decide) (t := .double) (t' := .double) (by decide) (by decide))))
  have f13 := E7.wr W9
  obtain ⟨T11, h11, X11, e11, W11, st11⟩ := putF X9 hx hZ hown (host := "") (Or.inl (own_W65 hw)) Via.refl e9 f12 f13 (Or.inl (own_W66 hw)) (own_W52 hw) (ty := .double) (by decide) rfl rfl (g := (mkF m 31 #[.val (.ref a), .val (.double t), .second, .val (.double (FP.dsub t 0)), .second, .val (.double (FP.dadd 0 (FP.dsub t 0))), .second] [(.double (FP.dadd 0 (FP.dsub t 0))), (.ref a)])) rfl rfl (Jvm.hb hby d7_31)
  have fw11 := Fld.same W11 f12
  have N11 := Fr.snoc X11 N9 ga
  have K11 : Keep h0 h11 [a] := K9.wr W11 (Or.inl (by simp))
  have pre14 := fun (τ : State) kt => pre10 τ (by
    show Steps p.tables e below (T9.setTop (mkF m 28 #[.val (.ref a), .val (.double t), .second, .val (.double (FP.dsub t 0)), .second, .val (.double (FP.dadd 0 (FP.dsub t 0))), .second] [])) τ
    refine XS.aloadN X9.here hx rfl (Jvm.hb hby d7_28) rfl rfl ?_
    refine own_dload X9.here hx rfl (Jvm.hb hby d7_29) rfl ?_
    exact st11 τ kt)
  rw [t1, t2] at fw11
  obtain ⟨fs, hrL, hrun, hended, hW, hsame⟩ := X11.leave (v := none) (fun _ => rfl)
  refine ⟨_, _, cast (congrFun hPS _) (pre14 _ ?_), hrun, hended, _, _, rfl, ?_, ⟨_, rfl⟩, hW, hsame.mono (by decide) (by decide)⟩
  · show Steps p.tables e below (T11.setTop (mkF m 34 #[.val (.ref a), .val (.double t), .second, .val (.double (FP.dsub t 0)), .second, .val (.double (FP.dadd 0 (FP.dsub t 0))), .second] [])) _
    exact X11.returnOut hx Bd.returns (Jvm.hb hby d7_34) hrL
  · show QA Z a t h0 n0 _ T11.heap _
    rw [e11]
    exact ⟨rfl, N11, K11, fw11⟩
theorem d8_0 : decode prog_12_method_3_code 0 = .ok (.aload_n 0, 1) := by decide +kernel
theorem d8_1 : decode prog_12_method_3_code 1 = .ok (.getfield 13, 3) := by decide +kernel
theorem d8_4 : decode prog_12_method_3_code 4 = .ok (.dreturn, 1) := by decide +kernel
theorem own_ef8 (m : MethodId) (x0 : Addr) : entryFrame m #[(.ref x0)] 1 = mkF m 0 #[.val (.ref x0)] [] := by first | (simp [entryFrame, mkF, argsToLocals, Value.category]; done) | rfl
set_option maxRecDepth 65536 in
set_option maxHeartbeats 40000000 in
theorem rmSV (l : Launch) (Z : State) (a0 : Array Value) (hw : ∀ d ∈ tables_1, d.before a0 Z = true) (ws : List Jvm.Cond) (a : Addr) (s_ : UInt64) (h0 : Heap) (n0 : Nat) (Z0 : n0 ≤ h0.size) (F1 : Fld Z h0 a "com/example/meticulous_ballot/meticulousballot/CompensatedSum" "sum" "D" (.double s_)) :
    MetFree l (⟨"com/example/meticulous_ballot/meticulousballot/CompensatedSum", "value", "()D"⟩ : MethodName) (head1 (Jvm.Cond.code (⟨"com/example/meticulous_ballot/meticulousballot/CompensatedSum", "value", "()D"⟩ : MethodName) prog_12_method_3_code 1 (some .double) :: ws) ({ frames := 0, cells := 0, slots := 0, locals := 0 } : Room)) (fun α U => α = #[(.ref a)] ∧ Z.Warmed39 U.vm ∧ U.heap = h0) (fun _ _ _ _ _ => True) (fun _ U ω U' => ∃ ν Λ, ω = .returned ν ∧ QV (.double s_) h0 n0 ν U'.heap Λ ∧ FrameEnd U ω U' Λ ({ frames := 0, cells := 0, slots := 0, locals := 0 } : Room).cells ({ frames := 0, cells := 0, slots := 0, locals := 0 } : Room).slots) := by
  refine MetFree.of_bodySF (plainFor_of_name own_pn_com_example_meticulous_ballot_meticulousballot_CompensatedSum) hisR ?_
  intro p e s m args below meth c s₁ Bd hml0 hP hK
  obtain ⟨rfl, hZ, hh⟩ := hP
  have hx := Bd.exec
  have hby := Bd.bytes
  have hml : c.maxLocals = 1 := hml0
  have hown : s.vm.findClass "com/example/meticulous_ballot/meticulousballot/CompensatedSum" = some m.cls := findClass_of_methodNamed Bd.named
  have hnm := (name_of_methodNamed Bd.named Bd.method).1
  have X0 : Stand p l e ({ frames := 0, cells := 0, slots := 0, locals := 0 } : Room) s m #[(.ref a)] below meth c s₁ [] 0 0 := Stand.of_body Bd
  have e0 : s₁.heap = h0 := by rw [← hh, Bd.state]; rfl
  have N0 := Fr.nil n0
  have KK0 : Keep h0 h0 [] := Keep.refl h0 []
  obtain ⟨PS, hPS⟩ : ∃ P : State → Prop, P = fun τ => Steps p.tables e below (s₁.setTop (entryFrame m #[(.ref a)] 1)) τ := ⟨_, rfl⟩
  have pre0 : ∀ τ, Steps p.tables e below (s₁.setTop (mkF m 0 #[.val (.ref a)] [])) τ → PS τ := by rw [hPS]; exact fun τ κ => castTop (own_ef8 m a) κ
  obtain ⟨T15, X15, e15, st15⟩ := getF X0 hx hZ hown (host := "") (Or.inl (own_W65 hw)) Via.refl e0 F1 (g := (mkF m 1 #[.val (.ref a)] [(.ref a)])) rfl rfl (Jvm.hb hby d8_1)
  have pre16 := fun (τ : State) kt => pre0 τ (by
    show Steps p.tables e below (s₁.setTop (mkF m 0 #[.val (.ref a)] [])) τ
    refine XS.aloadN X0.here hx rfl (Jvm.hb hby d8_0) rfl rfl ?_
    exact st15 τ kt)
  obtain ⟨fs, hrL, hrun, hended, hW, hsame⟩ := X15.leave (v := some (.double s_)) (fun h => by rw [Bd.returns] at h; cases h)
  refine ⟨_, _, cast (congrFun hPS _) (pre16 _ ?_), hrun, hended, _, _, rfl, ?_, ⟨_, rfl⟩, hW, hsame.mono (by decide) (by decide)⟩
  · show Steps p.tables e below (T15.setTop (mkF m 4 #[.val (.ref a)] [(.double s_)])) _
    exact own_retD X15 hx Bd.returns (Jvm.hb hby d8_4) hrL
  · show QV (.double s_) h0 n0 _ T15.heap _
    rw [e15]
    exact ⟨rfl, N0, rfl⟩
def QF (Z : State) (a : Addr) (h0 : Heap) (n0 : Nat) (v : Option Value) (h : Heap) (L : List Loc) : Prop := v = none ∧ Fr n0 L ∧ Keep h0 h [a]
theorem d5_0 : decode jdk_65_method_103_code 0 = .ok (.iconst 0, 1) := by decide +kernel
theorem d5_1 : decode jdk_65_method_103_code 1 = .ok (.istore_n 2, 1) := by decide +kernel
theorem d5_2 : decode jdk_65_method_103_code 2 = .ok (.aload_n 0, 1) := by decide +kernel
theorem d5_3 : decode jdk_65_method_103_code 3 = .ok (.arraylength, 1) := by decide +kernel
theorem d5_4 : decode jdk_65_method_103_code 4 = .ok (.istore_n 3, 1) := by decide +kernel
theorem d5_5 : decode jdk_65_method_103_code 5 = .ok (.iload_n 2, 1) := by decide +kernel
theorem d5_6 : decode jdk_65_method_103_code 6 = .ok (.iload_n 3, 1) := by decide +kernel
theorem d5_7 : decode jdk_65_method_103_code 7 = .ok (.if_icmp .ge 13, 3) := by decide +kernel
theorem d5_10 : decode jdk_65_method_103_code 10 = .ok (.aload_n 0, 1) := by decide +kernel
theorem d5_11 : decode jdk_65_method_103_code 11 = .ok (.iload_n 2, 1) := by decide +kernel
theorem d5_12 : decode jdk_65_method_103_code 12 = .ok (.iload_n 1, 1) := by decide +kernel
theorem d5_13 : decode jdk_65_method_103_code 13 = .ok (.iastore, 1) := by decide +kernel
theorem d5_14 : decode jdk_65_method_103_code 14 = .ok (.iinc 2 1, 3) := by decide +kernel
theorem d5_17 : decode jdk_65_method_103_code 17 = .ok (.goto (-12), 3) := by decide +kernel
theorem d5_20 : decode jdk_65_method_103_code 20 = .ok (.return_, 1) := by decide +kernel
theorem own_pn_java_util_Arrays : plainName "java/util/Arrays" = true := by first | (simp [plainName, overriddenIn]; done) | decide +kernel
theorem own_ef5 (m : MethodId) (x0 : Addr) (x1 : Int32) : entryFrame m #[(.ref x0), (.int x1)] 4 = mkF m 0 #[.val (.ref x0), .val (.int x1), .unset, .unset] [] := by first | (simp [entryFrame, mkF, argsToLocals, Value.category]; done) | rfl
set_option maxRecDepth 65536 in
set_option maxHeartbeats 40000000 in
theorem rmF (l : Launch) (Z : State) (a0 : Array Value) (hw : ∀ d ∈ tables_1, d.before a0 Z = true) (ws : List Jvm.Cond) (a : Addr) (fv : Int32) (ka : ClassId) (h0 : Heap) (n0 : Nat) (Z0 : n0 ≤ h0.size) (V0 : Arv Z h0 a ka .int (3 : Int32) [(.int (0 : Int32)), (.int (0 : Int32)), (.int (0 : Int32))] (.int (0 : Int32))) (ga : n0 ≤ a) :
    MetFree l (⟨"java/util/Arrays", "fill", "([II)V"⟩ : MethodName) (head1 (Jvm.Cond.code (⟨"java/util/Arrays", "fill", "([II)V"⟩ : MethodName) jdk_65_method_103_code 4 none :: ws) ({ frames := 0, cells := 0, slots := 0, locals := 0 } : Room)) (fun α U => α = #[(.ref a), (.int fv)] ∧ Z.Warmed39 U.vm ∧ U.heap = h0) (fun _ _ _ _ _ => True) (fun _ U ω U' => ∃ ν Λ, ω = .returned ν ∧ QF Z a h0 n0 ν U'.heap Λ ∧ FrameEnd U ω U' Λ ({ frames := 0, cells := 0, slots := 0, locals := 0 } : Room).cells ({ frames := 0, cells := 0, slots := 0, locals := 0 } : Room).slots) := by
  refine MetFree.of_bodySF (plainFor_of_name own_pn_java_util_Arrays) hisR ?_
  intro p e s m args below meth c s₁ Bd hml0 hP hK
  obtain ⟨rfl, hZ, hh⟩ := hP
  have hx := Bd.exec
  have hby := Bd.bytes
  have hml : c.maxLocals = 4 := hml0
  have hown : s.vm.findClass "java/util/Arrays" = some m.cls := findClass_of_methodNamed Bd.named
  have hnm := (name_of_methodNamed Bd.named Bd.method).1
  have X0 : Stand p l e ({ frames := 0, cells := 0, slots := 0, locals := 0 } : Room) s m #[(.ref a), (.int fv)] below meth c s₁ [] 0 0 := Stand.of_body Bd
  have e0 : s₁.heap = h0 := by rw [← hh, Bd.state]; rfl
  have N0 := Fr.nil n0
  have KK0 : Keep h0 h0 [a] := Keep.refl h0 [a]
  obtain ⟨PS, hPS⟩ : ∃ P : State → Prop, P = fun τ => Steps p.tables e below (s₁.setTop (entryFrame m #[(.ref a), (.int fv)] 4)) τ := ⟨_, rfl⟩
  have pre0 : ∀ τ, Steps p.tables e below (s₁.setTop (mkF m 0 #[.val (.ref a), .val (.int fv), .unset, .unset] [])) τ → PS τ := by rw [hPS]; exact fun τ κ => castTop (own_ef5 m a fv) κ
  obtain ⟨cl17, Ar17, q17, S17, M17, H17, U17⟩ := id V0
  have pre18 := fun (τ : State) kt => pre0 τ (by
    show Steps p.tables e below (s₁.setTop (mkF m 0 #[.val (.ref a), .val (.int fv), .unset, .unset] [])) τ
    refine XS.iconst X0.here hx rfl (Jvm.hb hby d5_0) ?_
    refine XS.istoreN X0.here hx rfl (Jvm.hb hby d5_1) rfl (l' := #[.val (.ref a), .val (.int fv), .val (.int (0 : Int32)), .unset]) rfl ?_
    refine XS.aloadN X0.here hx rfl (Jvm.hb hby d5_2) rfl rfl ?_
    refine X0.arraylength hx ((congrArg (fun (HH : Heap) => HH[a]?) (e0 : s₁.heap = h0)).trans Ar17.1) (State.isArrayOf_alike hZ.alike Ar17.2.1) (g := (mkF m 3 #[.val (.ref a), .val (.int fv), .val (.int (0 : Int32)), .unset] [(.ref a)])) rfl rfl (Jvm.hb hby d5_3) _ ?_
    exact kt)
  have pre19 : ∀ τ, Steps p.tables e below (s₁.setTop (mkF m 4 #[.val (.ref a), .val (.int fv), .val (.int (0 : Int32)), .unset] [(.int (3 : Int32))])) τ → PS τ := by rw [← len_of S17 M17]; exact pre18
  obtain ⟨cl20, Ar20, q20, S20, M20, H20, U20⟩ := id V0
  obtain ⟨T21, h21, X21, e21, W21, st21⟩ := stI X0 hx hZ e0 Ar20 (j := (0 : Int32)) (inb_of S20 ⟨by decide, by decide⟩) (g := (mkF m 13 #[.val (.ref a), .val (.int fv), .val (.int (0 : Int32)), .val (.int (3 : Int32))] [(.int fv), (.int (0 : Int32)), (.ref a)])) rfl rfl (Jvm.hb hby d5_13)
  have V21 : Arv Z h21 a ka .int (3 : Int32) [(.int fv), (.int (0 : Int32)), (.int (0 : Int32))] (.int (0 : Int32)) := Arv.set Ar20 q20 S20 M20 H20 U20 rfl W21 0 rfl (Nat.le_of_ble_eq_true rfl)
  have N21 := Fr.snoc X21 N0 ga
  have K21 : Keep h0 h21 [a] := KK0.wr W21 (Or.inl (by simp))
  have pre22 := fun (τ : State) kt => pre19 τ (by
    show Steps p.tables e below (s₁.setTop (mkF m 4 #[.val (.ref a), .val (.int fv), .val (.int (0 : Int32)), .unset] [(.int (3 : Int32))])) τ
    refine XS.istoreN X0.here hx rfl (Jvm.hb hby d5_4) rfl (l' := #[.val (.ref a), .val (.int fv), .val (.int (0 : Int32)), .val (.int (3 : Int32))]) rfl ?_
    refine XS.iloadN X0.here hx rfl (Jvm.hb hby d5_5) rfl ?_
    refine XS.iloadN X0.here hx rfl (Jvm.hb hby d5_6) rfl ?_
    refine XS.icmpNo X0.here hx rfl (Jvm.hb hby d5_7) rfl (tlt (by decide)).2.1 ?_
    refine XS.aloadN X0.here hx rfl (Jvm.hb hby d5_10) rfl rfl ?_
    refine XS.iloadN X0.here hx rfl (Jvm.hb hby d5_11) rfl ?_
    refine XS.iloadN X0.here hx rfl (Jvm.hb hby d5_12) rfl ?_
    exact st21 τ kt)
  obtain ⟨cl23, Ar23, q23, S23, M23, H23, U23⟩ := id V21
  obtain ⟨T24, h24, X24, e24, W24, st24⟩ := stI X21 hx hZ e21 Ar23 (j := (1 : Int32)) (inb_of S23 ⟨by decide, by decide⟩) (g := (mkF m 13 #[.val (.ref a), .val (.int fv), .val (.int (1 : Int32)), .val (.int (3 : Int32))] [(.int fv), (.int (1 : Int32)), (.ref a)])) rfl rfl (Jvm.hb hby d5_13)
  have V24 : Arv Z h24 a ka .int (3 : Int32) [(.int fv), (.int fv), (.int (0 : Int32))] (.int (0 : Int32)) := Arv.set Ar23 q23 S23 M23 H23 U23 rfl W24 1 rfl (Nat.le_of_ble_eq_true rfl)
  have N24 := Fr.snoc X24 N21 ga
  have K24 : Keep h0 h24 [a] := K21.wr W24 (Or.inl (by simp))
  have pre25 := fun (τ : State) kt => pre22 τ (by
    show Steps p.tables e below (T21.setTop (mkF m 14 #[.val (.ref a), .val (.int fv), .val (.int (0 : Int32)), .val (.int (3 : Int32))] [])) τ
    refine XS.iinc X21.here hx rfl (Jvm.hb hby d5_14) rfl (l' := #[.val (.ref a), .val (.int fv), .val (.int (1 : Int32)), .val (.int (3 : Int32))]) rfl ?_
    refine XS.goto X21.here hx rfl (pc0 := 17) (pc' := 5) rfl (Jvm.hb hby d5_17) (by decide) (by decide) ?_
    refine XS.iloadN X21.here hx rfl (Jvm.hb hby d5_5) rfl ?_
    refine XS.iloadN X21.here hx rfl (Jvm.hb hby d5_6) rfl ?_
    refine XS.icmpNo X21.here hx rfl (Jvm.hb hby d5_7) rfl (tlt (by decide)).2.1 ?_
    refine XS.aloadN X21.here hx rfl (Jvm.hb hby d5_10) rfl rfl ?_
    refine XS.iloadN X21.here hx rfl (Jvm.hb hby d5_11) rfl ?_
    refine XS.iloadN X21.here hx rfl (Jvm.hb hby d5_12) rfl ?_
    exact st24 τ kt)
  obtain ⟨cl26, Ar26, q26, S26, M26, H26, U26⟩ := id V24
  obtain ⟨T27, h27, X27, e27, W27, st27⟩ := stI X24 hx hZ e24 Ar26 (j := (2 : Int32)) (inb_of S26 ⟨by decide, by decide⟩) (g := (mkF m 13 #[.val (.ref a), .val (.int fv), .val (.int (2 : Int32)), .val (.int (3 : Int32))] [(.int fv), (.int (2 : Int32)), (.ref a)])) rfl rfl (Jvm.hb hby d5_13)
  have V27 : Arv Z h27 a ka .int (3 : Int32) [(.int fv), (.int fv), (.int fv)] (.int (0 : Int32)) := Arv.set Ar26 q26 S26 M26 H26 U26 rfl W27 2 rfl (Nat.le_of_ble_eq_true rfl)
  have N27 := Fr.snoc X27 N24 ga
  have K27 : Keep h0 h27 [a] := K24.wr W27 (Or.inl (by simp))
  have pre28 := fun (τ : State) kt => pre25 τ (by
    show Steps p.tables e below (T24.setTop (mkF m 14 #[.val (.ref a), .val (.int fv), .val (.int (1 : Int32)), .val (.int (3 : Int32))] [])) τ
    refine XS.iinc X24.here hx rfl (Jvm.hb hby d5_14) rfl (l' := #[.val (.ref a), .val (.int fv), .val (.int (2 : Int32)), .val (.int (3 : Int32))]) rfl ?_
    refine XS.goto X24.here hx rfl (pc0 := 17) (pc' := 5) rfl (Jvm.hb hby d5_17) (by decide) (by decide) ?_
    refine XS.iloadN X24.here hx rfl (Jvm.hb hby d5_5) rfl ?_
    refine XS.iloadN X24.here hx rfl (Jvm.hb hby d5_6) rfl ?_
    refine XS.icmpNo X24.here hx rfl (Jvm.hb hby d5_7) rfl (tlt (by decide)).2.1 ?_
    refine XS.aloadN X24.here hx rfl (Jvm.hb hby d5_10) rfl rfl ?_
    refine XS.iloadN X24.here hx rfl (Jvm.hb hby d5_11) rfl ?_
    refine XS.iloadN X24.here hx rfl (Jvm.hb hby d5_12) rfl ?_
    exact st27 τ kt)
  have pre29 := fun (τ : State) kt => pre28 τ (by
    show Steps p.tables e below (T27.setTop (mkF m 14 #[.val (.ref a), .val (.int fv), .val (.int (2 : Int32)), .val (.int (3 : Int32))] [])) τ
    refine XS.iinc X27.here hx rfl (Jvm.hb hby d5_14) rfl (l' := #[.val (.ref a), .val (.int fv), .val (.int (3 : Int32)), .val (.int (3 : Int32))]) rfl ?_
    refine XS.goto X27.here hx rfl (pc0 := 17) (pc' := 5) rfl (Jvm.hb hby d5_17) (by decide) (by decide) ?_
    refine XS.iloadN X27.here hx rfl (Jvm.hb hby d5_5) rfl ?_
    refine XS.iloadN X27.here hx rfl (Jvm.hb hby d5_6) rfl ?_
    refine XS.icmpYes X27.here hx rfl (pc0 := 7) (pc' := 20) rfl (Jvm.hb hby d5_7) rfl (flt (by decide)).2.1 (by decide) (by decide) ?_
    exact kt)
  obtain ⟨fs, hrL, hrun, hended, hW, hsame⟩ := X27.leave (v := none) (fun _ => rfl)
  refine ⟨_, _, cast (congrFun hPS _) (pre29 _ ?_), hrun, hended, _, _, rfl, ?_, ⟨_, rfl⟩, hW, hsame.mono (by decide) (by decide)⟩
  · show Steps p.tables e below (T27.setTop (mkF m 20 #[.val (.ref a), .val (.int fv), .val (.int (3 : Int32)), .val (.int (3 : Int32))] [])) _
    exact X27.returnOut hx Bd.returns (Jvm.hb hby d5_20) hrL
  · show QF Z a h0 n0 _ T27.heap _
    rw [e27]
    exact ⟨rfl, N27, K27⟩
def QN (Z : State) (a : Addr) (h0 : Heap) (n0 : Nat) (v : Option Value) (h : Heap) (L : List Loc) : Prop := v = none ∧ Fr n0 L ∧ Keep h0 h [a] ∧ ∃ (A B Cn Dn : Addr) (kA kB kC kD : ClassId), (n0 ≤ A ∧ n0 ≤ B ∧ n0 ≤ Cn ∧ n0 ≤ Dn) ∧ (h0.size ≤ A ∧ h0.size ≤ B ∧ h0.size ≤ Cn ∧ h0.size ≤ Dn) ∧ (a ≠ A ∧ a ≠ B ∧ a ≠ Cn ∧ a ≠ Dn ∧ A ≠ B ∧ A ≠ Cn ∧ A ≠ Dn ∧ B ≠ Cn ∧ B ≠ Dn ∧ Cn ≠ Dn) ∧ Fld Z h a "com/example/meticulous_ballot/meticulousballot/AbsorbingChain" "leaving" "[D" (.ref A) ∧ Fld Z h a "com/example/meticulous_ballot/meticulousballot/AbsorbingChain" "worths" "[D" (.ref B) ∧ Fld Z h a "com/example/meticulous_ballot/meticulousballot/AbsorbingChain" "linkCounts" "[I" (.ref Cn) ∧ Fld Z h a "com/example/meticulous_ballot/meticulousballot/AbsorbingChain" "linkedFromCounts" "[I" (.ref Dn) ∧ Arv Z h A kA .double (3 : Int32) [(.double (0 : UInt64)), (.double (0 : UInt64)), (.double (0 : UInt64))] (.double (0 : UInt64)) ∧ Arv Z h B kB .double (3 : Int32) [(.double (0 : UInt64)), (.double (0 : UInt64)), (.double (0 : UInt64))] (.double (0 : UInt64)) ∧ Arv Z h Cn kC .int (3 : Int32) [(.int (0 : Int32)), (.int (0 : Int32)), (.int (0 : Int32))] (.int (0 : Int32)) ∧ Arv Z h Dn kD .int (3 : Int32) [(.int (0 : Int32)), (.int (0 : Int32)), (.int (0 : Int32))] (.int (0 : Int32))
theorem d1_0 : decode prog_1_method_1_code 0 = .ok (.aload_n 0, 1) := by decide +kernel
theorem d1_1 : decode prog_1_method_1_code 1 = .ok (.invokespecial 1, 3) := by decide +kernel
theorem d1_4 : decode prog_1_method_1_code 4 = .ok (.aload_n 0, 1) := by decide +kernel
theorem d1_5 : decode prog_1_method_1_code 5 = .ok (.iload_n 1, 1) := by decide +kernel
theorem d1_6 : decode prog_1_method_1_code 6 = .ok (.newarray .double, 2) := by decide +kernel
theorem d1_8 : decode prog_1_method_1_code 8 = .ok (.putfield 7, 3) := by decide +kernel
theorem d1_11 : decode prog_1_method_1_code 11 = .ok (.aload_n 0, 1) := by decide +kernel
theorem d1_12 : decode prog_1_method_1_code 12 = .ok (.iload_n 1, 1) := by decide +kernel
theorem d1_13 : decode prog_1_method_1_code 13 = .ok (.newarray .double, 2) := by decide +kernel
theorem d1_15 : decode prog_1_method_1_code 15 = .ok (.putfield 13, 3) := by decide +kernel
theorem d1_18 : decode prog_1_method_1_code 18 = .ok (.aload_n 0, 1) := by decide +kernel
theorem d1_19 : decode prog_1_method_1_code 19 = .ok (.iload_n 1, 1) := by decide +kernel
theorem d1_20 : decode prog_1_method_1_code 20 = .ok (.iconst 0, 1) := by decide +kernel
theorem d1_21 : decode prog_1_method_1_code 21 = .ok (.multianewarray 16 2, 4) := by decide +kernel
theorem d1_25 : decode prog_1_method_1_code 25 = .ok (.putfield 18, 3) := by decide +kernel
theorem d1_28 : decode prog_1_method_1_code 28 = .ok (.aload_n 0, 1) := by decide +kernel
theorem d1_29 : decode prog_1_method_1_code 29 = .ok (.iload_n 1, 1) := by decide +kernel
theorem d1_30 : decode prog_1_method_1_code 30 = .ok (.iconst 0, 1) := by decide +kernel
theorem d1_31 : decode prog_1_method_1_code 31 = .ok (.multianewarray 21 2, 4) := by decide +kernel
theorem d1_35 : decode prog_1_method_1_code 35 = .ok (.putfield 23, 3) := by decide +kernel
theorem d1_38 : decode prog_1_method_1_code 38 = .ok (.aload_n 0, 1) := by decide +kernel
theorem d1_39 : decode prog_1_method_1_code 39 = .ok (.iload_n 1, 1) := by decide +kernel
theorem d1_40 : decode prog_1_method_1_code 40 = .ok (.newarray .int, 2) := by decide +kernel
theorem d1_42 : decode prog_1_method_1_code 42 = .ok (.putfield 26, 3) := by decide +kernel
theorem d1_45 : decode prog_1_method_1_code 45 = .ok (.aload_n 0, 1) := by decide +kernel
theorem d1_46 : decode prog_1_method_1_code 46 = .ok (.iload_n 1, 1) := by decide +kernel
theorem d1_47 : decode prog_1_method_1_code 47 = .ok (.iconst 0, 1) := by decide +kernel
theorem d1_48 : decode prog_1_method_1_code 48 = .ok (.multianewarray 16 2, 4) := by decide +kernel
theorem d1_52 : decode prog_1_method_1_code 52 = .ok (.putfield 30, 3) := by decide +kernel
theorem d1_55 : decode prog_1_method_1_code 55 = .ok (.aload_n 0, 1) := by decide +kernel
theorem d1_56 : decode prog_1_method_1_code 56 = .ok (.iload_n 1, 1) := by decide +kernel
theorem d1_57 : decode prog_1_method_1_code 57 = .ok (.newarray .int, 2) := by decide +kernel
theorem d1_59 : decode prog_1_method_1_code 59 = .ok (.putfield 33, 3) := by decide +kernel
theorem d1_62 : decode prog_1_method_1_code 62 = .ok (.return_, 1) := by decide +kernel
theorem own_pn_com_example_meticulous_ballot_meticulousballot_AbsorbingChain : plainName "com/example/meticulous_ballot/meticulousballot/AbsorbingChain" = true := by first | (simp [plainName, overriddenIn]; done) | decide +kernel
theorem own_ef1 (m : MethodId) (x0 : Addr) (x1 : Int32) : entryFrame m #[(.ref x0), (.int x1)] 2 = mkF m 0 #[.val (.ref x0), .val (.int x1)] [] := by first | (simp [entryFrame, mkF, argsToLocals, Value.category]; done) | rfl
set_option maxRecDepth 65536 in
set_option maxHeartbeats 40000000 in
theorem rmI (l : Launch) (Z : State) (a0 : Array Value) (hw : ∀ d ∈ tables_1, d.before a0 Z = true) (ws : List Jvm.Cond) (a : Addr) (cp : Int32)  (h0 : Heap) (n0 : Nat) (Z0 : n0 ≤ h0.size) (hcp : cp = (3 : Int32)) (E7 : Exa Z h0 a "com/example/meticulous_ballot/meticulousballot/AbsorbingChain") (F0 : Fld Z h0 a "com/example/meticulous_ballot/meticulousballot/AbsorbingChain" "leaving" "[D" .null) (F1 : Fld Z h0 a "com/example/meticulous_ballot/meticulousballot/AbsorbingChain" "worths" "[D" .null) (F2 : Fld Z h0 a "com/example/meticulous_ballot/meticulousballot/AbsorbingChain" "links" "[[I" .null) (F3 : Fld Z h0 a "com/example/meticulous_ballot/meticulousballot/AbsorbingChain" "chances" "[[D" .null) (F4 : Fld Z h0 a "com/example/meticulous_ballot/meticulousballot/AbsorbingChain" "linkCounts" "[I" .null) (F5 : Fld Z h0 a "com/example/meticulous_ballot/meticulousballot/AbsorbingChain" "linkedFrom" "[[I" .null) (F6 : Fld Z h0 a "com/example/meticulous_ballot/meticulousballot/AbsorbingChain" "linkedFromCounts" "[I" .null) (ga : n0 ≤ a) :
    MetFree l (⟨"com/example/meticulous_ballot/meticulousballot/AbsorbingChain", "<init>", "(I)V"⟩ : MethodName) (head1 (Jvm.Cond.code (⟨"com/example/meticulous_ballot/meticulousballot/AbsorbingChain", "<init>", "(I)V"⟩ : MethodName) prog_1_method_1_code 2 none :: ws) ({ frames := 1, cells := 16, slots := 21, locals := 12 } : Room)) (fun α U => α = #[(.ref a), (.int cp)] ∧ Z.Warmed39 U.vm ∧ U.heap = h0) (fun _ _ _ _ _ => True) (fun _ U ω U' => ∃ ν Λ, ω = .returned ν ∧ QN Z a h0 n0 ν U'.heap Λ ∧ FrameEnd U ω U' Λ ({ frames := 1, cells := 16, slots := 21, locals := 12 } : Room).cells ({ frames := 1, cells := 16, slots := 21, locals := 12 } : Room).slots) := by
  refine MetFree.of_bodySF (plainFor_of_name own_pn_com_example_meticulous_ballot_meticulousballot_AbsorbingChain) hisR ?_
  intro p e s m args below meth c s₁ Bd hml0 hP hK
  obtain ⟨rfl, hZ, hh⟩ := hP
  have hx := Bd.exec
  have hby := Bd.bytes
  have hml : c.maxLocals = 2 := hml0
  have hown : s.vm.findClass "com/example/meticulous_ballot/meticulousballot/AbsorbingChain" = some m.cls := findClass_of_methodNamed Bd.named
  have hnm := (name_of_methodNamed Bd.named Bd.method).1
  have X0 : Stand p l e ({ frames := 1, cells := 16, slots := 21, locals := 12 } : Room) s m #[(.ref a), (.int cp)] below meth c s₁ [] 0 0 := Stand.of_body Bd
  have e0 : s₁.heap = h0 := by rw [← hh, Bd.state]; rfl
  have N0 := Fr.nil n0
  have KK0 : Keep h0 h0 [a] := Keep.refl h0 [a]
  obtain ⟨PS, hPS⟩ : ∃ P : State → Prop, P = fun τ => Steps p.tables e below (s₁.setTop (entryFrame m #[(.ref a), (.int cp)] 2)) τ := ⟨_, rfl⟩
  have pre0 : ∀ τ, Steps p.tables e below (s₁.setTop (mkF m 0 #[.val (.ref a), .val (.int cp)] [])) τ → PS τ := by rw [hPS]; exact fun τ κ => castTop (own_ef1 m a cp) κ
  subst hcp
  obtain ⟨T30, X30, e30, st30⟩ := initO X0 hx hZ hown (own_W6 hw) (own_W7 hw) (own_W8 hw) e0 (g := (mkF m 1 #[.val (.ref a), .val (.int (3 : Int32))] [(.ref a)])) rfl (by rw [hml]; rfl) rfl (Jvm.hb hby d1_1) (by decide) (W := 0) (by show 2 * 0 + _ ≤ _; exact Nat.le_of_eq rfl) (by decide)
  have pre31 := fun (τ : State) kt => pre0 τ (by
    show Steps p.tables e below (s₁.setTop (mkF m 0 #[.val (.ref a), .val (.int (3 : Int32))] [])) τ
    refine XS.aloadN X0.here hx rfl (Jvm.hb hby d1_0) rfl rfl ?_
    exact st30 τ kt)
  obtain ⟨T32, h32, k32, X32, e32, E32, A32, st32⟩ := newP (aty := .double) X30 hx hZ (own_W9 hw) e30 (g := (mkF m 6 #[.val (.ref a), .val (.int (3 : Int32))] [(.int (3 : Int32)), (.ref a)])) rfl (Jvm.hb hby d1_6) rfl (by decide) (cap := 3) (by decide) (by decide) (by decide) (by decide)
  obtain ⟨A, g32⟩ : ∃ z, z = h0.size := ⟨_, rfl⟩
  rw [← g32] at A32 st32
  have ne_a_A : a ≠ A := Nat.ne_of_lt (Nat.lt_of_lt_of_le E7.lt (Nat.le_of_eq g32.symm))
  have g_A : n0 ≤ A := Nat.le_trans (Nat.le_trans Z0 KK0.1) (Nat.le_of_eq g32.symm)
  have sz_A : h0.size ≤ A := Nat.le_trans KK0.1 (Nat.le_of_eq g32.symm)
  have K32 : Keep h0 h32 [a] := KK0.ext E32
  have V_A : Arv Z h32 A k32 .double (3 : Int32) [(.double (0 : UInt64)), (.double (0 : UInt64)), (.double (0 : UInt64))] (.double (0 : UInt64)) := (Arv.new A32 (by decide)).pad (pad_rep [] (.double (0 : UInt64)) 3)
  have pre33 := fun (τ : State) kt => pre31 τ (by
    show Steps p.tables e below (T30.setTop (mkF m 4 #[.val (.ref a), .val (.int (3 : Int32))] [])) τ
    refine XS.aloadN X30.here hx rfl (Jvm.hb hby d1_4) rfl rfl ?_
    refine XS.iloadN X30.here hx rfl (Jvm.hb hby d1_5) rfl ?_
    exact st32 τ kt)
  have f35 := F0.ext E32
  have f36 := E7.ext E32
  obtain ⟨T34, h34, X34, e34, W34, st34⟩ := putF X32 hx hZ hown (host := "") (Or.inl (own_W10 hw)) Via.refl e32 f35 f36 (Or.inr ⟨(own_W11 hw), rfl, hnm⟩) (own_W1 hw) (ty := (.array .double)) (by decide) rfl rfl (g := (mkF m 8 #[.val (.ref a), .val (.int (3 : Int32))] [(.ref A), (.ref a)])) rfl rfl (Jvm.hb hby d1_8)
  have fw34 := Fld.same W34 f35
  have N34 := Fr.snoc X34 N0 ga
  have K34 : Keep h0 h34 [a] := K32.wr W34 (Or.inl (by simp))
  have pre37 := fun (τ : State) kt => pre33 τ (st34 τ kt)
  obtain ⟨T38, h38, k38, X38, e38, E38, A38, st38⟩ := newP (aty := .double) X34 hx hZ (own_W9 hw) e34 (g := (mkF m 13 #[.val (.ref a), .val (.int (3 : Int32))] [(.int (3 : Int32)), (.ref a)])) rfl (Jvm.hb hby d1_13) rfl (by decide) (cap := 3) (by decide) (by decide) (by decide) (by decide)
  obtain ⟨B, g38⟩ : ∃ z, z = h34.size := ⟨_, rfl⟩
  rw [← g38] at A38 st38
  have f39 := f36.wr W34
  have ne_a_B : a ≠ B := Nat.ne_of_lt (Nat.lt_of_lt_of_le f39.lt (Nat.le_of_eq g38.symm))
  have f40 := V_A.other W34 (Ne.symm ne_a_A)
  have ne_A_B : A ≠ B := Nat.ne_of_lt (Nat.lt_of_lt_of_le f40.lt (Nat.le_of_eq g38.symm))
  have g_B : n0 ≤ B := Nat.le_trans (Nat.le_trans Z0 K34.1) (Nat.le_of_eq g38.symm)
  have sz_B : h0.size ≤ B := Nat.le_trans K34.1 (Nat.le_of_eq g38.symm)
  have K38 : Keep h0 h38 [a] := K34.ext E38
  have V_B : Arv Z h38 B k38 .double (3 : Int32) [(.double (0 : UInt64)), (.double (0 : UInt64)), (.double (0 : UInt64))] (.double (0 : UInt64)) := (Arv.new A38 (by decide)).pad (pad_rep [] (.double (0 : UInt64)) 3)
  have pre41 := fun (τ : State) kt => pre37 τ (by
    show Steps p.tables e below (T34.setTop (mkF m 11 #[.val (.ref a), .val (.int (3 : Int32))] [])) τ
    refine XS.aloadN X34.here hx rfl (Jvm.hb hby d1_11) rfl rfl ?_
    refine XS.iloadN X34.here hx rfl (Jvm.hb hby d1_12) rfl ?_
    exact st38 τ kt)
  have f43 := F1.ext E32
  have f44 := (f43.other W34 (Or.inr (slot_ne (Or.inr (own_W13 hw)) (Or.inr (own_W11 hw)) (by decide) (t := (.array .double)) (t' := (.array .double)) (by decide) (by decide))))
  have f45 := f44.ext E38
  have f46 := f39.ext E38
  obtain ⟨T42, h42, X42, e42, W42, st42⟩ := putF X38 hx hZ hown (host := "") (Or.inl (own_W12 hw)) Via.refl e38 f45 f46 (Or.inr ⟨(own_W13 hw), rfl, hnm⟩) (own_W1 hw) (ty := (.array .double)) (by decide) rfl rfl (g := (mkF m 15 #[.val (.ref a), .val (.int (3 : Int32))] [(.ref B), (.ref a)])) rfl rfl (Jvm.hb hby d1_15)
  have fw42 := Fld.same W42 f45
  have N42 := Fr.snoc X42 N34 ga
  have K42 : Keep h0 h42 [a] := K38.wr W42 (Or.inl (by simp))
  have pre47 := fun (τ : State) kt => pre41 τ (st42 τ kt)
  obtain ⟨T48, h48, cA48, cm48, X48, e48, E48, A48, -, -, -, st48⟩ := gridM X42 hx hZ hown (C := "[I") (ad := "[[I") (ty := .int) (by decide) (by decide) (own_W14 hw) (own_W15 hw) (own_W16 hw) e42 (g := (mkF m 21 #[.val (.ref a), .val (.int (3 : Int32))] [(.int (0 : Int32)), (.int (3 : Int32)), (.ref a)])) rfl (Jvm.hb hby d1_21) rfl (by decide) (by decide) (N := 3) rfl rfl (cap := 0) (by decide) (by decide) (by decide) rfl rfl (by decide) (by decide)
  obtain ⟨G1, g48⟩ : ∃ z, z = h42.size := ⟨_, rfl⟩
  rw [← g48] at A48 st48
  have f49 := f46.wr W42
  have ne_a_G1 : a ≠ G1 := Nat.ne_of_lt (Nat.lt_of_lt_of_le f49.lt (Nat.le_of_eq g48.symm))
  have f50 := f40.ext E38
  have f51 := f50.other W42 (Ne.symm ne_a_A)
  have ne_A_G1 : A ≠ G1 := Nat.ne_of_lt (Nat.lt_of_lt_of_le f51.lt (Nat.le_of_eq g48.symm))
  have f52 := V_B.other W42 (Ne.symm ne_a_B)
  have ne_B_G1 : B ≠ G1 := Nat.ne_of_lt (Nat.lt_of_lt_of_le f52.lt (Nat.le_of_eq g48.symm))
  have g_G1 : n0 ≤ G1 := Nat.le_trans (Nat.le_trans Z0 K42.1) (Nat.le_of_eq g48.symm)
  have sz_G1 : h0.size ≤ G1 := Nat.le_trans K42.1 (Nat.le_of_eq g48.symm)
  have K48 : Keep h0 h48 [a] := K42.ext E48
  have pre53 := fun (τ : State) kt => pre47 τ (by
    show Steps p.tables e below (T42.setTop (mkF m 18 #[.val (.ref a), .val (.int (3 : Int32))] [])) τ
    refine XS.aloadN X42.here hx rfl (Jvm.hb hby d1_18) rfl rfl ?_
    refine XS.iloadN X42.here hx rfl (Jvm.hb hby d1_19) rfl ?_
    refine XS.iconst X42.here hx rfl (Jvm.hb hby d1_20) ?_
    exact st48 τ kt)
  have f55 := F2.ext E32
  have f56 := (f55.other W34 (Or.inr (slot_ne (Or.inr (own_W18 hw)) (Or.inr (own_W11 hw)) (by decide) (t := (.array (.array .int))) (t' := (.array .double)) (by decide) (by decide))))
  have f57 := f56.ext E38
  have f58 := (f57.other W42 (Or.inr (slot_ne (Or.inr (own_W18 hw)) (Or.inr (own_W13 hw)) (by decide) (t := (.array (.array .int))) (t' := (.array .double)) (by decide) (by decide))))
  have f59 := f58.ext E48
  have f60 := f49.ext E48
  obtain ⟨T54, h54, X54, e54, W54, st54⟩ := putF X48 hx hZ hown (host := "") (Or.inl (own_W17 hw)) Via.refl e48 f59 f60 (Or.inr ⟨(own_W18 hw), rfl, hnm⟩) (own_W1 hw) (ty := (.array (.array .int))) (by decide) rfl rfl (g := (mkF m 25 #[.val (.ref a), .val (.int (3 : Int32))] [(.ref G1), (.ref a)])) rfl rfl (Jvm.hb hby d1_25)
  have fw54 := Fld.same W54 f59
  have N54 := Fr.snoc X54 N42 ga
  have K54 : Keep h0 h54 [a] := K48.wr W54 (Or.inl (by simp))
  have pre61 := fun (τ : State) kt => pre53 τ (st54 τ kt)
  obtain ⟨T62, h62, cA62, cm62, X62, e62, E62, A62, -, -, -, st62⟩ := gridM X54 hx hZ hown (C := "[D") (ad := "[[D") (ty := .double) (by decide) (by decide) (own_W19 hw) (own_W20 hw) (own_W9 hw) e54 (g := (mkF m 31 #[.val (.ref a), .val (.int (3 : Int32))] [(.int (0 : Int32)), (.int (3 : Int32)), (.ref a)])) rfl (Jvm.hb hby d1_31) rfl (by decide) (by decide) (N := 3) rfl rfl (cap := 0) (by decide) (by decide) (by decide) rfl rfl (by decide) (by decide)
  obtain ⟨G2, g62⟩ : ∃ z, z = h54.size := ⟨_, rfl⟩
  rw [← g62] at A62 st62
  have f63 := f60.wr W54
  have ne_a_G2 : a ≠ G2 := Nat.ne_of_lt (Nat.lt_of_lt_of_le f63.lt (Nat.le_of_eq g62.symm))
  have f64 := f51.ext E48
  have f65 := f64.other W54 (Ne.symm ne_a_A)
  have ne_A_G2 : A ≠ G2 := Nat.ne_of_lt (Nat.lt_of_lt_of_le f65.lt (Nat.le_of_eq g62.symm))
  have f66 := f52.ext E48
  have f67 := f66.other W54 (Ne.symm ne_a_B)
  have ne_B_G2 : B ≠ G2 := Nat.ne_of_lt (Nat.lt_of_lt_of_le f67.lt (Nat.le_of_eq g62.symm))
  have g_G2 : n0 ≤ G2 := Nat.le_trans (Nat.le_trans Z0 K54.1) (Nat.le_of_eq g62.symm)
  have sz_G2 : h0.size ≤ G2 := Nat.le_trans K54.1 (Nat.le_of_eq g62.symm)
  have K62 : Keep h0 h62 [a] := K54.ext E62
  have pre68 := fun (τ : State) kt => pre61 τ (by
    show Steps p.tables e below (T54.setTop (mkF m 28 #[.val (.ref a), .val (.int (3 : Int32))] [])) τ
    refine XS.aloadN X54.here hx rfl (Jvm.hb hby d1_28) rfl rfl ?_
    refine XS.iloadN X54.here hx rfl (Jvm.hb hby d1_29) rfl ?_
    refine XS.iconst X54.here hx rfl (Jvm.hb hby d1_30) ?_
    exact st62 τ kt)
  have f70 := F3.ext E32
  have f71 := (f70.other W34 (Or.inr (slot_ne (Or.inr (own_W22 hw)) (Or.inr (own_W11 hw)) (by decide) (t := (.array (.array .double))) (t' := (.array .double)) (by decide) (by decide))))
  have f72 := f71.ext E38
  have f73 := (f72.other W42 (Or.inr (slot_ne (Or.inr (own_W22 hw)) (Or.inr (own_W13 hw)) (by decide) (t := (.array (.array .double))) (t' := (.array .double)) (by decide) (by decide))))
  have f74 := f73.ext E48
  have f75 := (f74.other W54 (Or.inr (slot_ne (Or.inr (own_W22 hw)) (Or.inr (own_W18 hw)) (by decide) (t := (.array (.array .double))) (t' := (.array (.array .int))) (by decide) (by decide))))
  have f76 := f75.ext E62
  have f77 := f63.ext E62
  obtain ⟨T69, h69, X69, e69, W69, st69⟩ := putF X62 hx hZ hown (host := "") (Or.inl (own_W21 hw)) Via.refl e62 f76 f77 (Or.inr ⟨(own_W22 hw), rfl, hnm⟩) (own_W1 hw) (ty := (.array (.array .double))) (by decide) rfl rfl (g := (mkF m 35 #[.val (.ref a), .val (.int (3 : Int32))] [(.ref G2), (.ref a)])) rfl rfl (Jvm.hb hby d1_35)
  have fw69 := Fld.same W69 f76
  have N69 := Fr.snoc X69 N54 ga
  have K69 : Keep h0 h69 [a] := K62.wr W69 (Or.inl (by simp))
  have pre78 := fun (τ : State) kt => pre68 τ (st69 τ kt)
  obtain ⟨T79, h79, k79, X79, e79, E79, A79, st79⟩ := newP (aty := .int) X69 hx hZ (own_W16 hw) e69 (g := (mkF m 40 #[.val (.ref a), .val (.int (3 : Int32))] [(.int (3 : Int32)), (.ref a)])) rfl (Jvm.hb hby d1_40) rfl (by decide) (cap := 3) (by decide) (by decide) (by decide) (by decide)
  obtain ⟨Cn, g79⟩ : ∃ z, z = h69.size := ⟨_, rfl⟩
  rw [← g79] at A79 st79
  have f80 := f77.wr W69
  have ne_a_Cn : a ≠ Cn := Nat.ne_of_lt (Nat.lt_of_lt_of_le f80.lt (Nat.le_of_eq g79.symm))
  have f81 := f65.ext E62
  have f82 := f81.other W69 (Ne.symm ne_a_A)
  have ne_A_Cn : A ≠ Cn := Nat.ne_of_lt (Nat.lt_of_lt_of_le f82.lt (Nat.le_of_eq g79.symm))
  have f83 := f67.ext E62
  have f84 := f83.other W69 (Ne.symm ne_a_B)
  have ne_B_Cn : B ≠ Cn := Nat.ne_of_lt (Nat.lt_of_lt_of_le f84.lt (Nat.le_of_eq g79.symm))
  have g_Cn : n0 ≤ Cn := Nat.le_trans (Nat.le_trans Z0 K69.1) (Nat.le_of_eq g79.symm)
  have sz_Cn : h0.size ≤ Cn := Nat.le_trans K69.1 (Nat.le_of_eq g79.symm)
  have K79 : Keep h0 h79 [a] := K69.ext E79
  have V_Cn : Arv Z h79 Cn k79 .int (3 : Int32) [(.int (0 : Int32)), (.int (0 : Int32)), (.int (0 : Int32))] (.int (0 : Int32)) := (Arv.new A79 (by decide)).pad (pad_rep [] (.int (0 : Int32)) 3)
  have pre85 := fun (τ : State) kt => pre78 τ (by
    show Steps p.tables e below (T69.setTop (mkF m 38 #[.val (.ref a), .val (.int (3 : Int32))] [])) τ
    refine XS.aloadN X69.here hx rfl (Jvm.hb hby d1_38) rfl rfl ?_
    refine XS.iloadN X69.here hx rfl (Jvm.hb hby d1_39) rfl ?_
    exact st79 τ kt)
  have f87 := F4.ext E32
  have f88 := (f87.other W34 (Or.inr (slot_ne (Or.inr (own_W24 hw)) (Or.inr (own_W11 hw)) (by decide) (t := (.array .int)) (t' := (.array .double)) (by decide) (by decide))))
  have f89 := f88.ext E38
  have f90 := (f89.other W42 (Or.inr (slot_ne (Or.inr (own_W24 hw)) (Or.inr (own_W13 hw)) (by decide) (t := (.array .int)) (t' := (.array .double)) (by decide) (by decide))))
  have f91 := f90.ext E48
  have f92 := (f91.other W54 (Or.inr (slot_ne (Or.inr (own_W24 hw)) (Or.inr (own_W18 hw)) (by decide) (t := (.array .int)) (t' := (.array (.array .int))) (by decide) (by decide))))
  have f93 := f92.ext E62
  have f94 := (f93.other W69 (Or.inr (slot_ne (Or.inr (own_W24 hw)) (Or.inr (own_W22 hw)) (by decide) (t := (.array .int)) (t' := (.array (.array .double))) (by decide) (by decide))))
  have f95 := f94.ext E79
  have f96 := f80.ext E79
  obtain ⟨T86, h86, X86, e86, W86, st86⟩ := putF X79 hx hZ hown (host := "") (Or.inl (own_W23 hw)) Via.refl e79 f95 f96 (Or.inr ⟨(own_W24 hw), rfl, hnm⟩) (own_W1 hw) (ty := (.array .int)) (by decide) rfl rfl (g := (mkF m 42 #[.val (.ref a), .val (.int (3 : Int32))] [(.ref Cn), (.ref a)])) rfl rfl (Jvm.hb hby d1_42)
  have fw86 := Fld.same W86 f95
  have N86 := Fr.snoc X86 N69 ga
  have K86 : Keep h0 h86 [a] := K79.wr W86 (Or.inl (by simp))
  have pre97 := fun (τ : State) kt => pre85 τ (st86 τ kt)
  obtain ⟨T98, h98, cA98, cm98, X98, e98, E98, A98, -, -, -, st98⟩ := gridM X86 hx hZ hown (C := "[I") (ad := "[[I") (ty := .int) (by decide) (by decide) (own_W14 hw) (own_W15 hw) (own_W16 hw) e86 (g := (mkF m 48 #[.val (.ref a), .val (.int (3 : Int32))] [(.int (0 : Int32)), (.int (3 : Int32)), (.ref a)])) rfl (Jvm.hb hby d1_48) rfl (by decide) (by decide) (N := 3) rfl rfl (cap := 0) (by decide) (by decide) (by decide) rfl rfl (by decide) (by decide)
  obtain ⟨G3, g98⟩ : ∃ z, z = h86.size := ⟨_, rfl⟩
  rw [← g98] at A98 st98
  have f99 := f96.wr W86
  have ne_a_G3 : a ≠ G3 := Nat.ne_of_lt (Nat.lt_of_lt_of_le f99.lt (Nat.le_of_eq g98.symm))
  have f100 := f82.ext E79
  have f101 := f100.other W86 (Ne.symm ne_a_A)
  have ne_A_G3 : A ≠ G3 := Nat.ne_of_lt (Nat.lt_of_lt_of_le f101.lt (Nat.le_of_eq g98.symm))
  have f102 := f84.ext E79
  have f103 := f102.other W86 (Ne.symm ne_a_B)
  have ne_B_G3 : B ≠ G3 := Nat.ne_of_lt (Nat.lt_of_lt_of_le f103.lt (Nat.le_of_eq g98.symm))
  have f104 := V_Cn.other W86 (Ne.symm ne_a_Cn)
  have ne_Cn_G3 : Cn ≠ G3 := Nat.ne_of_lt (Nat.lt_of_lt_of_le f104.lt (Nat.le_of_eq g98.symm))
  have g_G3 : n0 ≤ G3 := Nat.le_trans (Nat.le_trans Z0 K86.1) (Nat.le_of_eq g98.symm)
  have sz_G3 : h0.size ≤ G3 := Nat.le_trans K86.1 (Nat.le_of_eq g98.symm)
  have K98 : Keep h0 h98 [a] := K86.ext E98
  have pre105 := fun (τ : State) kt => pre97 τ (by
    show Steps p.tables e below (T86.setTop (mkF m 45 #[.val (.ref a), .val (.int (3 : Int32))] [])) τ
    refine XS.aloadN X86.here hx rfl (Jvm.hb hby d1_45) rfl rfl ?_
    refine XS.iloadN X86.here hx rfl (Jvm.hb hby d1_46) rfl ?_
    refine XS.iconst X86.here hx rfl (Jvm.hb hby d1_47) ?_
    exact st98 τ kt)
  have f107 := F5.ext E32
  have f108 := (f107.other W34 (Or.inr (slot_ne (Or.inr (own_W26 hw)) (Or.inr (own_W11 hw)) (by decide) (t := (.array (.array .int))) (t' := (.array .double)) (by decide) (by decide))))
  have f109 := f108.ext E38
  have f110 := (f109.other W42 (Or.inr (slot_ne (Or.inr (own_W26 hw)) (Or.inr (own_W13 hw)) (by decide) (t := (.array (.array .int))) (t' := (.array .double)) (by decide) (by decide))))
  have f111 := f110.ext E48
  have f112 := (f111.other W54 (Or.inr (slot_ne (Or.inr (own_W26 hw)) (Or.inr (own_W18 hw)) (by decide) (t := (.array (.array .int))) (t' := (.array (.array .int))) (by decide) (by decide))))
  have f113 := f112.ext E62
  have f114 := (f113.other W69 (Or.inr (slot_ne (Or.inr (own_W26 hw)) (Or.inr (own_W22 hw)) (by decide) (t := (.array (.array .int))) (t' := (.array (.array .double))) (by decide) (by decide))))
  have f115 := f114.ext E79
  have f116 := (f115.other W86 (Or.inr (slot_ne (Or.inr (own_W26 hw)) (Or.inr (own_W24 hw)) (by decide) (t := (.array (.array .int))) (t' := (.array .int)) (by decide) (by decide))))
  have f117 := f116.ext E98
  have f118 := f99.ext E98
  obtain ⟨T106, h106, X106, e106, W106, st106⟩ := putF X98 hx hZ hown (host := "") (Or.inl (own_W25 hw)) Via.refl e98 f117 f118 (Or.inr ⟨(own_W26 hw), rfl, hnm⟩) (own_W1 hw) (ty := (.array (.array .int))) (by decide) rfl rfl (g := (mkF m 52 #[.val (.ref a), .val (.int (3 : Int32))] [(.ref G3), (.ref a)])) rfl rfl (Jvm.hb hby d1_52)
  have fw106 := Fld.same W106 f117
  have N106 := Fr.snoc X106 N86 ga
  have K106 : Keep h0 h106 [a] := K98.wr W106 (Or.inl (by simp))
  have pre119 := fun (τ : State) kt => pre105 τ (st106 τ kt)
  obtain ⟨T120, h120, k120, X120, e120, E120, A120, st120⟩ := newP (aty := .int) X106 hx hZ (own_W16 hw) e106 (g := (mkF m 57 #[.val (.ref a), .val (.int (3 : Int32))] [(.int (3 : Int32)), (.ref a)])) rfl (Jvm.hb hby d1_57) rfl (by decide) (cap := 3) (by decide) (by decide) (by decide) (by decide)
  obtain ⟨Dn, g120⟩ : ∃ z, z = h106.size := ⟨_, rfl⟩
  rw [← g120] at A120 st120
  have f121 := f118.wr W106
  have ne_a_Dn : a ≠ Dn := Nat.ne_of_lt (Nat.lt_of_lt_of_le f121.lt (Nat.le_of_eq g120.symm))
  have f122 := f101.ext E98
  have f123 := f122.other W106 (Ne.symm ne_a_A)
  have ne_A_Dn : A ≠ Dn := Nat.ne_of_lt (Nat.lt_of_lt_of_le f123.lt (Nat.le_of_eq g120.symm))
  have f124 := f103.ext E98
  have f125 := f124.other W106 (Ne.symm ne_a_B)
  have ne_B_Dn : B ≠ Dn := Nat.ne_of_lt (Nat.lt_of_lt_of_le f125.lt (Nat.le_of_eq g120.symm))
  have f126 := f104.ext E98
  have f127 := f126.other W106 (Ne.symm ne_a_Cn)
  have ne_Cn_Dn : Cn ≠ Dn := Nat.ne_of_lt (Nat.lt_of_lt_of_le f127.lt (Nat.le_of_eq g120.symm))
  have g_Dn : n0 ≤ Dn := Nat.le_trans (Nat.le_trans Z0 K106.1) (Nat.le_of_eq g120.symm)
  have sz_Dn : h0.size ≤ Dn := Nat.le_trans K106.1 (Nat.le_of_eq g120.symm)
  have K120 : Keep h0 h120 [a] := K106.ext E120
  have V_Dn : Arv Z h120 Dn k120 .int (3 : Int32) [(.int (0 : Int32)), (.int (0 : Int32)), (.int (0 : Int32))] (.int (0 : Int32)) := (Arv.new A120 (by decide)).pad (pad_rep [] (.int (0 : Int32)) 3)
  have pre128 := fun (τ : State) kt => pre119 τ (by
    show Steps p.tables e below (T106.setTop (mkF m 55 #[.val (.ref a), .val (.int (3 : Int32))] [])) τ
    refine XS.aloadN X106.here hx rfl (Jvm.hb hby d1_55) rfl rfl ?_
    refine XS.iloadN X106.here hx rfl (Jvm.hb hby d1_56) rfl ?_
    exact st120 τ kt)
  have f130 := F6.ext E32
  have f131 := (f130.other W34 (Or.inr (slot_ne (Or.inr (own_W28 hw)) (Or.inr (own_W11 hw)) (by decide) (t := (.array .int)) (t' := (.array .double)) (by decide) (by decide))))
  have f132 := f131.ext E38
  have f133 := (f132.other W42 (Or.inr (slot_ne (Or.inr (own_W28 hw)) (Or.inr (own_W13 hw)) (by decide) (t := (.array .int)) (t' := (.array .double)) (by decide) (by decide))))
  have f134 := f133.ext E48
  have f135 := (f134.other W54 (Or.inr (slot_ne (Or.inr (own_W28 hw)) (Or.inr (own_W18 hw)) (by decide) (t := (.array .int)) (t' := (.array (.array .int))) (by decide) (by decide))))
  have f136 := f135.ext E62
  have f137 := (f136.other W69 (Or.inr (slot_ne (Or.inr (own_W28 hw)) (Or.inr (own_W22 hw)) (by decide) (t := (.array .int)) (t' := (.array (.array .double))) (by decide) (by decide))))
  have f138 := f137.ext E79
  have f139 := (f138.other W86 (Or.inr (slot_ne (Or.inr (own_W28 hw)) (Or.inr (own_W24 hw)) (by decide) (t := (.array .int)) (t' := (.array .int)) (by decide) (by decide))))
  have f140 := f139.ext E98
  have f141 := (f140.other W106 (Or.inr (slot_ne (Or.inr (own_W28 hw)) (Or.inr (own_W26 hw)) (by decide) (t := (.array .int)) (t' := (.array (.array .int))) (by decide) (by decide))))
  have f142 := f141.ext E120
  have f143 := f121.ext E120
  obtain ⟨T129, h129, X129, e129, W129, st129⟩ := putF X120 hx hZ hown (host := "") (Or.inl (own_W27 hw)) Via.refl e120 f142 f143 (Or.inr ⟨(own_W28 hw), rfl, hnm⟩) (own_W1 hw) (ty := (.array .int)) (by decide) rfl rfl (g := (mkF m 59 #[.val (.ref a), .val (.int (3 : Int32))] [(.ref Dn), (.ref a)])) rfl rfl (Jvm.hb hby d1_59)
  have fw129 := Fld.same W129 f142
  have N129 := Fr.snoc X129 N106 ga
  have K129 : Keep h0 h129 [a] := K120.wr W129 (Or.inl (by simp))
  have pre144 := fun (τ : State) kt => pre128 τ (st129 τ kt)
  have f145 := fw34.ext E38
  have f146 := (f145.other W42 (Or.inr (slot_ne (Or.inr (own_W11 hw)) (Or.inr (own_W13 hw)) (by decide) (t := (.array .double)) (t' := (.array .double)) (by decide) (by decide))))
  have f147 := f146.ext E48
  have f148 := (f147.other W54 (Or.inr (slot_ne (Or.inr (own_W11 hw)) (Or.inr (own_W18 hw)) (by decide) (t := (.array .double)) (t' := (.array (.array .int))) (by decide) (by decide))))
  have f149 := f148.ext E62
  have f150 := (f149.other W69 (Or.inr (slot_ne (Or.inr (own_W11 hw)) (Or.inr (own_W22 hw)) (by decide) (t := (.array .double)) (t' := (.array (.array .double))) (by decide) (by decide))))
  have f151 := f150.ext E79
  have f152 := (f151.other W86 (Or.inr (slot_ne (Or.inr (own_W11 hw)) (Or.inr (own_W24 hw)) (by decide) (t := (.array .double)) (t' := (.array .int)) (by decide) (by decide))))
  have f153 := f152.ext E98
  have f154 := (f153.other W106 (Or.inr (slot_ne (Or.inr (own_W11 hw)) (Or.inr (own_W26 hw)) (by decide) (t := (.array .double)) (t' := (.array (.array .int))) (by decide) (by decide))))
  have f155 := f154.ext E120
  have f156 := (f155.other W129 (Or.inr (slot_ne (Or.inr (own_W11 hw)) (Or.inr (own_W28 hw)) (by decide) (t := (.array .double)) (t' := (.array .int)) (by decide) (by decide))))
  have f157 := fw42.ext E48
  have f158 := (f157.other W54 (Or.inr (slot_ne (Or.inr (own_W13 hw)) (Or.inr (own_W18 hw)) (by decide) (t := (.array .double)) (t' := (.array (.array .int))) (by decide) (by decide))))
  have f159 := f158.ext E62
  have f160 := (f159.other W69 (Or.inr (slot_ne (Or.inr (own_W13 hw)) (Or.inr (own_W22 hw)) (by decide) (t := (.array .double)) (t' := (.array (.array .double))) (by decide) (by decide))))
  have f161 := f160.ext E79
  have f162 := (f161.other W86 (Or.inr (slot_ne (Or.inr (own_W13 hw)) (Or.inr (own_W24 hw)) (by decide) (t := (.array .double)) (t' := (.array .int)) (by decide) (by decide))))
  have f163 := f162.ext E98
  have f164 := (f163.other W106 (Or.inr (slot_ne (Or.inr (own_W13 hw)) (Or.inr (own_W26 hw)) (by decide) (t := (.array .double)) (t' := (.array (.array .int))) (by decide) (by decide))))
  have f165 := f164.ext E120
  have f166 := (f165.other W129 (Or.inr (slot_ne (Or.inr (own_W13 hw)) (Or.inr (own_W28 hw)) (by decide) (t := (.array .double)) (t' := (.array .int)) (by decide) (by decide))))
  have f167 := fw86.ext E98
  have f168 := (f167.other W106 (Or.inr (slot_ne (Or.inr (own_W24 hw)) (Or.inr (own_W26 hw)) (by decide) (t := (.array .int)) (t' := (.array (.array .int))) (by decide) (by decide))))
  have f169 := f168.ext E120
  have f170 := (f169.other W129 (Or.inr (slot_ne (Or.inr (own_W24 hw)) (Or.inr (own_W28 hw)) (by decide) (t := (.array .int)) (t' := (.array .int)) (by decide) (by decide))))
  have f171 := f123.ext E120
  have f172 := f171.other W129 (Ne.symm ne_a_A)
  have f173 := f125.ext E120
  have f174 := f173.other W129 (Ne.symm ne_a_B)
  have f175 := f127.ext E120
  have f176 := f175.other W129 (Ne.symm ne_a_Cn)
  have f177 := V_Dn.other W129 (Ne.symm ne_a_Dn)
  obtain ⟨fs, hrL, hrun, hended, hW, hsame⟩ := X129.leave (v := none) (fun _ => rfl)
  refine ⟨_, _, cast (congrFun hPS _) (pre144 _ ?_), hrun, hended, _, _, rfl, ?_, ⟨_, rfl⟩, hW, hsame.mono (by decide) (by decide)⟩
  · show Steps p.tables e below (T129.setTop (mkF m 62 #[.val (.ref a), .val (.int (3 : Int32))] [])) _
    exact X129.returnOut hx Bd.returns (Jvm.hb hby d1_62) hrL
  · show QN Z a h0 n0 _ T129.heap _
    rw [e129]
    exact ⟨rfl, N129, K129, A, B, Cn, Dn, _, _, _, _, ⟨g_A, g_B, g_Cn, g_Dn⟩, ⟨sz_A, sz_B, sz_Cn, sz_Dn⟩, ⟨ne_a_A, ne_a_B, ne_a_Cn, ne_a_Dn, ne_A_B, ne_A_Cn, ne_A_Dn, ne_B_Cn, ne_B_Dn, ne_Cn_Dn⟩, f156, f166, f170, fw129, f172, f174, f176, f177⟩
def QL (Z : State) (A B : Addr) (kA kB : ClassId) (xs ws_ : List Value) (h0 : Heap) (n0 : Nat) (v : Option Value) (h : Heap) (L : List Loc) : Prop := v = none ∧ Fr n0 L ∧ Keep h0 h [A, B] ∧ Arv Z h A kA .double (3 : Int32) xs (.double (0 : UInt64)) ∧ Arv Z h B kB .double (3 : Int32) ws_ (.double (0 : UInt64))
theorem d3_0 : decode prog_1_method_2_code 0 = .ok (.aload_n 0, 1) := by decide +kernel
theorem d3_1 : decode prog_1_method_2_code 1 = .ok (.getfield 7, 3) := by decide +kernel
theorem d3_4 : decode prog_1_method_2_code 4 = .ok (.iload_n 1, 1) := by decide +kernel
theorem d3_5 : decode prog_1_method_2_code 5 = .ok (.dload_n 2, 1) := by decide +kernel
theorem d3_6 : decode prog_1_method_2_code 6 = .ok (.dastore, 1) := by decide +kernel
theorem d3_7 : decode prog_1_method_2_code 7 = .ok (.aload_n 0, 1) := by decide +kernel
theorem d3_8 : decode prog_1_method_2_code 8 = .ok (.getfield 13, 3) := by decide +kernel
theorem d3_11 : decode prog_1_method_2_code 11 = .ok (.iload_n 1, 1) := by decide +kernel
theorem d3_12 : decode prog_1_method_2_code 12 = .ok (.dload 4, 2) := by decide +kernel
theorem d3_14 : decode prog_1_method_2_code 14 = .ok (.dastore, 1) := by decide +kernel
theorem d3_15 : decode prog_1_method_2_code 15 = .ok (.return_, 1) := by decide +kernel
theorem own_ef3 (m : MethodId) (x0 : Addr) (x1 : Int32) (x2 : UInt64) (x3 : UInt64) : entryFrame m #[(.ref x0), (.int x1), (.double x2), (.double x3)] 6 = mkF m 0 #[.val (.ref x0), .val (.int x1), .val (.double x2), .second, .val (.double x3), .second] [] := by first | (simp [entryFrame, mkF, argsToLocals, Value.category]; done) | rfl
set_option maxRecDepth 65536 in
set_option maxHeartbeats 40000000 in
theorem rmL0 (l : Launch) (Z : State) (a0 : Array Value) (hw : ∀ d ∈ tables_1, d.before a0 Z = true) (ws : List Jvm.Cond) (a : Addr) (ix : Int32) (cx : UInt64) (cw : UInt64) (A B : Addr) (kA kB : ClassId) (x0 x1 x2 w0 w1 w2 : UInt64) (h0 : Heap) (n0 : Nat) (Z0 : n0 ≤ h0.size) (hix : ix = (0 : Int32)) (FA : Fld Z h0 a "com/example/meticulous_ballot/meticulousballot/AbsorbingChain" "leaving" "[D" (.ref A)) (FB : Fld Z h0 a "com/example/meticulous_ballot/meticulousballot/AbsorbingChain" "worths" "[D" (.ref B)) (VA : Arv Z h0 A kA .double (3 : Int32) [(.double x0), (.double x1), (.double x2)] (.double (0 : UInt64))) (VB : Arv Z h0 B kB .double (3 : Int32) [(.double w0), (.double w1), (.double w2)] (.double (0 : UInt64))) (naA : a ≠ A) (naB : a ≠ B) (nAB : A ≠ B) (gA : n0 ≤ A) (gB : n0 ≤ B) :
    MetFree l (⟨"com/example/meticulous_ballot/meticulousballot/AbsorbingChain", "leave", "(IDD)V"⟩ : MethodName) (head1 (Jvm.Cond.code (⟨"com/example/meticulous_ballot/meticulousballot/AbsorbingChain", "leave", "(IDD)V"⟩ : MethodName) prog_1_method_2_code 6 none :: ws) ({ frames := 0, cells := 0, slots := 0, locals := 0 } : Room)) (fun α U => α = #[(.ref a), (.int ix), (.double cx), (.double cw)] ∧ Z.Warmed39 U.vm ∧ U.heap = h0) (fun _ _ _ _ _ => True) (fun _ U ω U' => ∃ ν Λ, ω = .returned ν ∧ QL Z A B kA kB [(.double cx), (.double x1), (.double x2)] [(.double cw), (.double w1), (.double w2)] h0 n0 ν U'.heap Λ ∧ FrameEnd U ω U' Λ ({ frames := 0, cells := 0, slots := 0, locals := 0 } : Room).cells ({ frames := 0, cells := 0, slots := 0, locals := 0 } : Room).slots) := by
  refine MetFree.of_bodySF (plainFor_of_name own_pn_com_example_meticulous_ballot_meticulousballot_AbsorbingChain) hisR ?_
  intro p e s m args below meth c s₁ Bd hml0 hP hK
  obtain ⟨rfl, hZ, hh⟩ := hP
  have hx := Bd.exec
  have hby := Bd.bytes
  have hml : c.maxLocals = 6 := hml0
  have hown : s.vm.findClass "com/example/meticulous_ballot/meticulousballot/AbsorbingChain" = some m.cls := findClass_of_methodNamed Bd.named
  have hnm := (name_of_methodNamed Bd.named Bd.method).1
  have X0 : Stand p l e ({ frames := 0, cells := 0, slots := 0, locals := 0 } : Room) s m #[(.ref a), (.int ix), (.double cx), (.double cw)] below meth c s₁ [] 0 0 := Stand.of_body Bd
  have e0 : s₁.heap = h0 := by rw [← hh, Bd.state]; rfl
  have N0 := Fr.nil n0
  have KK0 : Keep h0 h0 [A, B] := Keep.refl h0 [A, B]
  obtain ⟨PS, hPS⟩ : ∃ P : State → Prop, P = fun τ => Steps p.tables e below (s₁.setTop (entryFrame m #[(.ref a), (.int ix), (.double cx), (.double cw)] 6)) τ := ⟨_, rfl⟩
  have pre0 : ∀ τ, Steps p.tables e below (s₁.setTop (mkF m 0 #[.val (.ref a), .val (.int ix), .val (.double cx), .second, .val (.double cw), .second] [])) τ → PS τ := by rw [hPS]; exact fun τ κ => castTop (own_ef3 m a ix cx cw) κ
  subst hix
  obtain ⟨T178, X178, e178, st178⟩ := getF X0 hx hZ hown (host := "") (Or.inl (own_W10 hw)) Via.refl e0 FA (g := (mkF m 1 #[.val (.ref a), .val (.int (0 : Int32)), .val (.double cx), .second, .val (.double cw), .second] [(.ref a)])) rfl rfl (Jvm.hb hby d3_1)
  have pre179 := fun (τ : State) kt => pre0 τ (by
    show Steps p.tables e below (s₁.setTop (mkF m 0 #[.val (.ref a), .val (.int (0 : Int32)), .val (.double cx), .second, .val (.double cw), .second] [])) τ
    refine XS.aloadN X0.here hx rfl (Jvm.hb hby d3_0) rfl rfl ?_
    exact st178 τ kt)
  obtain ⟨cl180, Ar180, q180, S180, M180, H180, U180⟩ := id VA
  obtain ⟨T181, h181, X181, e181, W181, st181⟩ := own_stD X178 hx hZ e178 Ar180 (j := (0 : Int32)) (inb_of S180 ⟨by decide, by decide⟩) (g := (mkF m 6 #[.val (.ref a), .val (.int (0 : Int32)), .val (.double cx), .second, .val (.double cw), .second] [(.double cx), (.int (0 : Int32)), (.ref A)])) rfl rfl (Jvm.hb hby d3_6)
  have V181 : Arv Z h181 A kA .double (3 : Int32) [(.double cx), (.double x1), (.double x2)] (.double (0 : UInt64)) := Arv.set Ar180 q180 S180 M180 H180 U180 rfl W181 0 rfl (Nat.le_of_ble_eq_true rfl)
  have N181 := Fr.snoc X181 N0 gA
  have K181 : Keep h0 h181 [A, B] := KK0.wr W181 (Or.inl (by simp))
  have pre182 := fun (τ : State) kt => pre179 τ (by
    show Steps p.tables e below (T178.setTop (mkF m 4 #[.val (.ref a), .val (.int (0 : Int32)), .val (.double cx), .second, .val (.double cw), .second] [(.ref A)])) τ
    refine XS.iloadN X178.here hx rfl (Jvm.hb hby d3_4) rfl ?_
    refine own_dloadN X178.here hx rfl (Jvm.hb hby d3_5) rfl ?_
    exact st181 τ kt)
  have f184 := (FB.other W181 (Or.inl naA))
  obtain ⟨T183, X183, e183, st183⟩ := getF X181 hx hZ hown (host := "") (Or.inl (own_W12 hw)) Via.refl e181 f184 (g := (mkF m 8 #[.val (.ref a), .val (.int (0 : Int32)), .val (.double cx), .second, .val (.double cw), .second] [(.ref a)])) rfl rfl (Jvm.hb hby d3_8)
  have pre185 := fun (τ : State) kt => pre182 τ (by
    show Steps p.tables e below (T181.setTop (mkF m 7 #[.val (.ref a), .val (.int (0 : Int32)), .val (.double cx), .second, .val (.double cw), .second] [])) τ
    refine XS.aloadN X181.here hx rfl (Jvm.hb hby d3_7) rfl rfl ?_
    exact st183 τ kt)
  have f186 := VB.other W181 (Ne.symm nAB)
  obtain ⟨cl187, Ar187, q187, S187, M187, H187, U187⟩ := id f186
  obtain ⟨T188, h188, X188, e188, W188, st188⟩ := own_stD X183 hx hZ e183 Ar187 (j := (0 : Int32)) (inb_of S187 ⟨by decide, by decide⟩) (g := (mkF m 14 #[.val (.ref a), .val (.int (0 : Int32)), .val (.double cx), .second, .val (.double cw), .second] [(.double cw), (.int (0 : Int32)), (.ref B)])) rfl rfl (Jvm.hb hby d3_14)
  have V188 : Arv Z h188 B kB .double (3 : Int32) [(.double cw), (.double w1), (.double w2)] (.double (0 : UInt64)) := Arv.set Ar187 q187 S187 M187 H187 U187 rfl W188 0 rfl (Nat.le_of_ble_eq_true rfl)
  have N188 := Fr.snoc X188 N181 gB
  have K188 : Keep h0 h188 [A, B] := K181.wr W188 (Or.inl (by simp))
  have pre189 := fun (τ : State) kt => pre185 τ (by
    show Steps p.tables e below (T183.setTop (mkF m 11 #[.val (.ref a), .val (.int (0 : Int32)), .val (.double cx), .second, .val (.double cw), .second] [(.ref B)])) τ
    refine XS.iloadN X183.here hx rfl (Jvm.hb hby d3_11) rfl ?_
    refine own_dload X183.here hx rfl (Jvm.hb hby d3_12) rfl ?_
    exact st188 τ kt)
  have f190 := V181.other W188 nAB
  obtain ⟨fs, hrL, hrun, hended, hW, hsame⟩ := X188.leave (v := none) (fun _ => rfl)
  refine ⟨_, _, cast (congrFun hPS _) (pre189 _ ?_), hrun, hended, _, _, rfl, ?_, ⟨_, rfl⟩, hW, hsame.mono (by decide) (by decide)⟩
  · show Steps p.tables e below (T188.setTop (mkF m 15 #[.val (.ref a), .val (.int (0 : Int32)), .val (.double cx), .second, .val (.double cw), .second] [])) _
    exact X188.returnOut hx Bd.returns (Jvm.hb hby d3_15) hrL
  · show QL Z A B kA kB [(.double cx), (.double x1), (.double x2)] [(.double cw), (.double w1), (.double w2)] h0 n0 _ T188.heap _
    rw [e188]
    exact ⟨rfl, N188, K188, f190, V188⟩
set_option maxRecDepth 65536 in
set_option maxHeartbeats 40000000 in
theorem rmL1 (l : Launch) (Z : State) (a0 : Array Value) (hw : ∀ d ∈ tables_1, d.before a0 Z = true) (ws : List Jvm.Cond) (a : Addr) (ix : Int32) (cx : UInt64) (cw : UInt64) (A B : Addr) (kA kB : ClassId) (x0 x1 x2 w0 w1 w2 : UInt64) (h0 : Heap) (n0 : Nat) (Z0 : n0 ≤ h0.size) (hix : ix = (1 : Int32)) (FA : Fld Z h0 a "com/example/meticulous_ballot/meticulousballot/AbsorbingChain" "leaving" "[D" (.ref A)) (FB : Fld Z h0 a "com/example/meticulous_ballot/meticulousballot/AbsorbingChain" "worths" "[D" (.ref B)) (VA : Arv Z h0 A kA .double (3 : Int32) [(.double x0), (.double x1), (.double x2)] (.double (0 : UInt64))) (VB : Arv Z h0 B kB .double (3 : Int32) [(.double w0), (.double w1), (.double w2)] (.double (0 : UInt64))) (naA : a ≠ A) (naB : a ≠ B) (nAB : A ≠ B) (gA : n0 ≤ A) (gB : n0 ≤ B) :
    MetFree l (⟨"com/example/meticulous_ballot/meticulousballot/AbsorbingChain", "leave", "(IDD)V"⟩ : MethodName) (head1 (Jvm.Cond.code (⟨"com/example/meticulous_ballot/meticulousballot/AbsorbingChain", "leave", "(IDD)V"⟩ : MethodName) prog_1_method_2_code 6 none :: ws) ({ frames := 0, cells := 0, slots := 0, locals := 0 } : Room)) (fun α U => α = #[(.ref a), (.int ix), (.double cx), (.double cw)] ∧ Z.Warmed39 U.vm ∧ U.heap = h0) (fun _ _ _ _ _ => True) (fun _ U ω U' => ∃ ν Λ, ω = .returned ν ∧ QL Z A B kA kB [(.double x0), (.double cx), (.double x2)] [(.double w0), (.double cw), (.double w2)] h0 n0 ν U'.heap Λ ∧ FrameEnd U ω U' Λ ({ frames := 0, cells := 0, slots := 0, locals := 0 } : Room).cells ({ frames := 0, cells := 0, slots := 0, locals := 0 } : Room).slots) := by
  refine MetFree.of_bodySF (plainFor_of_name own_pn_com_example_meticulous_ballot_meticulousballot_AbsorbingChain) hisR ?_
  intro p e s m args below meth c s₁ Bd hml0 hP hK
  obtain ⟨rfl, hZ, hh⟩ := hP
  have hx := Bd.exec
  have hby := Bd.bytes
  have hml : c.maxLocals = 6 := hml0
  have hown : s.vm.findClass "com/example/meticulous_ballot/meticulousballot/AbsorbingChain" = some m.cls := findClass_of_methodNamed Bd.named
  have hnm := (name_of_methodNamed Bd.named Bd.method).1
  have X0 : Stand p l e ({ frames := 0, cells := 0, slots := 0, locals := 0 } : Room) s m #[(.ref a), (.int ix), (.double cx), (.double cw)] below meth c s₁ [] 0 0 := Stand.of_body Bd
  have e0 : s₁.heap = h0 := by rw [← hh, Bd.state]; rfl
  have N0 := Fr.nil n0
  have KK0 : Keep h0 h0 [A, B] := Keep.refl h0 [A, B]
  obtain ⟨PS, hPS⟩ : ∃ P : State → Prop, P = fun τ => Steps p.tables e below (s₁.setTop (entryFrame m #[(.ref a), (.int ix), (.double cx), (.double cw)] 6)) τ := ⟨_, rfl⟩
  have pre0 : ∀ τ, Steps p.tables e below (s₁.setTop (mkF m 0 #[.val (.ref a), .val (.int ix), .val (.double cx), .second, .val (.double cw), .second] [])) τ → PS τ := by rw [hPS]; exact fun τ κ => castTop (own_ef3 m a ix cx cw) κ
  subst hix
  obtain ⟨T191, X191, e191, st191⟩ := getF X0 hx hZ hown (host := "") (Or.inl (own_W10 hw)) Via.refl e0 FA (g := (mkF m 1 #[.val (.ref a), .val (.int (1 : Int32)), .val (.double cx), .second, .val (.double cw), .second] [(.ref a)])) rfl rfl (Jvm.hb hby d3_1)
  have pre192 := fun (τ : State) kt => pre0 τ (by
    show Steps p.tables e below (s₁.setTop (mkF m 0 #[.val (.ref a), .val (.int (1 : Int32)), .val (.double cx), .second, .val (.double cw), .second] [])) τ
    refine XS.aloadN X0.here hx rfl (Jvm.hb hby d3_0) rfl rfl ?_
    exact st191 τ kt)
  obtain ⟨cl193, Ar193, q193, S193, M193, H193, U193⟩ := id VA
  obtain ⟨T194, h194, X194, e194, W194, st194⟩ := own_stD X191 hx hZ e191 Ar193 (j := (1 : Int32)) (inb_of S193 ⟨by decide, by decide⟩) (g := (mkF m 6 #[.val (.ref a), .val (.int (1 : Int32)), .val (.double cx), .second, .val (.double cw), .second] [(.double cx), (.int (1 : Int32)), (.ref A)])) rfl rfl (Jvm.hb hby d3_6)
  have V194 : Arv Z h194 A kA .double (3 : Int32) [(.double x0), (.double cx), (.double x2)] (.double (0 : UInt64)) := Arv.set Ar193 q193 S193 M193 H193 U193 rfl W194 1 rfl (Nat.le_of_ble_eq_true rfl)
  have N194 := Fr.snoc X194 N0 gA
  have K194 : Keep h0 h194 [A, B] := KK0.wr W194 (Or.inl (by simp))
  have pre195 := fun (τ : State) kt => pre192 τ (by
    show Steps p.tables e below (T191.setTop (mkF m 4 #[.val (.ref a), .val (.int (1 : Int32)), .val (.double cx), .second, .val (.double cw), .second] [(.ref A)])) τ
    refine XS.iloadN X191.here hx rfl (Jvm.hb hby d3_4) rfl ?_
    refine own_dloadN X191.here hx rfl (Jvm.hb hby d3_5) rfl ?_
    exact st194 τ kt)
  have f197 := (FB.other W194 (Or.inl naA))
  obtain ⟨T196, X196, e196, st196⟩ := getF X194 hx hZ hown (host := "") (Or.inl (own_W12 hw)) Via.refl e194 f197 (g := (mkF m 8 #[.val (.ref a), .val (.int (1 : Int32)), .val (.double cx), .second, .val (.double cw), .second] [(.ref a)])) rfl rfl (Jvm.hb hby d3_8)
  have pre198 := fun (τ : State) kt => pre195 τ (by
    show Steps p.tables e below (T194.setTop (mkF m 7 #[.val (.ref a), .val (.int (1 : Int32)), .val (.double cx), .second, .val (.double cw), .second] [])) τ
    refine XS.aloadN X194.here hx rfl (Jvm.hb hby d3_7) rfl rfl ?_
    exact st196 τ kt)
  have f199 := VB.other W194 (Ne.symm nAB)
  obtain ⟨cl200, Ar200, q200, S200, M200, H200, U200⟩ := id f199
  obtain ⟨T201, h201, X201, e201, W201, st201⟩ := own_stD X196 hx hZ e196 Ar200 (j := (1 : Int32)) (inb_of S200 ⟨by decide, by decide⟩) (g := (mkF m 14 #[.val (.ref a), .val (.int (1 : Int32)), .val (.double cx), .second, .val (.double cw), .second] [(.double cw), (.int (1 : Int32)), (.ref B)])) rfl rfl (Jvm.hb hby d3_14)
  have V201 : Arv Z h201 B kB .double (3 : Int32) [(.double w0), (.double cw), (.double w2)] (.double (0 : UInt64)) := Arv.set Ar200 q200 S200 M200 H200 U200 rfl W201 1 rfl (Nat.le_of_ble_eq_true rfl)
  have N201 := Fr.snoc X201 N194 gB
  have K201 : Keep h0 h201 [A, B] := K194.wr W201 (Or.inl (by simp))
  have pre202 := fun (τ : State) kt => pre198 τ (by
    show Steps p.tables e below (T196.setTop (mkF m 11 #[.val (.ref a), .val (.int (1 : Int32)), .val (.double cx), .second, .val (.double cw), .second] [(.ref B)])) τ
    refine XS.iloadN X196.here hx rfl (Jvm.hb hby d3_11) rfl ?_
    refine own_dload X196.here hx rfl (Jvm.hb hby d3_12) rfl ?_
    exact st201 τ kt)
  have f203 := V194.other W201 nAB
  obtain ⟨fs, hrL, hrun, hended, hW, hsame⟩ := X201.leave (v := none) (fun _ => rfl)
  refine ⟨_, _, cast (congrFun hPS _) (pre202 _ ?_), hrun, hended, _, _, rfl, ?_, ⟨_, rfl⟩, hW, hsame.mono (by decide) (by decide)⟩
  · show Steps p.tables e below (T201.setTop (mkF m 15 #[.val (.ref a), .val (.int (1 : Int32)), .val (.double cx), .second, .val (.double cw), .second] [])) _
    exact X201.returnOut hx Bd.returns (Jvm.hb hby d3_15) hrL
  · show QL Z A B kA kB [(.double x0), (.double cx), (.double x2)] [(.double w0), (.double cw), (.double w2)] h0 n0 _ T201.heap _
    rw [e201]
    exact ⟨rfl, N201, K201, f203, V201⟩
set_option maxRecDepth 65536 in
set_option maxHeartbeats 40000000 in
theorem rmL2 (l : Launch) (Z : State) (a0 : Array Value) (hw : ∀ d ∈ tables_1, d.before a0 Z = true) (ws : List Jvm.Cond) (a : Addr) (ix : Int32) (cx : UInt64) (cw : UInt64) (A B : Addr) (kA kB : ClassId) (x0 x1 x2 w0 w1 w2 : UInt64) (h0 : Heap) (n0 : Nat) (Z0 : n0 ≤ h0.size) (hix : ix = (2 : Int32)) (FA : Fld Z h0 a "com/example/meticulous_ballot/meticulousballot/AbsorbingChain" "leaving" "[D" (.ref A)) (FB : Fld Z h0 a "com/example/meticulous_ballot/meticulousballot/AbsorbingChain" "worths" "[D" (.ref B)) (VA : Arv Z h0 A kA .double (3 : Int32) [(.double x0), (.double x1), (.double x2)] (.double (0 : UInt64))) (VB : Arv Z h0 B kB .double (3 : Int32) [(.double w0), (.double w1), (.double w2)] (.double (0 : UInt64))) (naA : a ≠ A) (naB : a ≠ B) (nAB : A ≠ B) (gA : n0 ≤ A) (gB : n0 ≤ B) :
    MetFree l (⟨"com/example/meticulous_ballot/meticulousballot/AbsorbingChain", "leave", "(IDD)V"⟩ : MethodName) (head1 (Jvm.Cond.code (⟨"com/example/meticulous_ballot/meticulousballot/AbsorbingChain", "leave", "(IDD)V"⟩ : MethodName) prog_1_method_2_code 6 none :: ws) ({ frames := 0, cells := 0, slots := 0, locals := 0 } : Room)) (fun α U => α = #[(.ref a), (.int ix), (.double cx), (.double cw)] ∧ Z.Warmed39 U.vm ∧ U.heap = h0) (fun _ _ _ _ _ => True) (fun _ U ω U' => ∃ ν Λ, ω = .returned ν ∧ QL Z A B kA kB [(.double x0), (.double x1), (.double cx)] [(.double w0), (.double w1), (.double cw)] h0 n0 ν U'.heap Λ ∧ FrameEnd U ω U' Λ ({ frames := 0, cells := 0, slots := 0, locals := 0 } : Room).cells ({ frames := 0, cells := 0, slots := 0, locals := 0 } : Room).slots) := by
  refine MetFree.of_bodySF (plainFor_of_name own_pn_com_example_meticulous_ballot_meticulousballot_AbsorbingChain) hisR ?_
  intro p e s m args below meth c s₁ Bd hml0 hP hK
  obtain ⟨rfl, hZ, hh⟩ := hP
  have hx := Bd.exec
  have hby := Bd.bytes
  have hml : c.maxLocals = 6 := hml0
  have hown : s.vm.findClass "com/example/meticulous_ballot/meticulousballot/AbsorbingChain" = some m.cls := findClass_of_methodNamed Bd.named
  have hnm := (name_of_methodNamed Bd.named Bd.method).1
  have X0 : Stand p l e ({ frames := 0, cells := 0, slots := 0, locals := 0 } : Room) s m #[(.ref a), (.int ix), (.double cx), (.double cw)] below meth c s₁ [] 0 0 := Stand.of_body Bd
  have e0 : s₁.heap = h0 := by rw [← hh, Bd.state]; rfl
  have N0 := Fr.nil n0
  have KK0 : Keep h0 h0 [A, B] := Keep.refl h0 [A, B]
  obtain ⟨PS, hPS⟩ : ∃ P : State → Prop, P = fun τ => Steps p.tables e below (s₁.setTop (entryFrame m #[(.ref a), (.int ix), (.double cx), (.double cw)] 6)) τ := ⟨_, rfl⟩
  have pre0 : ∀ τ, Steps p.tables e below (s₁.setTop (mkF m 0 #[.val (.ref a), .val (.int ix), .val (.double cx), .second, .val (.double cw), .second] [])) τ → PS τ := by rw [hPS]; exact fun τ κ => castTop (own_ef3 m a ix cx cw) κ
  subst hix
  obtain ⟨T204, X204, e204, st204⟩ := getF X0 hx hZ hown (host := "") (Or.inl (own_W10 hw)) Via.refl e0 FA (g := (mkF m 1 #[.val (.ref a), .val (.int (2 : Int32)), .val (.double cx), .second, .val (.double cw), .second] [(.ref a)])) rfl rfl (Jvm.hb hby d3_1)
  have pre205 := fun (τ : State) kt => pre0 τ (by
    show Steps p.tables e below (s₁.setTop (mkF m 0 #[.val (.ref a), .val (.int (2 : Int32)), .val (.double cx), .second, .val (.double cw), .second] [])) τ
    refine XS.aloadN X0.here hx rfl (Jvm.hb hby d3_0) rfl rfl ?_
    exact st204 τ kt)
  obtain ⟨cl206, Ar206, q206, S206, M206, H206, U206⟩ := id VA
  obtain ⟨T207, h207, X207, e207, W207, st207⟩ := own_stD X204 hx hZ e204 Ar206 (j := (2 : Int32)) (inb_of S206 ⟨by decide, by decide⟩) (g := (mkF m 6 #[.val (.ref a), .val (.int (2 : Int32)), .val (.double cx), .second, .val (.double cw), .second] [(.double cx), (.int (2 : Int32)), (.ref A)])) rfl rfl (Jvm.hb hby d3_6)
  have V207 : Arv Z h207 A kA .double (3 : Int32) [(.double x0), (.double x1), (.double cx)] (.double (0 : UInt64)) := Arv.set Ar206 q206 S206 M206 H206 U206 rfl W207 2 rfl (Nat.le_of_ble_eq_true rfl)
  have N207 := Fr.snoc X207 N0 gA
  have K207 : Keep h0 h207 [A, B] := KK0.wr W207 (Or.inl (by simp))
  have pre208 := fun (τ : State) kt => pre205 τ (by
    show Steps p.tables e below (T204.setTop (mkF m 4 #[.val (.ref a), .val (.int (2 : Int32)), .val (.double cx), .second, .val (.double cw), .second] [(.ref A)])) τ
    refine XS.iloadN X204.here hx rfl (Jvm.hb hby d3_4) rfl ?_
    refine own_dloadN X204.here hx rfl (Jvm.hb hby d3_5) rfl ?_
    exact st207 τ kt)
  have f210 := (FB.other W207 (Or.inl naA))
  obtain ⟨T209, X209, e209, st209⟩ := getF X207 hx hZ hown (host := "") (Or.inl (own_W12 hw)) Via.refl e207 f210 (g := (mkF m 8 #[.val (.ref a), .val (.int (2 : Int32)), .val (.double cx), .second, .val (.double cw), .second] [(.ref a)])) rfl rfl (Jvm.hb hby d3_8)
  have pre211 := fun (τ : State) kt => pre208 τ (by
    show Steps p.tables e below (T207.setTop (mkF m 7 #[.val (.ref a), .val (.int (2 : Int32)), .val (.double cx), .second, .val (.double cw), .second] [])) τ
    refine XS.aloadN X207.here hx rfl (Jvm.hb hby d3_7) rfl rfl ?_
    exact st209 τ kt)
  have f212 := VB.other W207 (Ne.symm nAB)
  obtain ⟨cl213, Ar213, q213, S213, M213, H213, U213⟩ := id f212
  obtain ⟨T214, h214, X214, e214, W214, st214⟩ := own_stD X209 hx hZ e209 Ar213 (j := (2 : Int32)) (inb_of S213 ⟨by decide, by decide⟩) (g := (mkF m 14 #[.val (.ref a), .val (.int (2 : Int32)), .val (.double cx), .second, .val (.double cw), .second] [(.double cw), (.int (2 : Int32)), (.ref B)])) rfl rfl (Jvm.hb hby d3_14)
  have V214 : Arv Z h214 B kB .double (3 : Int32) [(.double w0), (.double w1), (.double cw)] (.double (0 : UInt64)) := Arv.set Ar213 q213 S213 M213 H213 U213 rfl W214 2 rfl (Nat.le_of_ble_eq_true rfl)
  have N214 := Fr.snoc X214 N207 gB
  have K214 : Keep h0 h214 [A, B] := K207.wr W214 (Or.inl (by simp))
  have pre215 := fun (τ : State) kt => pre211 τ (by
    show Steps p.tables e below (T209.setTop (mkF m 11 #[.val (.ref a), .val (.int (2 : Int32)), .val (.double cx), .second, .val (.double cw), .second] [(.ref B)])) τ
    refine XS.iloadN X209.here hx rfl (Jvm.hb hby d3_11) rfl ?_
    refine own_dload X209.here hx rfl (Jvm.hb hby d3_12) rfl ?_
    exact st214 τ kt)
  have f216 := V207.other W214 nAB
  obtain ⟨fs, hrL, hrun, hended, hW, hsame⟩ := X214.leave (v := none) (fun _ => rfl)
  refine ⟨_, _, cast (congrFun hPS _) (pre215 _ ?_), hrun, hended, _, _, rfl, ?_, ⟨_, rfl⟩, hW, hsame.mono (by decide) (by decide)⟩
  · show Steps p.tables e below (T214.setTop (mkF m 15 #[.val (.ref a), .val (.int (2 : Int32)), .val (.double cx), .second, .val (.double cw), .second] [])) _
    exact X214.returnOut hx Bd.returns (Jvm.hb hby d3_15) hrL
  · show QL Z A B kA kB [(.double x0), (.double x1), (.double cx)] [(.double w0), (.double w1), (.double cw)] h0 n0 _ T214.heap _
    rw [e214]
    exact ⟨rfl, N214, K214, f216, V214⟩
def QS (Z : State) (r0 r1 r2 : UInt64) (h0 : Heap) (n0 : Nat) (v : Option Value) (h : Heap) (L : List Loc) : Prop := ∃ (b : Addr) (kb : ClassId), v = some (.ref b) ∧ Fr n0 L ∧ Keep h0 h [] ∧ n0 ≤ b ∧ h0.size ≤ b ∧ Arv Z h b kb .double (3 : Int32) [(.double r0), (.double r1), (.double r2)] (.double (0 : UInt64))
theorem d4_0 : decode prog_1_method_4_code 0 = .ok (.aload_n 0, 1) := by decide +kernel
theorem d4_1 : decode prog_1_method_4_code 1 = .ok (.getfield 7, 3) := by decide +kernel
theorem d4_4 : decode prog_1_method_4_code 4 = .ok (.arraylength, 1) := by decide +kernel
theorem d4_5 : decode prog_1_method_4_code 5 = .ok (.istore_n 1, 1) := by decide +kernel
theorem d4_6 : decode prog_1_method_4_code 6 = .ok (.iload_n 1, 1) := by decide +kernel
theorem d4_7 : decode prog_1_method_4_code 7 = .ok (.newarray .double, 2) := by decide +kernel
theorem d4_9 : decode prog_1_method_4_code 9 = .ok (.astore_n 2, 1) := by decide +kernel
theorem d4_10 : decode prog_1_method_4_code 10 = .ok (.iload_n 1, 1) := by decide +kernel
theorem d4_11 : decode prog_1_method_4_code 11 = .ok (.newarray .int, 2) := by decide +kernel
theorem d4_13 : decode prog_1_method_4_code 13 = .ok (.astore_n 3, 1) := by decide +kernel
theorem d4_14 : decode prog_1_method_4_code 14 = .ok (.aload_n 3, 1) := by decide +kernel
theorem d4_15 : decode prog_1_method_4_code 15 = .ok (.iconst (-1), 1) := by decide +kernel
theorem d4_16 : decode prog_1_method_4_code 16 = .ok (.invokestatic 40, 3) := by decide +kernel
theorem d4_19 : decode prog_1_method_4_code 19 = .ok (.iconst 0, 1) := by decide +kernel
theorem d4_20 : decode prog_1_method_4_code 20 = .ok (.istore 4, 2) := by decide +kernel
theorem d4_22 : decode prog_1_method_4_code 22 = .ok (.iload 4, 2) := by decide +kernel
theorem d4_24 : decode prog_1_method_4_code 24 = .ok (.iload_n 1, 1) := by decide +kernel
theorem d4_25 : decode prog_1_method_4_code 25 = .ok (.if_icmp .ge 128, 3) := by decide +kernel
theorem d4_28 : decode prog_1_method_4_code 28 = .ok (.new 46, 3) := by decide +kernel
theorem d4_31 : decode prog_1_method_4_code 31 = .ok (.dup, 1) := by decide +kernel
theorem d4_32 : decode prog_1_method_4_code 32 = .ok (.invokespecial 48, 3) := by decide +kernel
theorem d4_35 : decode prog_1_method_4_code 35 = .ok (.astore 5, 2) := by decide +kernel
theorem d4_37 : decode prog_1_method_4_code 37 = .ok (.aload 5, 2) := by decide +kernel
theorem d4_39 : decode prog_1_method_4_code 39 = .ok (.aload_n 0, 1) := by decide +kernel
theorem d4_40 : decode prog_1_method_4_code 40 = .ok (.getfield 7, 3) := by decide +kernel
theorem d4_43 : decode prog_1_method_4_code 43 = .ok (.iload 4, 2) := by decide +kernel
theorem d4_45 : decode prog_1_method_4_code 45 = .ok (.daload, 1) := by decide +kernel
theorem d4_46 : decode prog_1_method_4_code 46 = .ok (.invokevirtual 49, 3) := by decide +kernel
theorem d4_49 : decode prog_1_method_4_code 49 = .ok (.iconst 0, 1) := by decide +kernel
theorem d4_50 : decode prog_1_method_4_code 50 = .ok (.istore 6, 2) := by decide +kernel
theorem d4_52 : decode prog_1_method_4_code 52 = .ok (.iload 6, 2) := by decide +kernel
theorem d4_54 : decode prog_1_method_4_code 54 = .ok (.aload_n 0, 1) := by decide +kernel
theorem d4_55 : decode prog_1_method_4_code 55 = .ok (.getfield 26, 3) := by decide +kernel
theorem d4_58 : decode prog_1_method_4_code 58 = .ok (.iload 4, 2) := by decide +kernel
theorem d4_60 : decode prog_1_method_4_code 60 = .ok (.iaload, 1) := by decide +kernel
theorem d4_61 : decode prog_1_method_4_code 61 = .ok (.if_icmp .ge 24, 3) := by decide +kernel
theorem d4_64 : decode prog_1_method_4_code 64 = .ok (.aload 5, 2) := by decide +kernel
theorem d4_66 : decode prog_1_method_4_code 66 = .ok (.aload_n 0, 1) := by decide +kernel
theorem d4_67 : decode prog_1_method_4_code 67 = .ok (.getfield 23, 3) := by decide +kernel
theorem d4_70 : decode prog_1_method_4_code 70 = .ok (.iload 4, 2) := by decide +kernel
theorem d4_72 : decode prog_1_method_4_code 72 = .ok (.aaload, 1) := by decide +kernel
theorem d4_73 : decode prog_1_method_4_code 73 = .ok (.iload 6, 2) := by decide +kernel
theorem d4_75 : decode prog_1_method_4_code 75 = .ok (.daload, 1) := by decide +kernel
theorem d4_76 : decode prog_1_method_4_code 76 = .ok (.invokevirtual 49, 3) := by decide +kernel
theorem d4_79 : decode prog_1_method_4_code 79 = .ok (.iinc 6 1, 3) := by decide +kernel
theorem d4_82 : decode prog_1_method_4_code 82 = .ok (.goto (-30), 3) := by decide +kernel
theorem d4_85 : decode prog_1_method_4_code 85 = .ok (.aload_n 2, 1) := by decide +kernel
theorem d4_86 : decode prog_1_method_4_code 86 = .ok (.iload 4, 2) := by decide +kernel
theorem d4_88 : decode prog_1_method_4_code 88 = .ok (.aload 5, 2) := by decide +kernel
theorem d4_90 : decode prog_1_method_4_code 90 = .ok (.invokevirtual 53, 3) := by decide +kernel
theorem d4_93 : decode prog_1_method_4_code 93 = .ok (.dastore, 1) := by decide +kernel
theorem d4_94 : decode prog_1_method_4_code 94 = .ok (.iconst 0, 1) := by decide +kernel
theorem d4_95 : decode prog_1_method_4_code 95 = .ok (.istore 6, 2) := by decide +kernel
theorem d4_97 : decode prog_1_method_4_code 97 = .ok (.iload 6, 2) := by decide +kernel
theorem d4_99 : decode prog_1_method_4_code 99 = .ok (.aload_n 0, 1) := by decide +kernel
theorem d4_100 : decode prog_1_method_4_code 100 = .ok (.getfield 33, 3) := by decide +kernel
theorem d4_103 : decode prog_1_method_4_code 103 = .ok (.iload 4, 2) := by decide +kernel
theorem d4_105 : decode prog_1_method_4_code 105 = .ok (.iaload, 1) := by decide +kernel
theorem d4_106 : decode prog_1_method_4_code 106 = .ok (.if_icmp .ge 41, 3) := by decide +kernel
theorem d4_109 : decode prog_1_method_4_code 109 = .ok (.aload_n 0, 1) := by decide +kernel
theorem d4_110 : decode prog_1_method_4_code 110 = .ok (.getfield 30, 3) := by decide +kernel
theorem d4_113 : decode prog_1_method_4_code 113 = .ok (.iload 4, 2) := by decide +kernel
theorem d4_115 : decode prog_1_method_4_code 115 = .ok (.aaload, 1) := by decide +kernel
theorem d4_116 : decode prog_1_method_4_code 116 = .ok (.iload 6, 2) := by decide +kernel
theorem d4_118 : decode prog_1_method_4_code 118 = .ok (.iaload, 1) := by decide +kernel
theorem d4_119 : decode prog_1_method_4_code 119 = .ok (.istore 7, 2) := by decide +kernel
theorem d4_121 : decode prog_1_method_4_code 121 = .ok (.iload 7, 2) := by decide +kernel
theorem d4_123 : decode prog_1_method_4_code 123 = .ok (.iload 4, 2) := by decide +kernel
theorem d4_125 : decode prog_1_method_4_code 125 = .ok (.if_icmp .le 16, 3) := by decide +kernel
theorem d4_128 : decode prog_1_method_4_code 128 = .ok (.aload_n 0, 1) := by decide +kernel
theorem d4_129 : decode prog_1_method_4_code 129 = .ok (.iload 7, 2) := by decide +kernel
theorem d4_131 : decode prog_1_method_4_code 131 = .ok (.iload 4, 2) := by decide +kernel
theorem d4_133 : decode prog_1_method_4_code 133 = .ok (.aload_n 2, 1) := by decide +kernel
theorem d4_134 : decode prog_1_method_4_code 134 = .ok (.iload 4, 2) := by decide +kernel
theorem d4_136 : decode prog_1_method_4_code 136 = .ok (.daload, 1) := by decide +kernel
theorem d4_137 : decode prog_1_method_4_code 137 = .ok (.aload_n 3, 1) := by decide +kernel
theorem d4_138 : decode prog_1_method_4_code 138 = .ok (.invokevirtual 57, 3) := by decide +kernel
theorem d4_141 : decode prog_1_method_4_code 141 = .ok (.iinc 6 1, 3) := by decide +kernel
theorem d4_144 : decode prog_1_method_4_code 144 = .ok (.goto (-47), 3) := by decide +kernel
theorem d4_147 : decode prog_1_method_4_code 147 = .ok (.iinc 4 1, 3) := by decide +kernel
theorem d4_150 : decode prog_1_method_4_code 150 = .ok (.goto (-128), 3) := by decide +kernel
theorem d4_153 : decode prog_1_method_4_code 153 = .ok (.iload_n 1, 1) := by decide +kernel
theorem d4_154 : decode prog_1_method_4_code 154 = .ok (.newarray .double, 2) := by decide +kernel
theorem d4_156 : decode prog_1_method_4_code 156 = .ok (.astore 4, 2) := by decide +kernel
theorem d4_158 : decode prog_1_method_4_code 158 = .ok (.iload_n 1, 1) := by decide +kernel
theorem d4_159 : decode prog_1_method_4_code 159 = .ok (.iconst 1, 1) := by decide +kernel
theorem d4_160 : decode prog_1_method_4_code 160 = .ok (.isub, 1) := by decide +kernel
theorem d4_161 : decode prog_1_method_4_code 161 = .ok (.istore 5, 2) := by decide +kernel
theorem d4_163 : decode prog_1_method_4_code 163 = .ok (.iload 5, 2) := by decide +kernel
theorem d4_165 : decode prog_1_method_4_code 165 = .ok (.ifCond .lt 95, 3) := by decide +kernel
theorem d4_168 : decode prog_1_method_4_code 168 = .ok (.new 46, 3) := by decide +kernel
theorem d4_171 : decode prog_1_method_4_code 171 = .ok (.dup, 1) := by decide +kernel
theorem d4_172 : decode prog_1_method_4_code 172 = .ok (.invokespecial 48, 3) := by decide +kernel
theorem d4_175 : decode prog_1_method_4_code 175 = .ok (.astore 6, 2) := by decide +kernel
theorem d4_177 : decode prog_1_method_4_code 177 = .ok (.aload 6, 2) := by decide +kernel
theorem d4_179 : decode prog_1_method_4_code 179 = .ok (.aload_n 0, 1) := by decide +kernel
theorem d4_180 : decode prog_1_method_4_code 180 = .ok (.getfield 13, 3) := by decide +kernel
theorem d4_183 : decode prog_1_method_4_code 183 = .ok (.iload 5, 2) := by decide +kernel
theorem d4_185 : decode prog_1_method_4_code 185 = .ok (.daload, 1) := by decide +kernel
theorem d4_186 : decode prog_1_method_4_code 186 = .ok (.invokevirtual 49, 3) := by decide +kernel
theorem d4_189 : decode prog_1_method_4_code 189 = .ok (.iconst 0, 1) := by decide +kernel
theorem d4_190 : decode prog_1_method_4_code 190 = .ok (.istore 7, 2) := by decide +kernel
theorem d4_192 : decode prog_1_method_4_code 192 = .ok (.iload 7, 2) := by decide +kernel
theorem d4_194 : decode prog_1_method_4_code 194 = .ok (.aload_n 0, 1) := by decide +kernel
theorem d4_195 : decode prog_1_method_4_code 195 = .ok (.getfield 26, 3) := by decide +kernel
theorem d4_198 : decode prog_1_method_4_code 198 = .ok (.iload 5, 2) := by decide +kernel
theorem d4_200 : decode prog_1_method_4_code 200 = .ok (.iaload, 1) := by decide +kernel
theorem d4_201 : decode prog_1_method_4_code 201 = .ok (.if_icmp .ge 38, 3) := by decide +kernel
theorem d4_204 : decode prog_1_method_4_code 204 = .ok (.aload 6, 2) := by decide +kernel
theorem d4_206 : decode prog_1_method_4_code 206 = .ok (.aload_n 0, 1) := by decide +kernel
theorem d4_207 : decode prog_1_method_4_code 207 = .ok (.getfield 23, 3) := by decide +kernel
theorem d4_210 : decode prog_1_method_4_code 210 = .ok (.iload 5, 2) := by decide +kernel
theorem d4_212 : decode prog_1_method_4_code 212 = .ok (.aaload, 1) := by decide +kernel
theorem d4_213 : decode prog_1_method_4_code 213 = .ok (.iload 7, 2) := by decide +kernel
theorem d4_215 : decode prog_1_method_4_code 215 = .ok (.daload, 1) := by decide +kernel
theorem d4_216 : decode prog_1_method_4_code 216 = .ok (.aload 4, 2) := by decide +kernel
theorem d4_218 : decode prog_1_method_4_code 218 = .ok (.aload_n 0, 1) := by decide +kernel
theorem d4_219 : decode prog_1_method_4_code 219 = .ok (.getfield 18, 3) := by decide +kernel
theorem d4_222 : decode prog_1_method_4_code 222 = .ok (.iload 5, 2) := by decide +kernel
theorem d4_224 : decode prog_1_method_4_code 224 = .ok (.aaload, 1) := by decide +kernel
theorem d4_225 : decode prog_1_method_4_code 225 = .ok (.iload 7, 2) := by decide +kernel
theorem d4_227 : decode prog_1_method_4_code 227 = .ok (.iaload, 1) := by decide +kernel
theorem d4_228 : decode prog_1_method_4_code 228 = .ok (.daload, 1) := by decide +kernel
theorem d4_229 : decode prog_1_method_4_code 229 = .ok (.dmul, 1) := by decide +kernel
theorem d4_230 : decode prog_1_method_4_code 230 = .ok (.invokevirtual 49, 3) := by decide +kernel
theorem d4_233 : decode prog_1_method_4_code 233 = .ok (.iinc 7 1, 3) := by decide +kernel
theorem d4_236 : decode prog_1_method_4_code 236 = .ok (.goto (-44), 3) := by decide +kernel
theorem d4_239 : decode prog_1_method_4_code 239 = .ok (.aload 4, 2) := by decide +kernel
theorem d4_241 : decode prog_1_method_4_code 241 = .ok (.iload 5, 2) := by decide +kernel
theorem d4_243 : decode prog_1_method_4_code 243 = .ok (.aload 6, 2) := by decide +kernel
theorem d4_245 : decode prog_1_method_4_code 245 = .ok (.invokevirtual 53, 3) := by decide +kernel
theorem d4_248 : decode prog_1_method_4_code 248 = .ok (.aload_n 2, 1) := by decide +kernel
theorem d4_249 : decode prog_1_method_4_code 249 = .ok (.iload 5, 2) := by decide +kernel
theorem d4_251 : decode prog_1_method_4_code 251 = .ok (.daload, 1) := by decide +kernel
theorem d4_252 : decode prog_1_method_4_code 252 = .ok (.ddiv, 1) := by decide +kernel
theorem d4_253 : decode prog_1_method_4_code 253 = .ok (.dastore, 1) := by decide +kernel
theorem d4_254 : decode prog_1_method_4_code 254 = .ok (.iinc 5 (-1), 3) := by decide +kernel
theorem d4_257 : decode prog_1_method_4_code 257 = .ok (.goto (-94), 3) := by decide +kernel
theorem d4_260 : decode prog_1_method_4_code 260 = .ok (.aload 4, 2) := by decide +kernel
theorem d4_262 : decode prog_1_method_4_code 262 = .ok (.areturn, 1) := by decide +kernel
theorem own_ef4 (m : MethodId) (x0 : Addr) : entryFrame m #[(.ref x0)] 8 = mkF m 0 #[.val (.ref x0), .unset, .unset, .unset, .unset, .unset, .unset, .unset] [] := by first | (simp [entryFrame, mkF, argsToLocals, Value.category]; done) | rfl
set_option maxRecDepth 65536 in
set_option maxHeartbeats 40000000 in
theorem rmS (l : Launch) (Z : State) (a0 : Array Value) (hw : ∀ d ∈ tables_1, d.before a0 Z = true) (ws : List Jvm.Cond) (a : Addr) (A B Cn Dn : Addr) (kA kB kC kD : ClassId) (x0 x1 x2 w0 w1 w2 : UInt64) (h0 : Heap) (n0 : Nat) (Z0 : n0 ≤ h0.size) (E7 : Exa Z h0 a "com/example/meticulous_ballot/meticulousballot/AbsorbingChain") (FA : Fld Z h0 a "com/example/meticulous_ballot/meticulousballot/AbsorbingChain" "leaving" "[D" (.ref A)) (FB : Fld Z h0 a "com/example/meticulous_ballot/meticulousballot/AbsorbingChain" "worths" "[D" (.ref B)) (FCn : Fld Z h0 a "com/example/meticulous_ballot/meticulousballot/AbsorbingChain" "linkCounts" "[I" (.ref Cn)) (FDn : Fld Z h0 a "com/example/meticulous_ballot/meticulousballot/AbsorbingChain" "linkedFromCounts" "[I" (.ref Dn)) (VA : Arv Z h0 A kA .double (3 : Int32) [(.double x0), (.double x1), (.double x2)] (.double (0 : UInt64))) (VB : Arv Z h0 B kB .double (3 : Int32) [(.double w0), (.double w1), (.double w2)] (.double (0 : UInt64))) (VCn : Arv Z h0 Cn kC .int (3 : Int32) [(.int (0 : Int32)), (.int (0 : Int32)), (.int (0 : Int32))] (.int (0 : Int32))) (VDn : Arv Z h0 Dn kD .int (3 : Int32) [(.int (0 : Int32)), (.int (0 : Int32)), (.int (0 : Int32))] (.int (0 : Int32))) (neaA : a ≠ A) (neaB : a ≠ B) (neaCn : a ≠ Cn) (neaDn : a ≠ Dn) (neAB : A ≠ B) (neACn : A ≠ Cn) (neADn : A ≠ Dn) (neBCn : B ≠ Cn) (neBDn : B ≠ Dn) (neCnDn : Cn ≠ Dn) (cc0 : own_cw x0 w0) (cc1 : own_cw x1 w1) (cc2 : own_cw x2 w2) :
    MetFree l (⟨"com/example/meticulous_ballot/meticulousballot/AbsorbingChain", "solve", "()[D"⟩ : MethodName) (head1 (Jvm.Cond.code (⟨"com/example/meticulous_ballot/meticulousballot/AbsorbingChain", "solve", "()[D"⟩ : MethodName) prog_1_method_4_code 8 (some (.array .double)) :: ws) ({ frames := 3, cells := 9, slots := 21, locals := 60 } : Room)) (fun α U => α = #[(.ref a)] ∧ Z.Warmed39 U.vm ∧ U.heap = h0) (fun _ _ _ _ _ => True) (fun _ U ω U' => ∃ ν Λ, ω = .returned ν ∧ QS Z (FP.ddiv w0 x0) (FP.ddiv w1 x1) (FP.ddiv w2 x2) h0 n0 ν U'.heap Λ ∧ FrameEnd U ω U' Λ ({ frames := 3, cells := 9, slots := 21, locals := 60 } : Room).cells ({ frames := 3, cells := 9, slots := 21, locals := 60 } : Room).slots) := by
  refine MetFree.of_bodySF (plainFor_of_name own_pn_com_example_meticulous_ballot_meticulousballot_AbsorbingChain) hisR ?_
  intro p e s m args below meth c s₁ Bd hml0 hP hK
  obtain ⟨rfl, hZ, hh⟩ := hP
  have hx := Bd.exec
  have hby := Bd.bytes
  have hml : c.maxLocals = 8 := hml0
  have hown : s.vm.findClass "com/example/meticulous_ballot/meticulousballot/AbsorbingChain" = some m.cls := findClass_of_methodNamed Bd.named
  have hnm := (name_of_methodNamed Bd.named Bd.method).1
  have X0 : Stand p l e ({ frames := 3, cells := 9, slots := 21, locals := 60 } : Room) s m #[(.ref a)] below meth c s₁ [] 0 0 := Stand.of_body Bd
  have e0 : s₁.heap = h0 := by rw [← hh, Bd.state]; rfl
  have N0 := Fr.nil n0
  have KK0 : Keep h0 h0 [] := Keep.refl h0 []
  obtain ⟨PS, hPS⟩ : ∃ P : State → Prop, P = fun τ => Steps p.tables e below (s₁.setTop (entryFrame m #[(.ref a)] 8)) τ := ⟨_, rfl⟩
  have pre0 : ∀ τ, Steps p.tables e below (s₁.setTop (mkF m 0 #[.val (.ref a), .unset, .unset, .unset, .unset, .unset, .unset, .unset] [])) τ → PS τ := by rw [hPS]; exact fun τ κ => castTop (own_ef4 m a) κ
  obtain ⟨T217, X217, e217, st217⟩ := getF X0 hx hZ hown (host := "") (Or.inl (own_W10 hw)) Via.refl e0 FA (g := (mkF m 1 #[.val (.ref a), .unset, .unset, .unset, .unset, .unset, .unset, .unset] [(.ref a)])) rfl rfl (Jvm.hb hby d4_1)
  have pre218 := fun (τ : State) kt => pre0 τ (by
    show Steps p.tables e below (s₁.setTop (mkF m 0 #[.val (.ref a), .unset, .unset, .unset, .unset, .unset, .unset, .unset] [])) τ
    refine XS.aloadN X0.here hx rfl (Jvm.hb hby d4_0) rfl rfl ?_
    exact st217 τ kt)
  obtain ⟨cl219, Ar219, q219, S219, M219, H219, U219⟩ := id VA
  have pre220 := fun (τ : State) kt => pre218 τ (by
    show Steps p.tables e below (T217.setTop (mkF m 4 #[.val (.ref a), .unset, .unset, .unset, .unset, .unset, .unset, .unset] [(.ref A)])) τ
    refine X217.arraylength hx ((congrArg (fun (HH : Heap) => HH[A]?) (e217 : T217.heap = h0)).trans Ar219.1) (State.isArrayOf_alike hZ.alike Ar219.2.1) (g := (mkF m 4 #[.val (.ref a), .unset, .unset, .unset, .unset, .unset, .unset, .unset] [(.ref A)])) rfl rfl (Jvm.hb hby d4_4) _ ?_
    exact kt)
  have pre221 : ∀ τ, Steps p.tables e below (T217.setTop (mkF m 5 #[.val (.ref a), .unset, .unset, .unset, .unset, .unset, .unset, .unset] [(.int (3 : Int32))])) τ → PS τ := by rw [← len_of S219 M219]; exact pre220
  obtain ⟨T222, h222, k222, X222, e222, E222, A222, st222⟩ := newP (aty := .double) X217 hx hZ (own_W9 hw) e217 (g := (mkF m 7 #[.val (.ref a), .val (.int (3 : Int32)), .unset, .unset, .unset, .unset, .unset, .unset] [(.int (3 : Int32))])) rfl (Jvm.hb hby d4_7) rfl (by decide) (cap := 3) (by decide) (by decide) (by decide) (by decide)
  obtain ⟨on, g222⟩ : ∃ z, z = h0.size := ⟨_, rfl⟩
  rw [← g222] at A222 st222
  have ne_a_on : a ≠ on := Nat.ne_of_lt (Nat.lt_of_lt_of_le E7.lt (Nat.le_of_eq g222.symm))
  have ne_A_on : A ≠ on := Nat.ne_of_lt (Nat.lt_of_lt_of_le VA.lt (Nat.le_of_eq g222.symm))
  have ne_B_on : B ≠ on := Nat.ne_of_lt (Nat.lt_of_lt_of_le VB.lt (Nat.le_of_eq g222.symm))
  have ne_Cn_on : Cn ≠ on := Nat.ne_of_lt (Nat.lt_of_lt_of_le VCn.lt (Nat.le_of_eq g222.symm))
  have ne_Dn_on : Dn ≠ on := Nat.ne_of_lt (Nat.lt_of_lt_of_le VDn.lt (Nat.le_of_eq g222.symm))
  have g_on : n0 ≤ on := Nat.le_trans (Nat.le_trans Z0 KK0.1) (Nat.le_of_eq g222.symm)
  have sz_on : h0.size ≤ on := Nat.le_trans KK0.1 (Nat.le_of_eq g222.symm)
  have K222 : Keep h0 h222 [] := KK0.ext E222
  have V_on : Arv Z h222 on k222 .double (3 : Int32) [(.double (0 : UInt64)), (.double (0 : UInt64)), (.double (0 : UInt64))] (.double (0 : UInt64)) := (Arv.new A222 (by decide)).pad (pad_rep [] (.double (0 : UInt64)) 3)
  have pre223 := fun (τ : State) kt => pre221 τ (by
    show Steps p.tables e below (T217.setTop (mkF m 5 #[.val (.ref a), .unset, .unset, .unset, .unset, .unset, .unset, .unset] [(.int (3 : Int32))])) τ
    refine XS.istoreN X217.here hx rfl (Jvm.hb hby d4_5) rfl (l' := #[.val (.ref a), .val (.int (3 : Int32)), .unset, .unset, .unset, .unset, .unset, .unset]) rfl ?_
    refine XS.iloadN X217.here hx rfl (Jvm.hb hby d4_6) rfl ?_
    exact st222 τ kt)
  obtain ⟨T224, h224, k224, X224, e224, E224, A224, st224⟩ := newP (aty := .int) X222 hx hZ (own_W16 hw) e222 (g := (mkF m 11 #[.val (.ref a), .val (.int (3 : Int32)), .val (.ref on), .unset, .unset, .unset, .unset, .unset] [(.int (3 : Int32))])) rfl (Jvm.hb hby d4_11) rfl (by decide) (cap := 3) (by decide) (by decide) (by decide) (by decide)
  obtain ⟨pl, g224⟩ : ∃ z, z = h222.size := ⟨_, rfl⟩
  rw [← g224] at A224 st224
  have f225 := E7.ext E222
  have ne_a_pl : a ≠ pl := Nat.ne_of_lt (Nat.lt_of_lt_of_le f225.lt (Nat.le_of_eq g224.symm))
  have f226 := VA.ext E222
  have ne_A_pl : A ≠ pl := Nat.ne_of_lt (Nat.lt_of_lt_of_le f226.lt (Nat.le_of_eq g224.symm))
  have f227 := VB.ext E222
  have ne_B_pl : B ≠ pl := Nat.ne_of_lt (Nat.lt_of_lt_of_le f227.lt (Nat.le_of_eq g224.symm))
  have f228 := VCn.ext E222
  have ne_Cn_pl : Cn ≠ pl := Nat.ne_of_lt (Nat.lt_of_lt_of_le f228.lt (Nat.le_of_eq g224.symm))
  have f229 := VDn.ext E222
  have ne_Dn_pl : Dn ≠ pl := Nat.ne_of_lt (Nat.lt_of_lt_of_le f229.lt (Nat.le_of_eq g224.symm))
  have ne_on_pl : on ≠ pl := Nat.ne_of_lt (Nat.lt_of_lt_of_le V_on.lt (Nat.le_of_eq g224.symm))
  have g_pl : n0 ≤ pl := Nat.le_trans (Nat.le_trans Z0 K222.1) (Nat.le_of_eq g224.symm)
  have sz_pl : h0.size ≤ pl := Nat.le_trans K222.1 (Nat.le_of_eq g224.symm)
  have K224 : Keep h0 h224 [] := K222.ext E224
  have V_pl : Arv Z h224 pl k224 .int (3 : Int32) [(.int (0 : Int32)), (.int (0 : Int32)), (.int (0 : Int32))] (.int (0 : Int32)) := (Arv.new A224 (by decide)).pad (pad_rep [] (.int (0 : Int32)) 3)
  have pre230 := fun (τ : State) kt => pre223 τ (by
    show Steps p.tables e below (T222.setTop (mkF m 9 #[.val (.ref a), .val (.int (3 : Int32)), .unset, .unset, .unset, .unset, .unset, .unset] [(.ref on)])) τ
    refine XS.astoreN X222.here hx rfl (Jvm.hb hby d4_9) rfl rfl (l' := #[.val (.ref a), .val (.int (3 : Int32)), .val (.ref on), .unset, .unset, .unset, .unset, .unset]) rfl ?_
    refine XS.iloadN X222.here hx rfl (Jvm.hb hby d4_10) rfl ?_
    exact st224 τ kt)
  obtain ⟨_, T231, L231, X231, ⟨rfl, Nq231, Kq231⟩, st231⟩ := own_stat (y := own_mn0) X224 hx hZ hown (own_W47 hw) (own_W48 hw) (by decide) (rmF l Z a0 hw [] pl (-1 : Int32) k224 h224 n0 (Nat.le_trans Z0 K224.1) V_pl g_pl) (own_W50 hw) (own_W49 hw) 0 (by decide) (by decide) e224 (mkF m 16 #[.val (.ref a), .val (.int (3 : Int32)), .val (.ref on), .val (.ref pl), .unset, .unset, .unset, .unset] [(.int (-1 : Int32)), (.ref pl)]) rfl (by rw [hml]; rfl) [(.ref pl), (.int (-1 : Int32))] [] rfl (lenOf own_pd___II_V rfl) rfl (Nat.le_refl _) (Jvm.hb hby d4_16) (by decide) (by decide)
  have N231 := Fr.app N0 Nq231
  have K231 : Keep h0 T231.heap [] := K224.trans Kq231 (allS (Or.inr sz_pl) (all0))
  have pre232 := fun (τ : State) kt => pre230 τ (by
    show Steps p.tables e below (T224.setTop (mkF m 13 #[.val (.ref a), .val (.int (3 : Int32)), .val (.ref on), .unset, .unset, .unset, .unset, .unset] [(.ref pl)])) τ
    refine XS.astoreN X224.here hx rfl (Jvm.hb hby d4_13) rfl rfl (l' := #[.val (.ref a), .val (.int (3 : Int32)), .val (.ref on), .val (.ref pl), .unset, .unset, .unset, .unset]) rfl ?_
    refine XS.aloadN X224.here hx rfl (Jvm.hb hby d4_14) rfl rfl ?_
    refine XS.iconst X224.here hx rfl (Jvm.hb hby d4_15) ?_
    exact st231 τ kt)
  obtain ⟨T233, h233, X233, e233, E233, A233, D233, -, st233⟩ := newO X231 hx hZ hown (own_W51 hw) (own_W52 hw) (own_W53 hw) rfl (g := (mkF m 28 #[.val (.ref a), .val (.int (3 : Int32)), .val (.ref on), .val (.ref pl), .val (.int (0 : Int32)), .unset, .unset, .unset] [])) rfl (Jvm.hb hby d4_28) (by decide) (by decide)
  obtain ⟨c1, g233⟩ : ∃ z, z = T231.heap.size := ⟨_, rfl⟩
  rw [← g233] at A233 D233 st233
  have f234 := f225.ext E224
  have f235 := f234.keep Kq231
  have ne_a_c1 : a ≠ c1 := Nat.ne_of_lt (Nat.lt_of_lt_of_le f235.lt (Nat.le_of_eq g233.symm))
  have f236 := f226.ext E224
  have f237 := f236.keep Kq231 (ninS ne_A_pl (nin0))
  have ne_A_c1 : A ≠ c1 := Nat.ne_of_lt (Nat.lt_of_lt_of_le f237.lt (Nat.le_of_eq g233.symm))
  have f238 := f227.ext E224
  have f239 := f238.keep Kq231 (ninS ne_B_pl (nin0))
  have ne_B_c1 : B ≠ c1 := Nat.ne_of_lt (Nat.lt_of_lt_of_le f239.lt (Nat.le_of_eq g233.symm))
  have f240 := f228.ext E224
  have f241 := f240.keep Kq231 (ninS ne_Cn_pl (nin0))
  have ne_Cn_c1 : Cn ≠ c1 := Nat.ne_of_lt (Nat.lt_of_lt_of_le f241.lt (Nat.le_of_eq g233.symm))
  have f242 := f229.ext E224
  have f243 := f242.keep Kq231 (ninS ne_Dn_pl (nin0))
  have ne_Dn_c1 : Dn ≠ c1 := Nat.ne_of_lt (Nat.lt_of_lt_of_le f243.lt (Nat.le_of_eq g233.symm))
  have f244 := V_on.ext E224
  have f245 := f244.keep Kq231 (ninS ne_on_pl (nin0))
  have ne_on_c1 : on ≠ c1 := Nat.ne_of_lt (Nat.lt_of_lt_of_le f245.lt (Nat.le_of_eq g233.symm))
  have g_c1 : n0 ≤ c1 := Nat.le_trans (Nat.le_trans Z0 K231.1) (Nat.le_of_eq g233.symm)
  have sz_c1 : h0.size ≤ c1 := Nat.le_trans K231.1 (Nat.le_of_eq g233.symm)
  have K233 : Keep h0 h233 [] := K231.ext E233
  have F_excess_c1 : Fld Z h233 c1 "com/example/meticulous_ballot/meticulousballot/CompensatedSum" "excess" "D" (.double (0 : UInt64)) := D233 (Or.inl (own_W64 hw)) (ty := .double) (by decide)
  have F_sum_c1 : Fld Z h233 c1 "com/example/meticulous_ballot/meticulousballot/CompensatedSum" "sum" "D" (.double (0 : UInt64)) := D233 (Or.inl (own_W66 hw)) (ty := .double) (by decide)
  have pre246 := fun (τ : State) kt => pre232 τ (by
    show Steps p.tables e below (T231.setTop (mkF m 19 #[.val (.ref a), .val (.int (3 : Int32)), .val (.ref on), .val (.ref pl), .unset, .unset, .unset, .unset] [])) τ
    refine XS.iconst X231.here hx rfl (Jvm.hb hby d4_19) ?_
    refine XS.istore X231.here hx rfl (Jvm.hb hby d4_20) rfl (l' := #[.val (.ref a), .val (.int (3 : Int32)), .val (.ref on), .val (.ref pl), .val (.int (0 : Int32)), .unset, .unset, .unset]) rfl ?_
    refine XS.iload X231.here hx rfl (Jvm.hb hby d4_22) rfl ?_
    refine XS.iloadN X231.here hx rfl (Jvm.hb hby d4_24) rfl ?_
    refine XS.icmpNo X231.here hx rfl (Jvm.hb hby d4_25) rfl (tlt (by decide)).2.1 ?_
    exact st233 τ kt)
  obtain ⟨_, T247, L247, X247, ⟨rfl, Nq247, eq247⟩, st247⟩ := own_spec (y := own_mn1) (b := c1) X233 hx hZ rfl hown (own_W54 hw) (own_W55 hw) (by decide) (rmSI l Z a0 hw [] c1 h233 n0 (Nat.le_trans Z0 K233.1)) (own_W56 hw) (own_W53 hw) 1 (by decide) (by decide) e233 (mkF m 32 #[.val (.ref a), .val (.int (3 : Int32)), .val (.ref on), .val (.ref pl), .val (.int (0 : Int32)), .unset, .unset, .unset] [(.ref c1), (.ref c1)]) rfl (by rw [hml]; rfl) [] [(.ref c1)] rfl (lenOf own_pd___V rfl) rfl (Nat.le_refl _) (Jvm.hb hby d4_32) (by decide) (by decide)
  have N247 := Fr.app N231 Nq247
  have pre248 := fun (τ : State) kt => pre246 τ (by
    show Steps p.tables e below (T233.setTop (mkF m 31 #[.val (.ref a), .val (.int (3 : Int32)), .val (.ref on), .val (.ref pl), .val (.int (0 : Int32)), .unset, .unset, .unset] [(.ref c1)])) τ
    refine XS.dup X233.here hx rfl (Jvm.hb hby d4_31) rfl rfl ?_
    exact st247 τ kt)
  have f250 := FA.ext E222
  have f251 := f250.ext E224
  have f252 := f251.keep Kq231 (ninS ne_a_pl (nin0))
  have f253 := f252.ext E233
  obtain ⟨T249, X249, e249, st249⟩ := getF X247 hx hZ hown (host := "") (Or.inl (own_W10 hw)) Via.refl eq247 f253 (g := (mkF m 40 #[.val (.ref a), .val (.int (3 : Int32)), .val (.ref on), .val (.ref pl), .val (.int (0 : Int32)), .val (.ref c1), .unset, .unset] [(.ref a), (.ref c1)])) rfl rfl (Jvm.hb hby d4_40)
  have pre254 := fun (τ : State) kt => pre248 τ (by
    show Steps p.tables e below (T247.setTop (mkF m 35 #[.val (.ref a), .val (.int (3 : Int32)), .val (.ref on), .val (.ref pl), .val (.int (0 : Int32)), .unset, .unset, .unset] [(.ref c1)])) τ
    refine XS.astore X247.here hx rfl (Jvm.hb hby d4_35) rfl rfl (l' := #[.val (.ref a), .val (.int (3 : Int32)), .val (.ref on), .val (.ref pl), .val (.int (0 : Int32)), .val (.ref c1), .unset, .unset]) rfl ?_
    refine XS.aload X247.here hx rfl (Jvm.hb hby d4_37) rfl rfl ?_
    refine XS.aloadN X247.here hx rfl (Jvm.hb hby d4_39) rfl rfl ?_
    exact st249 τ kt)
  have f255 := f237.ext E233
  obtain ⟨cl256, Ar256, q256, S256, M256, H256, U256⟩ := id f255
  have in256 : ¬ ((0 : Int32) < 0 ∨ cl256.slots.size ≤ ((0 : Int32)).toNatClampNeg) := inb_of S256 ⟨by decide, by decide⟩
  obtain ⟨_, T257, L257, X257, ⟨rfl, Nq257, Kq257, Fs257⟩, st257⟩ := own_virt (y := own_mn2) (b := c1) X249 hx hZ hown (own_W58 hw) (own_W59 hw) (own_W61 hw) (own_W60 hw) (by decide) (rmSA l Z a0 hw [] c1 x0 h233 n0 (Nat.le_trans Z0 K233.1) A233 F_sum_c1 F_excess_c1 g_c1 cc0.1) (own_W62 hw) (own_W53 hw) 0 (by decide) (by decide) A233 e249 (mkF m 46 #[.val (.ref a), .val (.int (3 : Int32)), .val (.ref on), .val (.ref pl), .val (.int (0 : Int32)), .val (.ref c1), .unset, .unset] [(.double x0), (.ref c1)]) rfl (by rw [hml]; rfl) [(.double x0)] [] rfl (lenOf own_pd__D_V rfl) rfl (Nat.le_refl _) (Jvm.hb hby d4_46) (by decide) (by decide)
  have N257 := Fr.app N247 Nq257
  have K257 : Keep h0 T257.heap [] := K233.trans Kq257 (allS (Or.inr sz_c1) (all0))
  have pre258 := fun (τ : State) kt => pre254 τ (by
    show Steps p.tables e below (T249.setTop (mkF m 43 #[.val (.ref a), .val (.int (3 : Int32)), .val (.ref on), .val (.ref pl), .val (.int (0 : Int32)), .val (.ref c1), .unset, .unset] [(.ref A), (.ref c1)])) τ
    refine XS.iload X249.here hx rfl (Jvm.hb hby d4_43) rfl ?_
    refine X249.daload hx ((congrArg (fun (HH : Heap) => HH[A]?) (e249 : T249.heap = h233)).trans Ar256.1) (State.isArrayOf_alike hZ.alike Ar256.2.1) Ar256.2.2 in256 (H256.at in256 rfl) (g := (mkF m 45 #[.val (.ref a), .val (.int (3 : Int32)), .val (.ref on), .val (.ref pl), .val (.int (0 : Int32)), .val (.ref c1), .unset, .unset] [(.int (0 : Int32)), (.ref A), (.ref c1)])) rfl rfl (Jvm.hb hby d4_45) _ ?_
    exact st257 τ kt)
  have f260 := FCn.ext E222
  have f261 := f260.ext E224
  have f262 := f261.keep Kq231 (ninS ne_a_pl (nin0))
  have f263 := f262.ext E233
  have f264 := f263.keep Kq257 (ninS ne_a_c1 (nin0))
  obtain ⟨T259, X259, e259, st259⟩ := getF X257 hx hZ hown (host := "") (Or.inl (own_W23 hw)) Via.refl rfl f264 (g := (mkF m 55 #[.val (.ref a), .val (.int (3 : Int32)), .val (.ref on), .val (.ref pl), .val (.int (0 : Int32)), .val (.ref c1), .val (.int (0 : Int32)), .unset] [(.ref a), (.int (0 : Int32))])) rfl rfl (Jvm.hb hby d4_55)
  have pre265 := fun (τ : State) kt => pre258 τ (by
    show Steps p.tables e below (T257.setTop (mkF m 49 #[.val (.ref a), .val (.int (3 : Int32)), .val (.ref on), .val (.ref pl), .val (.int (0 : Int32)), .val (.ref c1), .unset, .unset] [])) τ
    refine XS.iconst X257.here hx rfl (Jvm.hb hby d4_49) ?_
    refine XS.istore X257.here hx rfl (Jvm.hb hby d4_50) rfl (l' := #[.val (.ref a), .val (.int (3 : Int32)), .val (.ref on), .val (.ref pl), .val (.int (0 : Int32)), .val (.ref c1), .val (.int (0 : Int32)), .unset]) rfl ?_
    refine XS.iload X257.here hx rfl (Jvm.hb hby d4_52) rfl ?_
    refine XS.aloadN X257.here hx rfl (Jvm.hb hby d4_54) rfl rfl ?_
    exact st259 τ kt)
  have f266 := f241.ext E233
  have f267 := f266.keep Kq257 (ninS ne_Cn_c1 (nin0))
  obtain ⟨cl268, Ar268, q268, S268, M268, H268, U268⟩ := id f267
  have in268 : ¬ ((0 : Int32) < 0 ∨ cl268.slots.size ≤ ((0 : Int32)).toNatClampNeg) := inb_of S268 ⟨by decide, by decide⟩
  have f270 := A233.keep Kq257
  obtain ⟨_, T269, L269, X269, ⟨rfl, Nq269, eq269⟩, st269⟩ := own_virt (y := own_mn3) (b := c1) X259 hx hZ hown (own_W67 hw) (own_W68 hw) (own_W70 hw) (own_W69 hw) (by decide) (rmSV l Z a0 hw [] c1 x0 T257.heap n0 (Nat.le_trans Z0 K257.1) Fs257) (own_W71 hw) (own_W53 hw) 2 (by decide) (by decide) f270 e259 (mkF m 90 #[.val (.ref a), .val (.int (3 : Int32)), .val (.ref on), .val (.ref pl), .val (.int (0 : Int32)), .val (.ref c1), .val (.int (0 : Int32)), .unset] [(.ref c1), (.int (0 : Int32)), (.ref on)]) rfl (by rw [hml]; rfl) [] [(.int (0 : Int32)), (.ref on)] rfl (lenOf own_pd___D rfl) rfl (Nat.le_refl _) (Jvm.hb hby d4_90) (by decide) (by decide)
  have N269 := Fr.app N257 Nq269
  have pre271 := fun (τ : State) kt => pre265 τ (by
    show Steps p.tables e below (T259.setTop (mkF m 58 #[.val (.ref a), .val (.int (3 : Int32)), .val (.ref on), .val (.ref pl), .val (.int (0 : Int32)), .val (.ref c1), .val (.int (0 : Int32)), .unset] [(.ref Cn), (.int (0 : Int32))])) τ
    refine XS.iload X259.here hx rfl (Jvm.hb hby d4_58) rfl ?_
    refine X259.iaload hx ((congrArg (fun (HH : Heap) => HH[Cn]?) (e259 : T259.heap = T257.heap)).trans Ar268.1) (State.isArrayOf_alike hZ.alike Ar268.2.1) Ar268.2.2 in268 (H268.at in268 rfl) (g := (mkF m 60 #[.val (.ref a), .val (.int (3 : Int32)), .val (.ref on), .val (.ref pl), .val (.int (0 : Int32)), .val (.ref c1), .val (.int (0 : Int32)), .unset] [(.int (0 : Int32)), (.ref Cn), (.int (0 : Int32))])) rfl rfl (Jvm.hb hby d4_60) _ ?_
    refine XS.icmpYes X259.here hx rfl (pc0 := 61) (pc' := 85) rfl (Jvm.hb hby d4_61) rfl (flt (by decide)).2.1 (by decide) (by decide) ?_
    refine XS.aloadN X259.here hx rfl (Jvm.hb hby d4_85) rfl rfl ?_
    refine XS.iload X259.here hx rfl (Jvm.hb hby d4_86) rfl ?_
    refine XS.aload X259.here hx rfl (Jvm.hb hby d4_88) rfl rfl ?_
    exact st269 τ kt)
  have f272 := f245.ext E233
  have f273 := f272.keep Kq257 (ninS ne_on_c1 (nin0))
  obtain ⟨cl274, Ar274, q274, S274, M274, H274, U274⟩ := id f273
  obtain ⟨T275, h275, X275, e275, W275, st275⟩ := own_stD X269 hx hZ eq269 Ar274 (j := (0 : Int32)) (inb_of S274 ⟨by decide, by decide⟩) (g := (mkF m 93 #[.val (.ref a), .val (.int (3 : Int32)), .val (.ref on), .val (.ref pl), .val (.int (0 : Int32)), .val (.ref c1), .val (.int (0 : Int32)), .unset] [(.double x0), (.int (0 : Int32)), (.ref on)])) rfl rfl (Jvm.hb hby d4_93)
  have V275 : Arv Z h275 on k222 .double (3 : Int32) [(.double x0), (.double (0 : UInt64)), (.double (0 : UInt64))] (.double (0 : UInt64)) := Arv.set Ar274 q274 S274 M274 H274 U274 rfl W275 0 rfl (Nat.le_of_ble_eq_true rfl)
  have N275 := Fr.snoc X275 N269 g_on
  have K275 : Keep h0 h275 [] := K257.wr W275 (Or.inr sz_on)
  have pre276 := fun (τ : State) kt => pre271 τ (st275 τ kt)
  have f278 := FDn.ext E222
  have f279 := f278.ext E224
  have f280 := f279.keep Kq231 (ninS ne_a_pl (nin0))
  have f281 := f280.ext E233
  have f282 := f281.keep Kq257 (ninS ne_a_c1 (nin0))
  have f283 := (f282.other W275 (Or.inl ne_a_on))
  obtain ⟨T277, X277, e277, st277⟩ := getF X275 hx hZ hown (host := "") (Or.inl (own_W27 hw)) Via.refl e275 f283 (g := (mkF m 100 #[.val (.ref a), .val (.int (3 : Int32)), .val (.ref on), .val (.ref pl), .val (.int (0 : Int32)), .val (.ref c1), .val (.int (0 : Int32)), .unset] [(.ref a), (.int (0 : Int32))])) rfl rfl (Jvm.hb hby d4_100)
  have pre284 := fun (τ : State) kt => pre276 τ (by
    show Steps p.tables e below (T275.setTop (mkF m 94 #[.val (.ref a), .val (.int (3 : Int32)), .val (.ref on), .val (.ref pl), .val (.int (0 : Int32)), .val (.ref c1), .val (.int (0 : Int32)), .unset] [])) τ
    refine XS.iconst X275.here hx rfl (Jvm.hb hby d4_94) ?_
    refine XS.istore X275.here hx rfl (Jvm.hb hby d4_95) rfl (l' := #[.val (.ref a), .val (.int (3 : Int32)), .val (.ref on), .val (.ref pl), .val (.int (0 : Int32)), .val (.ref c1), .val (.int (0 : Int32)), .unset]) rfl ?_
    refine XS.iload X275.here hx rfl (Jvm.hb hby d4_97) rfl ?_
    refine XS.aloadN X275.here hx rfl (Jvm.hb hby d4_99) rfl rfl ?_
    exact st277 τ kt)
  have f285 := f243.ext E233
  have f286 := f285.keep Kq257 (ninS ne_Dn_c1 (nin0))
  have f287 := f286.other W275 ne_Dn_on
  obtain ⟨cl288, Ar288, q288, S288, M288, H288, U288⟩ := id f287
  have in288 : ¬ ((0 : Int32) < 0 ∨ cl288.slots.size ≤ ((0 : Int32)).toNatClampNeg) := inb_of S288 ⟨by decide, by decide⟩
  obtain ⟨T289, h289, X289, e289, E289, A289, D289, -, st289⟩ := newO X277 hx hZ hown (own_W51 hw) (own_W52 hw) (own_W53 hw) e277 (g := (mkF m 28 #[.val (.ref a), .val (.int (3 : Int32)), .val (.ref on), .val (.ref pl), .val (.int (1 : Int32)), .val (.ref c1), .val (.int (0 : Int32)), .unset] [])) rfl (Jvm.hb hby d4_28) (by decide) (by decide)
  obtain ⟨c2, g289⟩ : ∃ z, z = h275.size := ⟨_, rfl⟩
  rw [← g289] at A289 D289 st289
  have f290 := f235.ext E233
  have f291 := f290.keep Kq257
  have f292 := f291.wr W275
  have ne_a_c2 : a ≠ c2 := Nat.ne_of_lt (Nat.lt_of_lt_of_le f292.lt (Nat.le_of_eq g289.symm))
  have f293 := f255.keep Kq257 (ninS ne_A_c1 (nin0))
  have f294 := f293.other W275 ne_A_on
  have ne_A_c2 : A ≠ c2 := Nat.ne_of_lt (Nat.lt_of_lt_of_le f294.lt (Nat.le_of_eq g289.symm))
  have f295 := f239.ext E233
  have f296 := f295.keep Kq257 (ninS ne_B_c1 (nin0))
  have f297 := f296.other W275 ne_B_on
  have ne_B_c2 : B ≠ c2 := Nat.ne_of_lt (Nat.lt_of_lt_of_le f297.lt (Nat.le_of_eq g289.symm))
  have f298 := f267.other W275 ne_Cn_on
  have ne_Cn_c2 : Cn ≠ c2 := Nat.ne_of_lt (Nat.lt_of_lt_of_le f298.lt (Nat.le_of_eq g289.symm))
  have ne_Dn_c2 : Dn ≠ c2 := Nat.ne_of_lt (Nat.lt_of_lt_of_le f287.lt (Nat.le_of_eq g289.symm))
  have ne_on_c2 : on ≠ c2 := Nat.ne_of_lt (Nat.lt_of_lt_of_le V275.lt (Nat.le_of_eq g289.symm))
  have f299 := f270.wr W275
  have ne_c1_c2 : c1 ≠ c2 := Nat.ne_of_lt (Nat.lt_of_lt_of_le f299.lt (Nat.le_of_eq g289.symm))
  have g_c2 : n0 ≤ c2 := Nat.le_trans (Nat.le_trans Z0 K275.1) (Nat.le_of_eq g289.symm)
  have sz_c2 : h0.size ≤ c2 := Nat.le_trans K275.1 (Nat.le_of_eq g289.symm)
  have K289 : Keep h0 h289 [] := K275.ext E289
  have F_excess_c2 : Fld Z h289 c2 "com/example/meticulous_ballot/meticulousballot/CompensatedSum" "excess" "D" (.double (0 : UInt64)) := D289 (Or.inl (own_W64 hw)) (ty := .double) (by decide)
  have F_sum_c2 : Fld Z h289 c2 "com/example/meticulous_ballot/meticulousballot/CompensatedSum" "sum" "D" (.double (0 : UInt64)) := D289 (Or.inl (own_W66 hw)) (ty := .double) (by decide)
  have pre300 := fun (τ : State) kt => pre284 τ (by
    show Steps p.tables e below (T277.setTop (mkF m 103 #[.val (.ref a), .val (.int (3 : Int32)), .val (.ref on), .val (.ref pl), .val (.int (0 : Int32)), .val (.ref c1), .val (.int (0 : Int32)), .unset] [(.ref Dn), (.int (0 : Int32))])) τ
    refine XS.iload X277.here hx rfl (Jvm.hb hby d4_103) rfl ?_
    refine X277.iaload hx ((congrArg (fun (HH : Heap) => HH[Dn]?) (e277 : T277.heap = h275)).trans Ar288.1) (State.isArrayOf_alike hZ.alike Ar288.2.1) Ar288.2.2 in288 (H288.at in288 rfl) (g := (mkF m 105 #[.val (.ref a), .val (.int (3 : Int32)), .val (.ref on), .val (.ref pl), .val (.int (0 : Int32)), .val (.ref c1), .val (.int (0 : Int32)), .unset] [(.int (0 : Int32)), (.ref Dn), (.int (0 : Int32))])) rfl rfl (Jvm.hb hby d4_105) _ ?_
    refine XS.icmpYes X277.here hx rfl (pc0 := 106) (pc' := 147) rfl (Jvm.hb hby d4_106) rfl (flt (by decide)).2.1 (by decide) (by decide) ?_
    refine XS.iinc X277.here hx rfl (Jvm.hb hby d4_147) rfl (l' := #[.val (.ref a), .val (.int (3 : Int32)), .val (.ref on), .val (.ref pl), .val (.int (1 : Int32)), .val (.ref c1), .val (.int (0 : Int32)), .unset]) rfl ?_
    refine XS.goto X277.here hx rfl (pc0 := 150) (pc' := 22) rfl (Jvm.hb hby d4_150) (by decide) (by decide) ?_
    refine XS.iload X277.here hx rfl (Jvm.hb hby d4_22) rfl ?_
    refine XS.iloadN X277.here hx rfl (Jvm.hb hby d4_24) rfl ?_
    refine XS.icmpNo X277.here hx rfl (Jvm.hb hby d4_25) rfl (tlt (by decide)).2.1 ?_
    exact st289 τ kt)
  obtain ⟨_, T301, L301, X301, ⟨rfl, Nq301, eq301⟩, st301⟩ := own_spec (y := own_mn1) (b := c2) X289 hx hZ rfl hown (own_W54 hw) (own_W55 hw) (by decide) (rmSI l Z a0 hw [] c2 h289 n0 (Nat.le_trans Z0 K289.1)) (own_W56 hw) (own_W53 hw) 1 (by decide) (by decide) e289 (mkF m 32 #[.val (.ref a), .val (.int (3 : Int32)), .val (.ref on), .val (.ref pl), .val (.int (1 : Int32)), .val (.ref c1), .val (.int (0 : Int32)), .unset] [(.ref c2), (.ref c2)]) rfl (by rw [hml]; rfl) [] [(.ref c2)] rfl (lenOf own_pd___V rfl) rfl (Nat.le_refl _) (Jvm.hb hby d4_32) (by decide) (by decide)
  have N301 := Fr.app N275 Nq301
  have pre302 := fun (τ : State) kt => pre300 τ (by
    show Steps p.tables e below (T289.setTop (mkF m 31 #[.val (.ref a), .val (.int (3 : Int32)), .val (.ref on), .val (.ref pl), .val (.int (1 : Int32)), .val (.ref c1), .val (.int (0 : Int32)), .unset] [(.ref c2)])) τ
    refine XS.dup X289.here hx rfl (Jvm.hb hby d4_31) rfl rfl ?_
    exact st301 τ kt)
  have f304 := f253.keep Kq257 (ninS ne_a_c1 (nin0))
  have f305 := (f304.other W275 (Or.inl ne_a_on))
  have f306 := f305.ext E289
  obtain ⟨T303, X303, e303, st303⟩ := getF X301 hx hZ hown (host := "") (Or.inl (own_W10 hw)) Via.refl eq301 f306 (g := (mkF m 40 #[.val (.ref a), .val (.int (3 : Int32)), .val (.ref on), .val (.ref pl), .val (.int (1 : Int32)), .val (.ref c2), .val (.int (0 : Int32)), .unset] [(.ref a), (.ref c2)])) rfl rfl (Jvm.hb hby d4_40)
  have pre307 := fun (τ : State) kt => pre302 τ (by
    show Steps p.tables e below (T301.setTop (mkF m 35 #[.val (.ref a), .val (.int (3 : Int32)), .val (.ref on), .val (.ref pl), .val (.int (1 : Int32)), .val (.ref c1), .val (.int (0 : Int32)), .unset] [(.ref c2)])) τ
    refine XS.astore X301.here hx rfl (Jvm.hb hby d4_35) rfl rfl (l' := #[.val (.ref a), .val (.int (3 : Int32)), .val (.ref on), .val (.ref pl), .val (.int (1 : Int32)), .val (.ref c2), .val (.int (0 : Int32)), .unset]) rfl ?_
    refine XS.aload X301.here hx rfl (Jvm.hb hby d4_37) rfl rfl ?_
    refine XS.aloadN X301.here hx rfl (Jvm.hb hby d4_39) rfl rfl ?_
    exact st303 τ kt)
  have f308 := f294.ext E289
  obtain ⟨cl309, Ar309, q309, S309, M309, H309, U309⟩ := id f308
  have in309 : ¬ ((1 : Int32) < 0 ∨ cl309.slots.size ≤ ((1 : Int32)).toNatClampNeg) := inb_of S309 ⟨by decide, by decide⟩
  obtain ⟨_, T310, L310, X310, ⟨rfl, Nq310, Kq310, Fs310⟩, st310⟩ := own_virt (y := own_mn2) (b := c2) X303 hx hZ hown (own_W58 hw) (own_W59 hw) (own_W61 hw) (own_W60 hw) (by decide) (rmSA l Z a0 hw [] c2 x1 h289 n0 (Nat.le_trans Z0 K289.1) A289 F_sum_c2 F_excess_c2 g_c2 cc1.1) (own_W62 hw) (own_W53 hw) 0 (by decide) (by decide) A289 e303 (mkF m 46 #[.val (.ref a), .val (.int (3 : Int32)), .val (.ref on), .val (.ref pl), .val (.int (1 : Int32)), .val (.ref c2), .val (.int (0 : Int32)), .unset] [(.double x1), (.ref c2)]) rfl (by rw [hml]; rfl) [(.double x1)] [] rfl (lenOf own_pd__D_V rfl) rfl (Nat.le_refl _) (Jvm.hb hby d4_46) (by decide) (by decide)
  have N310 := Fr.app N301 Nq310
  have K310 : Keep h0 T310.heap [] := K289.trans Kq310 (allS (Or.inr sz_c2) (all0))
  have pre311 := fun (τ : State) kt => pre307 τ (by
    show Steps p.tables e below (T303.setTop (mkF m 43 #[.val (.ref a), .val (.int (3 : Int32)), .val (.ref on), .val (.ref pl), .val (.int (1 : Int32)), .val (.ref c2), .val (.int (0 : Int32)), .unset] [(.ref A), (.ref c2)])) τ
    refine XS.iload X303.here hx rfl (Jvm.hb hby d4_43) rfl ?_
    refine X303.daload hx ((congrArg (fun (HH : Heap) => HH[A]?) (e303 : T303.heap = h289)).trans Ar309.1) (State.isArrayOf_alike hZ.alike Ar309.2.1) Ar309.2.2 in309 (H309.at in309 rfl) (g := (mkF m 45 #[.val (.ref a), .val (.int (3 : Int32)), .val (.ref on), .val (.ref pl), .val (.int (1 : Int32)), .val (.ref c2), .val (.int (0 : Int32)), .unset] [(.int (1 : Int32)), (.ref A), (.ref c2)])) rfl rfl (Jvm.hb hby d4_45) _ ?_
    exact st310 τ kt)
  have f313 := (f264.other W275 (Or.inl ne_a_on))
  have f314 := f313.ext E289
  have f315 := f314.keep Kq310 (ninS ne_a_c2 (nin0))
  obtain ⟨T312, X312, e312, st312⟩ := getF X310 hx hZ hown (host := "") (Or.inl (own_W23 hw)) Via.refl rfl f315 (g := (mkF m 55 #[.val (.ref a), .val (.int (3 : Int32)), .val (.ref on), .val (.ref pl), .val (.int (1 : Int32)), .val (.ref c2), .val (.int (0 : Int32)), .unset] [(.ref a), (.int (0 : Int32))])) rfl rfl (Jvm.hb hby d4_55)
  have pre316 := fun (τ : State) kt => pre311 τ (by
    show Steps p.tables e below (T310.setTop (mkF m 49 #[.val (.ref a), .val (.int (3 : Int32)), .val (.ref on), .val (.ref pl), .val (.int (1 : Int32)), .val (.ref c2), .val (.int (0 : Int32)), .unset] [])) τ
    refine XS.iconst X310.here hx rfl (Jvm.hb hby d4_49) ?_
    refine XS.istore X310.here hx rfl (Jvm.hb hby d4_50) rfl (l' := #[.val (.ref a), .val (.int (3 : Int32)), .val (.ref on), .val (.ref pl), .val (.int (1 : Int32)), .val (.ref c2), .val (.int (0 : Int32)), .unset]) rfl ?_
    refine XS.iload X310.here hx rfl (Jvm.hb hby d4_52) rfl ?_
    refine XS.aloadN X310.here hx rfl (Jvm.hb hby d4_54) rfl rfl ?_
    exact st312 τ kt)
  have f317 := f298.ext E289
  have f318 := f317.keep Kq310 (ninS ne_Cn_c2 (nin0))
  obtain ⟨cl319, Ar319, q319, S319, M319, H319, U319⟩ := id f318
  have in319 : ¬ ((1 : Int32) < 0 ∨ cl319.slots.size ≤ ((1 : Int32)).toNatClampNeg) := inb_of S319 ⟨by decide, by decide⟩
  have f321 := A289.keep Kq310
  obtain ⟨_, T320, L320, X320, ⟨rfl, Nq320, eq320⟩, st320⟩ := own_virt (y := own_mn3) (b := c2) X312 hx hZ hown (own_W67 hw) (own_W68 hw) (own_W70 hw) (own_W69 hw) (by decide) (rmSV l Z a0 hw [] c2 x1 T310.heap n0 (Nat.le_trans Z0 K310.1) Fs310) (own_W71 hw) (own_W53 hw) 2 (by decide) (by decide) f321 e312 (mkF m 90 #[.val (.ref a), .val (.int (3 : Int32)), .val (.ref on), .val (.ref pl), .val (.int (1 : Int32)), .val (.ref c2), .val (.int (0 : Int32)), .unset] [(.ref c2), (.int (1 : Int32)), (.ref on)]) rfl (by rw [hml]; rfl) [] [(.int (1 : Int32)), (.ref on)] rfl (lenOf own_pd___D rfl) rfl (Nat.le_refl _) (Jvm.hb hby d4_90) (by decide) (by decide)
  have N320 := Fr.app N310 Nq320
  have pre322 := fun (τ : State) kt => pre316 τ (by
    show Steps p.tables e below (T312.setTop (mkF m 58 #[.val (.ref a), .val (.int (3 : Int32)), .val (.ref on), .val (.ref pl), .val (.int (1 : Int32)), .val (.ref c2), .val (.int (0 : Int32)), .unset] [(.ref Cn), (.int (0 : Int32))])) τ
    refine XS.iload X312.here hx rfl (Jvm.hb hby d4_58) rfl ?_
    refine X312.iaload hx ((congrArg (fun (HH : Heap) => HH[Cn]?) (e312 : T312.heap = T310.heap)).trans Ar319.1) (State.isArrayOf_alike hZ.alike Ar319.2.1) Ar319.2.2 in319 (H319.at in319 rfl) (g := (mkF m 60 #[.val (.ref a), .val (.int (3 : Int32)), .val (.ref on), .val (.ref pl), .val (.int (1 : Int32)), .val (.ref c2), .val (.int (0 : Int32)), .unset] [(.int (1 : Int32)), (.ref Cn), (.int (0 : Int32))])) rfl rfl (Jvm.hb hby d4_60) _ ?_
    refine XS.icmpYes X312.here hx rfl (pc0 := 61) (pc' := 85) rfl (Jvm.hb hby d4_61) rfl (flt (by decide)).2.1 (by decide) (by decide) ?_
    refine XS.aloadN X312.here hx rfl (Jvm.hb hby d4_85) rfl rfl ?_
    refine XS.iload X312.here hx rfl (Jvm.hb hby d4_86) rfl ?_
    refine XS.aload X312.here hx rfl (Jvm.hb hby d4_88) rfl rfl ?_
    exact st320 τ kt)
  have f323 := V275.ext E289
  have f324 := f323.keep Kq310 (ninS ne_on_c2 (nin0))
  obtain ⟨cl325, Ar325, q325, S325, M325, H325, U325⟩ := id f324
  obtain ⟨T326, h326, X326, e326, W326, st326⟩ := own_stD X320 hx hZ eq320 Ar325 (j := (1 : Int32)) (inb_of S325 ⟨by decide, by decide⟩) (g := (mkF m 93 #[.val (.ref a), .val (.int (3 : Int32)), .val (.ref on), .val (.ref pl), .val (.int (1 : Int32)), .val (.ref c2), .val (.int (0 : Int32)), .unset] [(.double x1), (.int (1 : Int32)), (.ref on)])) rfl rfl (Jvm.hb hby d4_93)
  have V326 : Arv Z h326 on k222 .double (3 : Int32) [(.double x0), (.double x1), (.double (0 : UInt64))] (.double (0 : UInt64)) := Arv.set Ar325 q325 S325 M325 H325 U325 rfl W326 1 rfl (Nat.le_of_ble_eq_true rfl)
  have N326 := Fr.snoc X326 N320 g_on
  have K326 : Keep h0 h326 [] := K310.wr W326 (Or.inr sz_on)
  have pre327 := fun (τ : State) kt => pre322 τ (st326 τ kt)
  have f329 := f283.ext E289
  have f330 := f329.keep Kq310 (ninS ne_a_c2 (nin0))
  have f331 := (f330.other W326 (Or.inl ne_a_on))
  obtain ⟨T328, X328, e328, st328⟩ := getF X326 hx hZ hown (host := "") (Or.inl (own_W27 hw)) Via.refl e326 f331 (g := (mkF m 100 #[.val (.ref a), .val (.int (3 : Int32)), .val (.ref on), .val (.ref pl), .val (.int (1 : Int32)), .val (.ref c2), .val (.int (0 : Int32)), .unset] [(.ref a), (.int (0 : Int32))])) rfl rfl (Jvm.hb hby d4_100)
  have pre332 := fun (τ : State) kt => pre327 τ (by
    show Steps p.tables e below (T326.setTop (mkF m 94 #[.val (.ref a), .val (.int (3 : Int32)), .val (.ref on), .val (.ref pl), .val (.int (1 : Int32)), .val (.ref c2), .val (.int (0 : Int32)), .unset] [])) τ
    refine XS.iconst X326.here hx rfl (Jvm.hb hby d4_94) ?_
    refine XS.istore X326.here hx rfl (Jvm.hb hby d4_95) rfl (l' := #[.val (.ref a), .val (.int (3 : Int32)), .val (.ref on), .val (.ref pl), .val (.int (1 : Int32)), .val (.ref c2), .val (.int (0 : Int32)), .unset]) rfl ?_
    refine XS.iload X326.here hx rfl (Jvm.hb hby d4_97) rfl ?_
    refine XS.aloadN X326.here hx rfl (Jvm.hb hby d4_99) rfl rfl ?_
    exact st328 τ kt)
  have f333 := f287.ext E289
  have f334 := f333.keep Kq310 (ninS ne_Dn_c2 (nin0))
  have f335 := f334.other W326 ne_Dn_on
  obtain ⟨cl336, Ar336, q336, S336, M336, H336, U336⟩ := id f335
  have in336 : ¬ ((1 : Int32) < 0 ∨ cl336.slots.size ≤ ((1 : Int32)).toNatClampNeg) := inb_of S336 ⟨by decide, by decide⟩
  obtain ⟨T337, h337, X337, e337, E337, A337, D337, -, st337⟩ := newO X328 hx hZ hown (own_W51 hw) (own_W52 hw) (own_W53 hw) e328 (g := (mkF m 28 #[.val (.ref a), .val (.int (3 : Int32)), .val (.ref on), .val (.ref pl), .val (.int (2 : Int32)), .val (.ref c2), .val (.int (0 : Int32)), .unset] [])) rfl (Jvm.hb hby d4_28) (by decide) (by decide)
  obtain ⟨c3, g337⟩ : ∃ z, z = h326.size := ⟨_, rfl⟩
  rw [← g337] at A337 D337 st337
  have f338 := f292.ext E289
  have f339 := f338.keep Kq310
  have f340 := f339.wr W326
  have ne_a_c3 : a ≠ c3 := Nat.ne_of_lt (Nat.lt_of_lt_of_le f340.lt (Nat.le_of_eq g337.symm))
  have f341 := f308.keep Kq310 (ninS ne_A_c2 (nin0))
  have f342 := f341.other W326 ne_A_on
  have ne_A_c3 : A ≠ c3 := Nat.ne_of_lt (Nat.lt_of_lt_of_le f342.lt (Nat.le_of_eq g337.symm))
  have f343 := f297.ext E289
  have f344 := f343.keep Kq310 (ninS ne_B_c2 (nin0))
  have f345 := f344.other W326 ne_B_on
  have ne_B_c3 : B ≠ c3 := Nat.ne_of_lt (Nat.lt_of_lt_of_le f345.lt (Nat.le_of_eq g337.symm))
  have f346 := f318.other W326 ne_Cn_on
  have ne_Cn_c3 : Cn ≠ c3 := Nat.ne_of_lt (Nat.lt_of_lt_of_le f346.lt (Nat.le_of_eq g337.symm))
  have ne_Dn_c3 : Dn ≠ c3 := Nat.ne_of_lt (Nat.lt_of_lt_of_le f335.lt (Nat.le_of_eq g337.symm))
  have ne_on_c3 : on ≠ c3 := Nat.ne_of_lt (Nat.lt_of_lt_of_le V326.lt (Nat.le_of_eq g337.symm))
  have f347 := f299.ext E289
  have f348 := f347.keep Kq310
  have f349 := f348.wr W326
  have ne_c1_c3 : c1 ≠ c3 := Nat.ne_of_lt (Nat.lt_of_lt_of_le f349.lt (Nat.le_of_eq g337.symm))
  have f350 := f321.wr W326
  have ne_c2_c3 : c2 ≠ c3 := Nat.ne_of_lt (Nat.lt_of_lt_of_le f350.lt (Nat.le_of_eq g337.symm))
  have g_c3 : n0 ≤ c3 := Nat.le_trans (Nat.le_trans Z0 K326.1) (Nat.le_of_eq g337.symm)
  have sz_c3 : h0.size ≤ c3 := Nat.le_trans K326.1 (Nat.le_of_eq g337.symm)
  have K337 : Keep h0 h337 [] := K326.ext E337
  have F_excess_c3 : Fld Z h337 c3 "com/example/meticulous_ballot/meticulousballot/CompensatedSum" "excess" "D" (.double (0 : UInt64)) := D337 (Or.inl (own_W64 hw)) (ty := .double) (by decide)
  have F_sum_c3 : Fld Z h337 c3 "com/example/meticulous_ballot/meticulousballot/CompensatedSum" "sum" "D" (.double (0 : UInt64)) := D337 (Or.inl (own_W66 hw)) (ty := .double) (by decide)
  have pre351 := fun (τ : State) kt => pre332 τ (by
    show Steps p.tables e below (T328.setTop (mkF m 103 #[.val (.ref a), .val (.int (3 : Int32)), .val (.ref on), .val (.ref pl), .val (.int (1 : Int32)), .val (.ref c2), .val (.int (0 : Int32)), .unset] [(.ref Dn), (.int (0 : Int32))])) τ
    refine XS.iload X328.here hx rfl (Jvm.hb hby d4_103) rfl ?_
    refine X328.iaload hx ((congrArg (fun (HH : Heap) => HH[Dn]?) (e328 : T328.heap = h326)).trans Ar336.1) (State.isArrayOf_alike hZ.alike Ar336.2.1) Ar336.2.2 in336 (H336.at in336 rfl) (g := (mkF m 105 #[.val (.ref a), .val (.int (3 : Int32)), .val (.ref on), .val (.ref pl), .val (.int (1 : Int32)), .val (.ref c2), .val (.int (0 : Int32)), .unset] [(.int (1 : Int32)), (.ref Dn), (.int (0 : Int32))])) rfl rfl (Jvm.hb hby d4_105) _ ?_
    refine XS.icmpYes X328.here hx rfl (pc0 := 106) (pc' := 147) rfl (Jvm.hb hby d4_106) rfl (flt (by decide)).2.1 (by decide) (by decide) ?_
    refine XS.iinc X328.here hx rfl (Jvm.hb hby d4_147) rfl (l' := #[.val (.ref a), .val (.int (3 : Int32)), .val (.ref on), .val (.ref pl), .val (.int (2 : Int32)), .val (.ref c2), .val (.int (0 : Int32)), .unset]) rfl ?_
    refine XS.goto X328.here hx rfl (pc0 := 150) (pc' := 22) rfl (Jvm.hb hby d4_150) (by decide) (by decide) ?_
    refine XS.iload X328.here hx rfl (Jvm.hb hby d4_22) rfl ?_
    refine XS.iloadN X328.here hx rfl (Jvm.hb hby d4_24) rfl ?_
    refine XS.icmpNo X328.here hx rfl (Jvm.hb hby d4_25) rfl (tlt (by decide)).2.1 ?_
    exact st337 τ kt)
  obtain ⟨_, T352, L352, X352, ⟨rfl, Nq352, eq352⟩, st352⟩ := own_spec (y := own_mn1) (b := c3) X337 hx hZ rfl hown (own_W54 hw) (own_W55 hw) (by decide) (rmSI l Z a0 hw [] c3 h337 n0 (Nat.le_trans Z0 K337.1)) (own_W56 hw) (own_W53 hw) 1 (by decide) (by decide) e337 (mkF m 32 #[.val (.ref a), .val (.int (3 : Int32)), .val (.ref on), .val (.ref pl), .val (.int (2 : Int32)), .val (.ref c2), .val (.int (0 : Int32)), .unset] [(.ref c3), (.ref c3)]) rfl (by rw [hml]; rfl) [] [(.ref c3)] rfl (lenOf own_pd___V rfl) rfl (Nat.le_refl _) (Jvm.hb hby d4_32) (by decide) (by decide)
  have N352 := Fr.app N326 Nq352
  have pre353 := fun (τ : State) kt => pre351 τ (by
    show Steps p.tables e below (T337.setTop (mkF m 31 #[.val (.ref a), .val (.int (3 : Int32)), .val (.ref on), .val (.ref pl), .val (.int (2 : Int32)), .val (.ref c2), .val (.int (0 : Int32)), .unset] [(.ref c3)])) τ
    refine XS.dup X337.here hx rfl (Jvm.hb hby d4_31) rfl rfl ?_
    exact st352 τ kt)
  have f355 := f306.keep Kq310 (ninS ne_a_c2 (nin0))
  have f356 := (f355.other W326 (Or.inl ne_a_on))
  have f357 := f356.ext E337
  obtain ⟨T354, X354, e354, st354⟩ := getF X352 hx hZ hown (host := "") (Or.inl (own_W10 hw)) Via.refl eq352 f357 (g := (mkF m 40 #[.val (.ref a), .val (.int (3 : Int32)), .val (.ref on), .val (.ref pl), .val (.int (2 : Int32)), .val (.ref c3), .val (.int (0 : Int32)), .unset] [(.ref a), (.ref c3)])) rfl rfl (Jvm.hb hby d4_40)
  have pre358 := fun (τ : State) kt => pre353 τ (by
    show Steps p.tables e below (T352.setTop (mkF m 35 #[.val (.ref a), .val (.int (3 : Int32)), .val (.ref on), .val (.ref pl), .val (.int (2 : Int32)), .val (.ref c2), .val (.int (0 : Int32)), .unset] [(.ref c3)])) τ
    refine XS.astore X352.here hx rfl (Jvm.hb hby d4_35) rfl rfl (l' := #[.val (.ref a), .val (.int (3 : Int32)), .val (.ref on), .val (.ref pl), .val (.int (2 : Int32)), .val (.ref c3), .val (.int (0 : Int32)), .unset]) rfl ?_
    refine XS.aload X352.here hx rfl (Jvm.hb hby d4_37) rfl rfl ?_
    refine XS.aloadN X352.here hx rfl (Jvm.hb hby d4_39) rfl rfl ?_
    exact st354 τ kt)
  have f359 := f342.ext E337
  obtain ⟨cl360, Ar360, q360, S360, M360, H360, U360⟩ := id f359
  have in360 : ¬ ((2 : Int32) < 0 ∨ cl360.slots.size ≤ ((2 : Int32)).toNatClampNeg) := inb_of S360 ⟨by decide, by decide⟩
  obtain ⟨_, T361, L361, X361, ⟨rfl, Nq361, Kq361, Fs361⟩, st361⟩ := own_virt (y := own_mn2) (b := c3) X354 hx hZ hown (own_W58 hw) (own_W59 hw) (own_W61 hw) (own_W60 hw) (by decide) (rmSA l Z a0 hw [] c3 x2 h337 n0 (Nat.le_trans Z0 K337.1) A337 F_sum_c3 F_excess_c3 g_c3 cc2.1) (own_W62 hw) (own_W53 hw) 0 (by decide) (by decide) A337 e354 (mkF m 46 #[.val (.ref a), .val (.int (3 : Int32)), .val (.ref on), .val (.ref pl), .val (.int (2 : Int32)), .val (.ref c3), .val (.int (0 : Int32)), .unset] [(.double x2), (.ref c3)]) rfl (by rw [hml]; rfl) [(.double x2)] [] rfl (lenOf own_pd__D_V rfl) rfl (Nat.le_refl _) (Jvm.hb hby d4_46) (by decide) (by decide)
  have N361 := Fr.app N352 Nq361
  have K361 : Keep h0 T361.heap [] := K337.trans Kq361 (allS (Or.inr sz_c3) (all0))
  have pre362 := fun (τ : State) kt => pre358 τ (by
    show Steps p.tables e below (T354.setTop (mkF m 43 #[.val (.ref a), .val (.int (3 : Int32)), .val (.ref on), .val (.ref pl), .val (.int (2 : Int32)), .val (.ref c3), .val (.int (0 : Int32)), .unset] [(.ref A), (.ref c3)])) τ
    refine XS.iload X354.here hx rfl (Jvm.hb hby d4_43) rfl ?_
    refine X354.daload hx ((congrArg (fun (HH : Heap) => HH[A]?) (e354 : T354.heap = h337)).trans Ar360.1) (State.isArrayOf_alike hZ.alike Ar360.2.1) Ar360.2.2 in360 (H360.at in360 rfl) (g := (mkF m 45 #[.val (.ref a), .val (.int (3 : Int32)), .val (.ref on), .val (.ref pl), .val (.int (2 : Int32)), .val (.ref c3), .val (.int (0 : Int32)), .unset] [(.int (2 : Int32)), (.ref A), (.ref c3)])) rfl rfl (Jvm.hb hby d4_45) _ ?_
    exact st361 τ kt)
  have f364 := (f315.other W326 (Or.inl ne_a_on))
  have f365 := f364.ext E337
  have f366 := f365.keep Kq361 (ninS ne_a_c3 (nin0))
  obtain ⟨T363, X363, e363, st363⟩ := getF X361 hx hZ hown (host := "") (Or.inl (own_W23 hw)) Via.refl rfl f366 (g := (mkF m 55 #[.val (.ref a), .val (.int (3 : Int32)), .val (.ref on), .val (.ref pl), .val (.int (2 : Int32)), .val (.ref c3), .val (.int (0 : Int32)), .unset] [(.ref a), (.int (0 : Int32))])) rfl rfl (Jvm.hb hby d4_55)
  have pre367 := fun (τ : State) kt => pre362 τ (by
    show Steps p.tables e below (T361.setTop (mkF m 49 #[.val (.ref a), .val (.int (3 : Int32)), .val (.ref on), .val (.ref pl), .val (.int (2 : Int32)), .val (.ref c3), .val (.int (0 : Int32)), .unset] [])) τ
    refine XS.iconst X361.here hx rfl (Jvm.hb hby d4_49) ?_
    refine XS.istore X361.here hx rfl (Jvm.hb hby d4_50) rfl (l' := #[.val (.ref a), .val (.int (3 : Int32)), .val (.ref on), .val (.ref pl), .val (.int (2 : Int32)), .val (.ref c3), .val (.int (0 : Int32)), .unset]) rfl ?_
    refine XS.iload X361.here hx rfl (Jvm.hb hby d4_52) rfl ?_
    refine XS.aloadN X361.here hx rfl (Jvm.hb hby d4_54) rfl rfl ?_
    exact st363 τ kt)
  have f368 := f346.ext E337
  have f369 := f368.keep Kq361 (ninS ne_Cn_c3 (nin0))
  obtain ⟨cl370, Ar370, q370, S370, M370, H370, U370⟩ := id f369
  have in370 : ¬ ((2 : Int32) < 0 ∨ cl370.slots.size ≤ ((2 : Int32)).toNatClampNeg) := inb_of S370 ⟨by decide, by decide⟩
  have f372 := A337.keep Kq361
  obtain ⟨_, T371, L371, X371, ⟨rfl, Nq371, eq371⟩, st371⟩ := own_virt (y := own_mn3) (b := c3) X363 hx hZ hown (own_W67 hw) (own_W68 hw) (own_W70 hw) (own_W69 hw) (by decide) (rmSV l Z a0 hw [] c3 x2 T361.heap n0 (Nat.le_trans Z0 K361.1) Fs361) (own_W71 hw) (own_W53 hw) 2 (by decide) (by decide) f372 e363 (mkF m 90 #[.val (.ref a), .val (.int (3 : Int32)), .val (.ref on), .val (.ref pl), .val (.int (2 : Int32)), .val (.ref c3), .val (.int (0 : Int32)), .unset] [(.ref c3), (.int (2 : Int32)), (.ref on)]) rfl (by rw [hml]; rfl) [] [(.int (2 : Int32)), (.ref on)] rfl (lenOf own_pd___D rfl) rfl (Nat.le_refl _) (Jvm.hb hby d4_90) (by decide) (by decide)
  have N371 := Fr.app N361 Nq371
  have pre373 := fun (τ : State) kt => pre367 τ (by
    show Steps p.tables e below (T363.setTop (mkF m 58 #[.val (.ref a), .val (.int (3 : Int32)), .val (.ref on), .val (.ref pl), .val (.int (2 : Int32)), .val (.ref c3), .val (.int (0 : Int32)), .unset] [(.ref Cn), (.int (0 : Int32))])) τ
    refine XS.iload X363.here hx rfl (Jvm.hb hby d4_58) rfl ?_
    refine X363.iaload hx ((congrArg (fun (HH : Heap) => HH[Cn]?) (e363 : T363.heap = T361.heap)).trans Ar370.1) (State.isArrayOf_alike hZ.alike Ar370.2.1) Ar370.2.2 in370 (H370.at in370 rfl) (g := (mkF m 60 #[.val (.ref a), .val (.int (3 : Int32)), .val (.ref on), .val (.ref pl), .val (.int (2 : Int32)), .val (.ref c3), .val (.int (0 : Int32)), .unset] [(.int (2 : Int32)), (.ref Cn), (.int (0 : Int32))])) rfl rfl (Jvm.hb hby d4_60) _ ?_
    refine XS.icmpYes X363.here hx rfl (pc0 := 61) (pc' := 85) rfl (Jvm.hb hby d4_61) rfl (flt (by decide)).2.1 (by decide) (by decide) ?_
    refine XS.aloadN X363.here hx rfl (Jvm.hb hby d4_85) rfl rfl ?_
    refine XS.iload X363.here hx rfl (Jvm.hb hby d4_86) rfl ?_
    refine XS.aload X363.here hx rfl (Jvm.hb hby d4_88) rfl rfl ?_
    exact st371 τ kt)
  have f374 := V326.ext E337
  have f375 := f374.keep Kq361 (ninS ne_on_c3 (nin0))
  obtain ⟨cl376, Ar376, q376, S376, M376, H376, U376⟩ := id f375
  obtain ⟨T377, h377, X377, e377, W377, st377⟩ := own_stD X371 hx hZ eq371 Ar376 (j := (2 : Int32)) (inb_of S376 ⟨by decide, by decide⟩) (g := (mkF m 93 #[.val (.ref a), .val (.int (3 : Int32)), .val (.ref on), .val (.ref pl), .val (.int (2 : Int32)), .val (.ref c3), .val (.int (0 : Int32)), .unset] [(.double x2), (.int (2 : Int32)), (.ref on)])) rfl rfl (Jvm.hb hby d4_93)
  have V377 : Arv Z h377 on k222 .double (3 : Int32) [(.double x0), (.double x1), (.double x2)] (.double (0 : UInt64)) := Arv.set Ar376 q376 S376 M376 H376 U376 rfl W377 2 rfl (Nat.le_of_ble_eq_true rfl)
  have N377 := Fr.snoc X377 N371 g_on
  have K377 : Keep h0 h377 [] := K361.wr W377 (Or.inr sz_on)
  have pre378 := fun (τ : State) kt => pre373 τ (st377 τ kt)
  have f380 := f331.ext E337
  have f381 := f380.keep Kq361 (ninS ne_a_c3 (nin0))
  have f382 := (f381.other W377 (Or.inl ne_a_on))
  obtain ⟨T379, X379, e379, st379⟩ := getF X377 hx hZ hown (host := "") (Or.inl (own_W27 hw)) Via.refl e377 f382 (g := (mkF m 100 #[.val (.ref a), .val (.int (3 : Int32)), .val (.ref on), .val (.ref pl), .val (.int (2 : Int32)), .val (.ref c3), .val (.int (0 : Int32)), .unset] [(.ref a), (.int (0 : Int32))])) rfl rfl (Jvm.hb hby d4_100)
  have pre383 := fun (τ : State) kt => pre378 τ (by
    show Steps p.tables e below (T377.setTop (mkF m 94 #[.val (.ref a), .val (.int (3 : Int32)), .val (.ref on), .val (.ref pl), .val (.int (2 : Int32)), .val (.ref c3), .val (.int (0 : Int32)), .unset] [])) τ
    refine XS.iconst X377.here hx rfl (Jvm.hb hby d4_94) ?_
    refine XS.istore X377.here hx rfl (Jvm.hb hby d4_95) rfl (l' := #[.val (.ref a), .val (.int (3 : Int32)), .val (.ref on), .val (.ref pl), .val (.int (2 : Int32)), .val (.ref c3), .val (.int (0 : Int32)), .unset]) rfl ?_
    refine XS.iload X377.here hx rfl (Jvm.hb hby d4_97) rfl ?_
    refine XS.aloadN X377.here hx rfl (Jvm.hb hby d4_99) rfl rfl ?_
    exact st379 τ kt)
  have f384 := f335.ext E337
  have f385 := f384.keep Kq361 (ninS ne_Dn_c3 (nin0))
  have f386 := f385.other W377 ne_Dn_on
  obtain ⟨cl387, Ar387, q387, S387, M387, H387, U387⟩ := id f386
  have in387 : ¬ ((2 : Int32) < 0 ∨ cl387.slots.size ≤ ((2 : Int32)).toNatClampNeg) := inb_of S387 ⟨by decide, by decide⟩
  obtain ⟨T388, h388, k388, X388, e388, E388, A388, st388⟩ := newP (aty := .double) X379 hx hZ (own_W9 hw) e379 (g := (mkF m 154 #[.val (.ref a), .val (.int (3 : Int32)), .val (.ref on), .val (.ref pl), .val (.int (3 : Int32)), .val (.ref c3), .val (.int (0 : Int32)), .unset] [(.int (3 : Int32))])) rfl (Jvm.hb hby d4_154) rfl (by decide) (cap := 3) (by decide) (by decide) (by decide) (by decide)
  obtain ⟨so, g388⟩ : ∃ z, z = h377.size := ⟨_, rfl⟩
  rw [← g388] at A388 st388
  have f389 := f340.ext E337
  have f390 := f389.keep Kq361
  have f391 := f390.wr W377
  have ne_a_so : a ≠ so := Nat.ne_of_lt (Nat.lt_of_lt_of_le f391.lt (Nat.le_of_eq g388.symm))
  have f392 := f359.keep Kq361 (ninS ne_A_c3 (nin0))
  have f393 := f392.other W377 ne_A_on
  have ne_A_so : A ≠ so := Nat.ne_of_lt (Nat.lt_of_lt_of_le f393.lt (Nat.le_of_eq g388.symm))
  have f394 := f345.ext E337
  have f395 := f394.keep Kq361 (ninS ne_B_c3 (nin0))
  have f396 := f395.other W377 ne_B_on
  have ne_B_so : B ≠ so := Nat.ne_of_lt (Nat.lt_of_lt_of_le f396.lt (Nat.le_of_eq g388.symm))
  have f397 := f369.other W377 ne_Cn_on
  have ne_Cn_so : Cn ≠ so := Nat.ne_of_lt (Nat.lt_of_lt_of_le f397.lt (Nat.le_of_eq g388.symm))
  have ne_Dn_so : Dn ≠ so := Nat.ne_of_lt (Nat.lt_of_lt_of_le f386.lt (Nat.le_of_eq g388.symm))
  have ne_on_so : on ≠ so := Nat.ne_of_lt (Nat.lt_of_lt_of_le V377.lt (Nat.le_of_eq g388.symm))
  have f398 := f349.ext E337
  have f399 := f398.keep Kq361
  have f400 := f399.wr W377
  have ne_c1_so : c1 ≠ so := Nat.ne_of_lt (Nat.lt_of_lt_of_le f400.lt (Nat.le_of_eq g388.symm))
  have f401 := f350.ext E337
  have f402 := f401.keep Kq361
  have f403 := f402.wr W377
  have ne_c2_so : c2 ≠ so := Nat.ne_of_lt (Nat.lt_of_lt_of_le f403.lt (Nat.le_of_eq g388.symm))
  have f404 := f372.wr W377
  have ne_c3_so : c3 ≠ so := Nat.ne_of_lt (Nat.lt_of_lt_of_le f404.lt (Nat.le_of_eq g388.symm))
  have g_so : n0 ≤ so := Nat.le_trans (Nat.le_trans Z0 K377.1) (Nat.le_of_eq g388.symm)
  have sz_so : h0.size ≤ so := Nat.le_trans K377.1 (Nat.le_of_eq g388.symm)
  have K388 : Keep h0 h388 [] := K377.ext E388
  have V_so : Arv Z h388 so k388 .double (3 : Int32) [(.double (0 : UInt64)), (.double (0 : UInt64)), (.double (0 : UInt64))] (.double (0 : UInt64)) := (Arv.new A388 (by decide)).pad (pad_rep [] (.double (0 : UInt64)) 3)
  have pre405 := fun (τ : State) kt => pre383 τ (by
    show Steps p.tables e below (T379.setTop (mkF m 103 #[.val (.ref a), .val (.int (3 : Int32)), .val (.ref on), .val (.ref pl), .val (.int (2 : Int32)), .val (.ref c3), .val (.int (0 : Int32)), .unset] [(.ref Dn), (.int (0 : Int32))])) τ
    refine XS.iload X379.here hx rfl (Jvm.hb hby d4_103) rfl ?_
    refine X379.iaload hx ((congrArg (fun (HH : Heap) => HH[Dn]?) (e379 : T379.heap = h377)).trans Ar387.1) (State.isArrayOf_alike hZ.alike Ar387.2.1) Ar387.2.2 in387 (H387.at in387 rfl) (g := (mkF m 105 #[.val (.ref a), .val (.int (3 : Int32)), .val (.ref on), .val (.ref pl), .val (.int (2 : Int32)), .val (.ref c3), .val (.int (0 : Int32)), .unset] [(.int (2 : Int32)), (.ref Dn), (.int (0 : Int32))])) rfl rfl (Jvm.hb hby d4_105) _ ?_
    refine XS.icmpYes X379.here hx rfl (pc0 := 106) (pc' := 147) rfl (Jvm.hb hby d4_106) rfl (flt (by decide)).2.1 (by decide) (by decide) ?_
    refine XS.iinc X379.here hx rfl (Jvm.hb hby d4_147) rfl (l' := #[.val (.ref a), .val (.int (3 : Int32)), .val (.ref on), .val (.ref pl), .val (.int (3 : Int32)), .val (.ref c3), .val (.int (0 : Int32)), .unset]) rfl ?_
    refine XS.goto X379.here hx rfl (pc0 := 150) (pc' := 22) rfl (Jvm.hb hby d4_150) (by decide) (by decide) ?_
    refine XS.iload X379.here hx rfl (Jvm.hb hby d4_22) rfl ?_
    refine XS.iloadN X379.here hx rfl (Jvm.hb hby d4_24) rfl ?_
    refine XS.icmpYes X379.here hx rfl (pc0 := 25) (pc' := 153) rfl (Jvm.hb hby d4_25) rfl (flt (by decide)).2.1 (by decide) (by decide) ?_
    refine XS.iloadN X379.here hx rfl (Jvm.hb hby d4_153) rfl ?_
    exact st388 τ kt)
  obtain ⟨T406, h406, X406, e406, E406, A406, D406, -, st406⟩ := newO X388 hx hZ hown (own_W51 hw) (own_W52 hw) (own_W53 hw) e388 (g := (mkF m 168 #[.val (.ref a), .val (.int (3 : Int32)), .val (.ref on), .val (.ref pl), .val (.ref so), .val (.int (2 : Int32)), .val (.int (0 : Int32)), .unset] [])) rfl (Jvm.hb hby d4_168) (by decide) (by decide)
  obtain ⟨c4, g406⟩ : ∃ z, z = h388.size := ⟨_, rfl⟩
  rw [← g406] at A406 D406 st406
  have f407 := f391.ext E388
  have ne_a_c4 : a ≠ c4 := Nat.ne_of_lt (Nat.lt_of_lt_of_le f407.lt (Nat.le_of_eq g406.symm))
  have f408 := f393.ext E388
  have ne_A_c4 : A ≠ c4 := Nat.ne_of_lt (Nat.lt_of_lt_of_le f408.lt (Nat.le_of_eq g406.symm))
  have f409 := f396.ext E388
  have ne_B_c4 : B ≠ c4 := Nat.ne_of_lt (Nat.lt_of_lt_of_le f409.lt (Nat.le_of_eq g406.symm))
  have f410 := f397.ext E388
  have ne_Cn_c4 : Cn ≠ c4 := Nat.ne_of_lt (Nat.lt_of_lt_of_le f410.lt (Nat.le_of_eq g406.symm))
  have f411 := f386.ext E388
  have ne_Dn_c4 : Dn ≠ c4 := Nat.ne_of_lt (Nat.lt_of_lt_of_le f411.lt (Nat.le_of_eq g406.symm))
  have f412 := V377.ext E388
  have ne_on_c4 : on ≠ c4 := Nat.ne_of_lt (Nat.lt_of_lt_of_le f412.lt (Nat.le_of_eq g406.symm))
  have f413 := f400.ext E388
  have ne_c1_c4 : c1 ≠ c4 := Nat.ne_of_lt (Nat.lt_of_lt_of_le f413.lt (Nat.le_of_eq g406.symm))
  have f414 := f403.ext E388
  have ne_c2_c4 : c2 ≠ c4 := Nat.ne_of_lt (Nat.lt_of_lt_of_le f414.lt (Nat.le_of_eq g406.symm))
  have f415 := f404.ext E388
  have ne_c3_c4 : c3 ≠ c4 := Nat.ne_of_lt (Nat.lt_of_lt_of_le f415.lt (Nat.le_of_eq g406.symm))
  have ne_so_c4 : so ≠ c4 := Nat.ne_of_lt (Nat.lt_of_lt_of_le V_so.lt (Nat.le_of_eq g406.symm))
  have g_c4 : n0 ≤ c4 := Nat.le_trans (Nat.le_trans Z0 K388.1) (Nat.le_of_eq g406.symm)
  have sz_c4 : h0.size ≤ c4 := Nat.le_trans K388.1 (Nat.le_of_eq g406.symm)
  have K406 : Keep h0 h406 [] := K388.ext E406
  have F_excess_c4 : Fld Z h406 c4 "com/example/meticulous_ballot/meticulousballot/CompensatedSum" "excess" "D" (.double (0 : UInt64)) := D406 (Or.inl (own_W64 hw)) (ty := .double) (by decide)
  have F_sum_c4 : Fld Z h406 c4 "com/example/meticulous_ballot/meticulousballot/CompensatedSum" "sum" "D" (.double (0 : UInt64)) := D406 (Or.inl (own_W66 hw)) (ty := .double) (by decide)
  have pre416 := fun (τ : State) kt => pre405 τ (by
    show Steps p.tables e below (T388.setTop (mkF m 156 #[.val (.ref a), .val (.int (3 : Int32)), .val (.ref on), .val (.ref pl), .val (.int (3 : Int32)), .val (.ref c3), .val (.int (0 : Int32)), .unset] [(.ref so)])) τ
    refine XS.astore X388.here hx rfl (Jvm.hb hby d4_156) rfl rfl (l' := #[.val (.ref a), .val (.int (3 : Int32)), .val (.ref on), .val (.ref pl), .val (.ref so), .val (.ref c3), .val (.int (0 : Int32)), .unset]) rfl ?_
    refine XS.iloadN X388.here hx rfl (Jvm.hb hby d4_158) rfl ?_
    refine XS.iconst X388.here hx rfl (Jvm.hb hby d4_159) ?_
    refine XS.isub X388.here hx rfl (Jvm.hb hby d4_160) rfl ?_
    refine XS.istore X388.here hx rfl (Jvm.hb hby d4_161) rfl (l' := #[.val (.ref a), .val (.int (3 : Int32)), .val (.ref on), .val (.ref pl), .val (.ref so), .val (.int (2 : Int32)), .val (.int (0 : Int32)), .unset]) rfl ?_
    refine XS.iload X388.here hx rfl (Jvm.hb hby d4_163) rfl ?_
    refine XS.ifNo X388.here hx rfl (Jvm.hb hby d4_165) rfl ((if0 _ _).trans (flt (by decide)).1) ?_
    exact st406 τ kt)
  obtain ⟨_, T417, L417, X417, ⟨rfl, Nq417, eq417⟩, st417⟩ := own_spec (y := own_mn1) (b := c4) X406 hx hZ rfl hown (own_W54 hw) (own_W55 hw) (by decide) (rmSI l Z a0 hw [] c4 h406 n0 (Nat.le_trans Z0 K406.1)) (own_W56 hw) (own_W53 hw) 1 (by decide) (by decide) e406 (mkF m 172 #[.val (.ref a), .val (.int (3 : Int32)), .val (.ref on), .val (.ref pl), .val (.ref so), .val (.int (2 : Int32)), .val (.int (0 : Int32)), .unset] [(.ref c4), (.ref c4)]) rfl (by rw [hml]; rfl) [] [(.ref c4)] rfl (lenOf own_pd___V rfl) rfl (Nat.le_refl _) (Jvm.hb hby d4_172) (by decide) (by decide)
  have N417 := Fr.app N377 Nq417
  have pre418 := fun (τ : State) kt => pre416 τ (by
    show Steps p.tables e below (T406.setTop (mkF m 171 #[.val (.ref a), .val (.int (3 : Int32)), .val (.ref on), .val (.ref pl), .val (.ref so), .val (.int (2 : Int32)), .val (.int (0 : Int32)), .unset] [(.ref c4)])) τ
    refine XS.dup X406.here hx rfl (Jvm.hb hby d4_171) rfl rfl ?_
    exact st417 τ kt)
  have f420 := FB.ext E222
  have f421 := f420.ext E224
  have f422 := f421.keep Kq231 (ninS ne_a_pl (nin0))
  have f423 := f422.ext E233
  have f424 := f423.keep Kq257 (ninS ne_a_c1 (nin0))
  have f425 := (f424.other W275 (Or.inl ne_a_on))
  have f426 := f425.ext E289
  have f427 := f426.keep Kq310 (ninS ne_a_c2 (nin0))
  have f428 := (f427.other W326 (Or.inl ne_a_on))
  have f429 := f428.ext E337
  have f430 := f429.keep Kq361 (ninS ne_a_c3 (nin0))
  have f431 := (f430.other W377 (Or.inl ne_a_on))
  have f432 := f431.ext E388
  have f433 := f432.ext E406
  obtain ⟨T419, X419, e419, st419⟩ := getF X417 hx hZ hown (host := "") (Or.inl (own_W12 hw)) Via.refl eq417 f433 (g := (mkF m 180 #[.val (.ref a), .val (.int (3 : Int32)), .val (.ref on), .val (.ref pl), .val (.ref so), .val (.int (2 : Int32)), .val (.ref c4), .unset] [(.ref a), (.ref c4)])) rfl rfl (Jvm.hb hby d4_180)
  have pre434 := fun (τ : State) kt => pre418 τ (by
    show Steps p.tables e below (T417.setTop (mkF m 175 #[.val (.ref a), .val (.int (3 : Int32)), .val (.ref on), .val (.ref pl), .val (.ref so), .val (.int (2 : Int32)), .val (.int (0 : Int32)), .unset] [(.ref c4)])) τ
    refine XS.astore X417.here hx rfl (Jvm.hb hby d4_175) rfl rfl (l' := #[.val (.ref a), .val (.int (3 : Int32)), .val (.ref on), .val (.ref pl), .val (.ref so), .val (.int (2 : Int32)), .val (.ref c4), .unset]) rfl ?_
    refine XS.aload X417.here hx rfl (Jvm.hb hby d4_177) rfl rfl ?_
    refine XS.aloadN X417.here hx rfl (Jvm.hb hby d4_179) rfl rfl ?_
    exact st419 τ kt)
  have f435 := f409.ext E406
  obtain ⟨cl436, Ar436, q436, S436, M436, H436, U436⟩ := id f435
  have in436 : ¬ ((2 : Int32) < 0 ∨ cl436.slots.size ≤ ((2 : Int32)).toNatClampNeg) := inb_of S436 ⟨by decide, by decide⟩
  obtain ⟨_, T437, L437, X437, ⟨rfl, Nq437, Kq437, Fs437⟩, st437⟩ := own_virt (y := own_mn2) (b := c4) X419 hx hZ hown (own_W58 hw) (own_W59 hw) (own_W61 hw) (own_W60 hw) (by decide) (rmSA l Z a0 hw [] c4 w2 h406 n0 (Nat.le_trans Z0 K406.1) A406 F_sum_c4 F_excess_c4 g_c4 cc2.2.1) (own_W62 hw) (own_W53 hw) 0 (by decide) (by decide) A406 e419 (mkF m 186 #[.val (.ref a), .val (.int (3 : Int32)), .val (.ref on), .val (.ref pl), .val (.ref so), .val (.int (2 : Int32)), .val (.ref c4), .unset] [(.double w2), (.ref c4)]) rfl (by rw [hml]; rfl) [(.double w2)] [] rfl (lenOf own_pd__D_V rfl) rfl (Nat.le_refl _) (Jvm.hb hby d4_186) (by decide) (by decide)
  have N437 := Fr.app N417 Nq437
  have K437 : Keep h0 T437.heap [] := K406.trans Kq437 (allS (Or.inr sz_c4) (all0))
  have pre438 := fun (τ : State) kt => pre434 τ (by
    show Steps p.tables e below (T419.setTop (mkF m 183 #[.val (.ref a), .val (.int (3 : Int32)), .val (.ref on), .val (.ref pl), .val (.ref so), .val (.int (2 : Int32)), .val (.ref c4), .unset] [(.ref B), (.ref c4)])) τ
    refine XS.iload X419.here hx rfl (Jvm.hb hby d4_183) rfl ?_
    refine X419.daload hx ((congrArg (fun (HH : Heap) => HH[B]?) (e419 : T419.heap = h406)).trans Ar436.1) (State.isArrayOf_alike hZ.alike Ar436.2.1) Ar436.2.2 in436 (H436.at in436 rfl) (g := (mkF m 185 #[.val (.ref a), .val (.int (3 : Int32)), .val (.ref on), .val (.ref pl), .val (.ref so), .val (.int (2 : Int32)), .val (.ref c4), .unset] [(.int (2 : Int32)), (.ref B), (.ref c4)])) rfl rfl (Jvm.hb hby d4_185) _ ?_
    exact st437 τ kt)
  have f440 := (f366.other W377 (Or.inl ne_a_on))
  have f441 := f440.ext E388
  have f442 := f441.ext E406
  have f443 := f442.keep Kq437 (ninS ne_a_c4 (nin0))
  obtain ⟨T439, X439, e439, st439⟩ := getF X437 hx hZ hown (host := "") (Or.inl (own_W23 hw)) Via.refl rfl f443 (g := (mkF m 195 #[.val (.ref a), .val (.int (3 : Int32)), .val (.ref on), .val (.ref pl), .val (.ref so), .val (.int (2 : Int32)), .val (.ref c4), .val (.int (0 : Int32))] [(.ref a), (.int (0 : Int32))])) rfl rfl (Jvm.hb hby d4_195)
  have pre444 := fun (τ : State) kt => pre438 τ (by
    show Steps p.tables e below (T437.setTop (mkF m 189 #[.val (.ref a), .val (.int (3 : Int32)), .val (.ref on), .val (.ref pl), .val (.ref so), .val (.int (2 : Int32)), .val (.ref c4), .unset] [])) τ
    refine XS.iconst X437.here hx rfl (Jvm.hb hby d4_189) ?_
    refine XS.istore X437.here hx rfl (Jvm.hb hby d4_190) rfl (l' := #[.val (.ref a), .val (.int (3 : Int32)), .val (.ref on), .val (.ref pl), .val (.ref so), .val (.int (2 : Int32)), .val (.ref c4), .val (.int (0 : Int32))]) rfl ?_
    refine XS.iload X437.here hx rfl (Jvm.hb hby d4_192) rfl ?_
    refine XS.aloadN X437.here hx rfl (Jvm.hb hby d4_194) rfl rfl ?_
    exact st439 τ kt)
  have f445 := f410.ext E406
  have f446 := f445.keep Kq437 (ninS ne_Cn_c4 (nin0))
  obtain ⟨cl447, Ar447, q447, S447, M447, H447, U447⟩ := id f446
  have in447 : ¬ ((2 : Int32) < 0 ∨ cl447.slots.size ≤ ((2 : Int32)).toNatClampNeg) := inb_of S447 ⟨by decide, by decide⟩
  have f449 := A406.keep Kq437
  obtain ⟨_, T448, L448, X448, ⟨rfl, Nq448, eq448⟩, st448⟩ := own_virt (y := own_mn3) (b := c4) X439 hx hZ hown (own_W67 hw) (own_W68 hw) (own_W70 hw) (own_W69 hw) (by decide) (rmSV l Z a0 hw [] c4 w2 T437.heap n0 (Nat.le_trans Z0 K437.1) Fs437) (own_W71 hw) (own_W53 hw) 2 (by decide) (by decide) f449 e439 (mkF m 245 #[.val (.ref a), .val (.int (3 : Int32)), .val (.ref on), .val (.ref pl), .val (.ref so), .val (.int (2 : Int32)), .val (.ref c4), .val (.int (0 : Int32))] [(.ref c4), (.int (2 : Int32)), (.ref so)]) rfl (by rw [hml]; rfl) [] [(.int (2 : Int32)), (.ref so)] rfl (lenOf own_pd___D rfl) rfl (Nat.le_refl _) (Jvm.hb hby d4_245) (by decide) (by decide)
  have N448 := Fr.app N437 Nq448
  have pre450 := fun (τ : State) kt => pre444 τ (by
    show Steps p.tables e below (T439.setTop (mkF m 198 #[.val (.ref a), .val (.int (3 : Int32)), .val (.ref on), .val (.ref pl), .val (.ref so), .val (.int (2 : Int32)), .val (.ref c4), .val (.int (0 : Int32))] [(.ref Cn), (.int (0 : Int32))])) τ
    refine XS.iload X439.here hx rfl (Jvm.hb hby d4_198) rfl ?_
    refine X439.iaload hx ((congrArg (fun (HH : Heap) => HH[Cn]?) (e439 : T439.heap = T437.heap)).trans Ar447.1) (State.isArrayOf_alike hZ.alike Ar447.2.1) Ar447.2.2 in447 (H447.at in447 rfl) (g := (mkF m 200 #[.val (.ref a), .val (.int (3 : Int32)), .val (.ref on), .val (.ref pl), .val (.ref so), .val (.int (2 : Int32)), .val (.ref c4), .val (.int (0 : Int32))] [(.int (2 : Int32)), (.ref Cn), (.int (0 : Int32))])) rfl rfl (Jvm.hb hby d4_200) _ ?_
    refine XS.icmpYes X439.here hx rfl (pc0 := 201) (pc' := 239) rfl (Jvm.hb hby d4_201) rfl (flt (by decide)).2.1 (by decide) (by decide) ?_
    refine XS.aload X439.here hx rfl (Jvm.hb hby d4_239) rfl rfl ?_
    refine XS.iload X439.here hx rfl (Jvm.hb hby d4_241) rfl ?_
    refine XS.aload X439.here hx rfl (Jvm.hb hby d4_243) rfl rfl ?_
    exact st448 τ kt)
  have f451 := f412.ext E406
  have f452 := f451.keep Kq437 (ninS ne_on_c4 (nin0))
  obtain ⟨cl453, Ar453, q453, S453, M453, H453, U453⟩ := id f452
  have in453 : ¬ ((2 : Int32) < 0 ∨ cl453.slots.size ≤ ((2 : Int32)).toNatClampNeg) := inb_of S453 ⟨by decide, by decide⟩
  have f454 := V_so.ext E406
  have f455 := f454.keep Kq437 (ninS ne_so_c4 (nin0))
  obtain ⟨cl456, Ar456, q456, S456, M456, H456, U456⟩ := id f455
  obtain ⟨T457, h457, X457, e457, W457, st457⟩ := own_stD X448 hx hZ eq448 Ar456 (j := (2 : Int32)) (inb_of S456 ⟨by decide, by decide⟩) (g := (mkF m 253 #[.val (.ref a), .val (.int (3 : Int32)), .val (.ref on), .val (.ref pl), .val (.ref so), .val (.int (2 : Int32)), .val (.ref c4), .val (.int (0 : Int32))] [(.double (FP.ddiv w2 x2)), (.int (2 : Int32)), (.ref so)])) rfl rfl (Jvm.hb hby d4_253)
  have V457 : Arv Z h457 so k388 .double (3 : Int32) [(.double (0 : UInt64)), (.double (0 : UInt64)), (.double (FP.ddiv w2 x2))] (.double (0 : UInt64)) := Arv.set Ar456 q456 S456 M456 H456 U456 rfl W457 2 rfl (Nat.le_of_ble_eq_true rfl)
  have N457 := Fr.snoc X457 N448 g_so
  have K457 : Keep h0 h457 [] := K437.wr W457 (Or.inr sz_so)
  have pre458 := fun (τ : State) kt => pre450 τ (by
    show Steps p.tables e below (T448.setTop (mkF m 248 #[.val (.ref a), .val (.int (3 : Int32)), .val (.ref on), .val (.ref pl), .val (.ref so), .val (.int (2 : Int32)), .val (.ref c4), .val (.int (0 : Int32))] [(.double w2), (.int (2 : Int32)), (.ref so)])) τ
    refine XS.aloadN X448.here hx rfl (Jvm.hb hby d4_248) rfl rfl ?_
    refine XS.iload X448.here hx rfl (Jvm.hb hby d4_249) rfl ?_
    refine X448.daload hx ((congrArg (fun (HH : Heap) => HH[on]?) (eq448 : T448.heap = T437.heap)).trans Ar453.1) (State.isArrayOf_alike hZ.alike Ar453.2.1) Ar453.2.2 in453 (H453.at in453 rfl) (g := (mkF m 251 #[.val (.ref a), .val (.int (3 : Int32)), .val (.ref on), .val (.ref pl), .val (.ref so), .val (.int (2 : Int32)), .val (.ref c4), .val (.int (0 : Int32))] [(.int (2 : Int32)), (.ref on), (.double w2), (.int (2 : Int32)), (.ref so)])) rfl rfl (Jvm.hb hby d4_251) _ ?_
    refine own_ddiv X448.here hx rfl (Jvm.hb hby d4_252) rfl (cc2.2.2) ?_
    exact st457 τ kt)
  obtain ⟨T459, h459, X459, e459, E459, A459, D459, -, st459⟩ := newO X457 hx hZ hown (own_W51 hw) (own_W52 hw) (own_W53 hw) e457 (g := (mkF m 168 #[.val (.ref a), .val (.int (3 : Int32)), .val (.ref on), .val (.ref pl), .val (.ref so), .val (.int (1 : Int32)), .val (.ref c4), .val (.int (0 : Int32))] [])) rfl (Jvm.hb hby d4_168) (by decide) (by decide)
  obtain ⟨c5, g459⟩ : ∃ z, z = h457.size := ⟨_, rfl⟩
  rw [← g459] at A459 D459 st459
  have f460 := f407.ext E406
  have f461 := f460.keep Kq437
  have f462 := f461.wr W457
  have ne_a_c5 : a ≠ c5 := Nat.ne_of_lt (Nat.lt_of_lt_of_le f462.lt (Nat.le_of_eq g459.symm))
  have f463 := f408.ext E406
  have f464 := f463.keep Kq437 (ninS ne_A_c4 (nin0))
  have f465 := f464.other W457 ne_A_so
  have ne_A_c5 : A ≠ c5 := Nat.ne_of_lt (Nat.lt_of_lt_of_le f465.lt (Nat.le_of_eq g459.symm))
  have f466 := f435.keep Kq437 (ninS ne_B_c4 (nin0))
  have f467 := f466.other W457 ne_B_so
  have ne_B_c5 : B ≠ c5 := Nat.ne_of_lt (Nat.lt_of_lt_of_le f467.lt (Nat.le_of_eq g459.symm))
  have f468 := f446.other W457 ne_Cn_so
  have ne_Cn_c5 : Cn ≠ c5 := Nat.ne_of_lt (Nat.lt_of_lt_of_le f468.lt (Nat.le_of_eq g459.symm))
  have f469 := f411.ext E406
  have f470 := f469.keep Kq437 (ninS ne_Dn_c4 (nin0))
  have f471 := f470.other W457 ne_Dn_so
  have ne_Dn_c5 : Dn ≠ c5 := Nat.ne_of_lt (Nat.lt_of_lt_of_le f471.lt (Nat.le_of_eq g459.symm))
  have f472 := f452.other W457 ne_on_so
  have ne_on_c5 : on ≠ c5 := Nat.ne_of_lt (Nat.lt_of_lt_of_le f472.lt (Nat.le_of_eq g459.symm))
  have f473 := f413.ext E406
  have f474 := f473.keep Kq437
  have f475 := f474.wr W457
  have ne_c1_c5 : c1 ≠ c5 := Nat.ne_of_lt (Nat.lt_of_lt_of_le f475.lt (Nat.le_of_eq g459.symm))
  have f476 := f414.ext E406
  have f477 := f476.keep Kq437
  have f478 := f477.wr W457
  have ne_c2_c5 : c2 ≠ c5 := Nat.ne_of_lt (Nat.lt_of_lt_of_le f478.lt (Nat.le_of_eq g459.symm))
  have f479 := f415.ext E406
  have f480 := f479.keep Kq437
  have f481 := f480.wr W457
  have ne_c3_c5 : c3 ≠ c5 := Nat.ne_of_lt (Nat.lt_of_lt_of_le f481.lt (Nat.le_of_eq g459.symm))
  have ne_so_c5 : so ≠ c5 := Nat.ne_of_lt (Nat.lt_of_lt_of_le V457.lt (Nat.le_of_eq g459.symm))
  have f482 := f449.wr W457
  have ne_c4_c5 : c4 ≠ c5 := Nat.ne_of_lt (Nat.lt_of_lt_of_le f482.lt (Nat.le_of_eq g459.symm))
  have g_c5 : n0 ≤ c5 := Nat.le_trans (Nat.le_trans Z0 K457.1) (Nat.le_of_eq g459.symm)
  have sz_c5 : h0.size ≤ c5 := Nat.le_trans K457.1 (Nat.le_of_eq g459.symm)
  have K459 : Keep h0 h459 [] := K457.ext E459
  have F_excess_c5 : Fld Z h459 c5 "com/example/meticulous_ballot/meticulousballot/CompensatedSum" "excess" "D" (.double (0 : UInt64)) := D459 (Or.inl (own_W64 hw)) (ty := .double) (by decide)
  have F_sum_c5 : Fld Z h459 c5 "com/example/meticulous_ballot/meticulousballot/CompensatedSum" "sum" "D" (.double (0 : UInt64)) := D459 (Or.inl (own_W66 hw)) (ty := .double) (by decide)
  have pre483 := fun (τ : State) kt => pre458 τ (by
    show Steps p.tables e below (T457.setTop (mkF m 254 #[.val (.ref a), .val (.int (3 : Int32)), .val (.ref on), .val (.ref pl), .val (.ref so), .val (.int (2 : Int32)), .val (.ref c4), .val (.int (0 : Int32))] [])) τ
    refine XS.iinc X457.here hx rfl (Jvm.hb hby d4_254) rfl (l' := #[.val (.ref a), .val (.int (3 : Int32)), .val (.ref on), .val (.ref pl), .val (.ref so), .val (.int (1 : Int32)), .val (.ref c4), .val (.int (0 : Int32))]) rfl ?_
    refine XS.goto X457.here hx rfl (pc0 := 257) (pc' := 163) rfl (Jvm.hb hby d4_257) (by decide) (by decide) ?_
    refine XS.iload X457.here hx rfl (Jvm.hb hby d4_163) rfl ?_
    refine XS.ifNo X457.here hx rfl (Jvm.hb hby d4_165) rfl ((if0 _ _).trans (flt (by decide)).1) ?_
    exact st459 τ kt)
  obtain ⟨_, T484, L484, X484, ⟨rfl, Nq484, eq484⟩, st484⟩ := own_spec (y := own_mn1) (b := c5) X459 hx hZ rfl hown (own_W54 hw) (own_W55 hw) (by decide) (rmSI l Z a0 hw [] c5 h459 n0 (Nat.le_trans Z0 K459.1)) (own_W56 hw) (own_W53 hw) 1 (by decide) (by decide) e459 (mkF m 172 #[.val (.ref a), .val (.int (3 : Int32)), .val (.ref on), .val (.ref pl), .val (.ref so), .val (.int (1 : Int32)), .val (.ref c4), .val (.int (0 : Int32))] [(.ref c5), (.ref c5)]) rfl (by rw [hml]; rfl) [] [(.ref c5)] rfl (lenOf own_pd___V rfl) rfl (Nat.le_refl _) (Jvm.hb hby d4_172) (by decide) (by decide)
  have N484 := Fr.app N457 Nq484
  have pre485 := fun (τ : State) kt => pre483 τ (by
    show Steps p.tables e below (T459.setTop (mkF m 171 #[.val (.ref a), .val (.int (3 : Int32)), .val (.ref on), .val (.ref pl), .val (.ref so), .val (.int (1 : Int32)), .val (.ref c4), .val (.int (0 : Int32))] [(.ref c5)])) τ
    refine XS.dup X459.here hx rfl (Jvm.hb hby d4_171) rfl rfl ?_
    exact st484 τ kt)
  have f487 := f433.keep Kq437 (ninS ne_a_c4 (nin0))
  have f488 := (f487.other W457 (Or.inl ne_a_so))
  have f489 := f488.ext E459
  obtain ⟨T486, X486, e486, st486⟩ := getF X484 hx hZ hown (host := "") (Or.inl (own_W12 hw)) Via.refl eq484 f489 (g := (mkF m 180 #[.val (.ref a), .val (.int (3 : Int32)), .val (.ref on), .val (.ref pl), .val (.ref so), .val (.int (1 : Int32)), .val (.ref c5), .val (.int (0 : Int32))] [(.ref a), (.ref c5)])) rfl rfl (Jvm.hb hby d4_180)
  have pre490 := fun (τ : State) kt => pre485 τ (by
    show Steps p.tables e below (T484.setTop (mkF m 175 #[.val (.ref a), .val (.int (3 : Int32)), .val (.ref on), .val (.ref pl), .val (.ref so), .val (.int (1 : Int32)), .val (.ref c4), .val (.int (0 : Int32))] [(.ref c5)])) τ
    refine XS.astore X484.here hx rfl (Jvm.hb hby d4_175) rfl rfl (l' := #[.val (.ref a), .val (.int (3 : Int32)), .val (.ref on), .val (.ref pl), .val (.ref so), .val (.int (1 : Int32)), .val (.ref c5), .val (.int (0 : Int32))]) rfl ?_
    refine XS.aload X484.here hx rfl (Jvm.hb hby d4_177) rfl rfl ?_
    refine XS.aloadN X484.here hx rfl (Jvm.hb hby d4_179) rfl rfl ?_
    exact st486 τ kt)
  have f491 := f467.ext E459
  obtain ⟨cl492, Ar492, q492, S492, M492, H492, U492⟩ := id f491
  have in492 : ¬ ((1 : Int32) < 0 ∨ cl492.slots.size ≤ ((1 : Int32)).toNatClampNeg) := inb_of S492 ⟨by decide, by decide⟩
  obtain ⟨_, T493, L493, X493, ⟨rfl, Nq493, Kq493, Fs493⟩, st493⟩ := own_virt (y := own_mn2) (b := c5) X486 hx hZ hown (own_W58 hw) (own_W59 hw) (own_W61 hw) (own_W60 hw) (by decide) (rmSA l Z a0 hw [] c5 w1 h459 n0 (Nat.le_trans Z0 K459.1) A459 F_sum_c5 F_excess_c5 g_c5 cc1.2.1) (own_W62 hw) (own_W53 hw) 0 (by decide) (by decide) A459 e486 (mkF m 186 #[.val (.ref a), .val (.int (3 : Int32)), .val (.ref on), .val (.ref pl), .val (.ref so), .val (.int (1 : Int32)), .val (.ref c5), .val (.int (0 : Int32))] [(.double w1), (.ref c5)]) rfl (by rw [hml]; rfl) [(.double w1)] [] rfl (lenOf own_pd__D_V rfl) rfl (Nat.le_refl _) (Jvm.hb hby d4_186) (by decide) (by decide)
  have N493 := Fr.app N484 Nq493
  have K493 : Keep h0 T493.heap [] := K459.trans Kq493 (allS (Or.inr sz_c5) (all0))
  have pre494 := fun (τ : State) kt => pre490 τ (by
    show Steps p.tables e below (T486.setTop (mkF m 183 #[.val (.ref a), .val (.int (3 : Int32)), .val (.ref on), .val (.ref pl), .val (.ref so), .val (.int (1 : Int32)), .val (.ref c5), .val (.int (0 : Int32))] [(.ref B), (.ref c5)])) τ
    refine XS.iload X486.here hx rfl (Jvm.hb hby d4_183) rfl ?_
    refine X486.daload hx ((congrArg (fun (HH : Heap) => HH[B]?) (e486 : T486.heap = h459)).trans Ar492.1) (State.isArrayOf_alike hZ.alike Ar492.2.1) Ar492.2.2 in492 (H492.at in492 rfl) (g := (mkF m 185 #[.val (.ref a), .val (.int (3 : Int32)), .val (.ref on), .val (.ref pl), .val (.ref so), .val (.int (1 : Int32)), .val (.ref c5), .val (.int (0 : Int32))] [(.int (1 : Int32)), (.ref B), (.ref c5)])) rfl rfl (Jvm.hb hby d4_185) _ ?_
    exact st493 τ kt)
  have f496 := (f443.other W457 (Or.inl ne_a_so))
  have f497 := f496.ext E459
  have f498 := f497.keep Kq493 (ninS ne_a_c5 (nin0))
  obtain ⟨T495, X495, e495, st495⟩ := getF X493 hx hZ hown (host := "") (Or.inl (own_W23 hw)) Via.refl rfl f498 (g := (mkF m 195 #[.val (.ref a), .val (.int (3 : Int32)), .val (.ref on), .val (.ref pl), .val (.ref so), .val (.int (1 : Int32)), .val (.ref c5), .val (.int (0 : Int32))] [(.ref a), (.int (0 : Int32))])) rfl rfl (Jvm.hb hby d4_195)
  have pre499 := fun (τ : State) kt => pre494 τ (by
    show Steps p.tables e below (T493.setTop (mkF m 189 #[.val (.ref a), .val (.int (3 : Int32)), .val (.ref on), .val (.ref pl), .val (.ref so), .val (.int (1 : Int32)), .val (.ref c5), .val (.int (0 : Int32))] [])) τ
    refine XS.iconst X493.here hx rfl (Jvm.hb hby d4_189) ?_
    refine XS.istore X493.here hx rfl (Jvm.hb hby d4_190) rfl (l' := #[.val (.ref a), .val (.int (3 : Int32)), .val (.ref on), .val (.ref pl), .val (.ref so), .val (.int (1 : Int32)), .val (.ref c5), .val (.int (0 : Int32))]) rfl ?_
    refine XS.iload X493.here hx rfl (Jvm.hb hby d4_192) rfl ?_
    refine XS.aloadN X493.here hx rfl (Jvm.hb hby d4_194) rfl rfl ?_
    exact st495 τ kt)
  have f500 := f468.ext E459
  have f501 := f500.keep Kq493 (ninS ne_Cn_c5 (nin0))
  obtain ⟨cl502, Ar502, q502, S502, M502, H502, U502⟩ := id f501
  have in502 : ¬ ((1 : Int32) < 0 ∨ cl502.slots.size ≤ ((1 : Int32)).toNatClampNeg) := inb_of S502 ⟨by decide, by decide⟩
  have f504 := A459.keep Kq493
  obtain ⟨_, T503, L503, X503, ⟨rfl, Nq503, eq503⟩, st503⟩ := own_virt (y := own_mn3) (b := c5) X495 hx hZ hown (own_W67 hw) (own_W68 hw) (own_W70 hw) (own_W69 hw) (by decide) (rmSV l Z a0 hw [] c5 w1 T493.heap n0 (Nat.le_trans Z0 K493.1) Fs493) (own_W71 hw) (own_W53 hw) 2 (by decide) (by decide) f504 e495 (mkF m 245 #[.val (.ref a), .val (.int (3 : Int32)), .val (.ref on), .val (.ref pl), .val (.ref so), .val (.int (1 : Int32)), .val (.ref c5), .val (.int (0 : Int32))] [(.ref c5), (.int (1 : Int32)), (.ref so)]) rfl (by rw [hml]; rfl) [] [(.int (1 : Int32)), (.ref so)] rfl (lenOf own_pd___D rfl) rfl (Nat.le_refl _) (Jvm.hb hby d4_245) (by decide) (by decide)
  have N503 := Fr.app N493 Nq503
  have pre505 := fun (τ : State) kt => pre499 τ (by
    show Steps p.tables e below (T495.setTop (mkF m 198 #[.val (.ref a), .val (.int (3 : Int32)), .val (.ref on), .val (.ref pl), .val (.ref so), .val (.int (1 : Int32)), .val (.ref c5), .val (.int (0 : Int32))] [(.ref Cn), (.int (0 : Int32))])) τ
    refine XS.iload X495.here hx rfl (Jvm.hb hby d4_198) rfl ?_
    refine X495.iaload hx ((congrArg (fun (HH : Heap) => HH[Cn]?) (e495 : T495.heap = T493.heap)).trans Ar502.1) (State.isArrayOf_alike hZ.alike Ar502.2.1) Ar502.2.2 in502 (H502.at in502 rfl) (g := (mkF m 200 #[.val (.ref a), .val (.int (3 : Int32)), .val (.ref on), .val (.ref pl), .val (.ref so), .val (.int (1 : Int32)), .val (.ref c5), .val (.int (0 : Int32))] [(.int (1 : Int32)), (.ref Cn), (.int (0 : Int32))])) rfl rfl (Jvm.hb hby d4_200) _ ?_
    refine XS.icmpYes X495.here hx rfl (pc0 := 201) (pc' := 239) rfl (Jvm.hb hby d4_201) rfl (flt (by decide)).2.1 (by decide) (by decide) ?_
    refine XS.aload X495.here hx rfl (Jvm.hb hby d4_239) rfl rfl ?_
    refine XS.iload X495.here hx rfl (Jvm.hb hby d4_241) rfl ?_
    refine XS.aload X495.here hx rfl (Jvm.hb hby d4_243) rfl rfl ?_
    exact st503 τ kt)
  have f506 := f472.ext E459
  have f507 := f506.keep Kq493 (ninS ne_on_c5 (nin0))
  obtain ⟨cl508, Ar508, q508, S508, M508, H508, U508⟩ := id f507
  have in508 : ¬ ((1 : Int32) < 0 ∨ cl508.slots.size ≤ ((1 : Int32)).toNatClampNeg) := inb_of S508 ⟨by decide, by decide⟩
  have f509 := V457.ext E459
  have f510 := f509.keep Kq493 (ninS ne_so_c5 (nin0))
  obtain ⟨cl511, Ar511, q511, S511, M511, H511, U511⟩ := id f510
  obtain ⟨T512, h512, X512, e512, W512, st512⟩ := own_stD X503 hx hZ eq503 Ar511 (j := (1 : Int32)) (inb_of S511 ⟨by decide, by decide⟩) (g := (mkF m 253 #[.val (.ref a), .val (.int (3 : Int32)), .val (.ref on), .val (.ref pl), .val (.ref so), .val (.int (1 : Int32)), .val (.ref c5), .val (.int (0 : Int32))] [(.double (FP.ddiv w1 x1)), (.int (1 : Int32)), (.ref so)])) rfl rfl (Jvm.hb hby d4_253)
  have V512 : Arv Z h512 so k388 .double (3 : Int32) [(.double (0 : UInt64)), (.double (FP.ddiv w1 x1)), (.double (FP.ddiv w2 x2))] (.double (0 : UInt64)) := Arv.set Ar511 q511 S511 M511 H511 U511 rfl W512 1 rfl (Nat.le_of_ble_eq_true rfl)
  have N512 := Fr.snoc X512 N503 g_so
  have K512 : Keep h0 h512 [] := K493.wr W512 (Or.inr sz_so)
  have pre513 := fun (τ : State) kt => pre505 τ (by
    show Steps p.tables e below (T503.setTop (mkF m 248 #[.val (.ref a), .val (.int (3 : Int32)), .val (.ref on), .val (.ref pl), .val (.ref so), .val (.int (1 : Int32)), .val (.ref c5), .val (.int (0 : Int32))] [(.double w1), (.int (1 : Int32)), (.ref so)])) τ
    refine XS.aloadN X503.here hx rfl (Jvm.hb hby d4_248) rfl rfl ?_
    refine XS.iload X503.here hx rfl (Jvm.hb hby d4_249) rfl ?_
    refine X503.daload hx ((congrArg (fun (HH : Heap) => HH[on]?) (eq503 : T503.heap = T493.heap)).trans Ar508.1) (State.isArrayOf_alike hZ.alike Ar508.2.1) Ar508.2.2 in508 (H508.at in508 rfl) (g := (mkF m 251 #[.val (.ref a), .val (.int (3 : Int32)), .val (.ref on), .val (.ref pl), .val (.ref so), .val (.int (1 : Int32)), .val (.ref c5), .val (.int (0 : Int32))] [(.int (1 : Int32)), (.ref on), (.double w1), (.int (1 : Int32)), (.ref so)])) rfl rfl (Jvm.hb hby d4_251) _ ?_
    refine own_ddiv X503.here hx rfl (Jvm.hb hby d4_252) rfl (cc1.2.2) ?_
    exact st512 τ kt)
  obtain ⟨T514, h514, X514, e514, E514, A514, D514, -, st514⟩ := newO X512 hx hZ hown (own_W51 hw) (own_W52 hw) (own_W53 hw) e512 (g := (mkF m 168 #[.val (.ref a), .val (.int (3 : Int32)), .val (.ref on), .val (.ref pl), .val (.ref so), .val (.int (0 : Int32)), .val (.ref c5), .val (.int (0 : Int32))] [])) rfl (Jvm.hb hby d4_168) (by decide) (by decide)
  obtain ⟨c6, g514⟩ : ∃ z, z = h512.size := ⟨_, rfl⟩
  rw [← g514] at A514 D514 st514
  have f515 := f462.ext E459
  have f516 := f515.keep Kq493
  have f517 := f516.wr W512
  have ne_a_c6 : a ≠ c6 := Nat.ne_of_lt (Nat.lt_of_lt_of_le f517.lt (Nat.le_of_eq g514.symm))
  have f518 := f465.ext E459
  have f519 := f518.keep Kq493 (ninS ne_A_c5 (nin0))
  have f520 := f519.other W512 ne_A_so
  have ne_A_c6 : A ≠ c6 := Nat.ne_of_lt (Nat.lt_of_lt_of_le f520.lt (Nat.le_of_eq g514.symm))
  have f521 := f491.keep Kq493 (ninS ne_B_c5 (nin0))
  have f522 := f521.other W512 ne_B_so
  have ne_B_c6 : B ≠ c6 := Nat.ne_of_lt (Nat.lt_of_lt_of_le f522.lt (Nat.le_of_eq g514.symm))
  have f523 := f501.other W512 ne_Cn_so
  have ne_Cn_c6 : Cn ≠ c6 := Nat.ne_of_lt (Nat.lt_of_lt_of_le f523.lt (Nat.le_of_eq g514.symm))
  have f524 := f471.ext E459
  have f525 := f524.keep Kq493 (ninS ne_Dn_c5 (nin0))
  have f526 := f525.other W512 ne_Dn_so
  have ne_Dn_c6 : Dn ≠ c6 := Nat.ne_of_lt (Nat.lt_of_lt_of_le f526.lt (Nat.le_of_eq g514.symm))
  have f527 := f507.other W512 ne_on_so
  have ne_on_c6 : on ≠ c6 := Nat.ne_of_lt (Nat.lt_of_lt_of_le f527.lt (Nat.le_of_eq g514.symm))
  have f528 := f475.ext E459
  have f529 := f528.keep Kq493
  have f530 := f529.wr W512
  have ne_c1_c6 : c1 ≠ c6 := Nat.ne_of_lt (Nat.lt_of_lt_of_le f530.lt (Nat.le_of_eq g514.symm))
  have f531 := f478.ext E459
  have f532 := f531.keep Kq493
  have f533 := f532.wr W512
  have ne_c2_c6 : c2 ≠ c6 := Nat.ne_of_lt (Nat.lt_of_lt_of_le f533.lt (Nat.le_of_eq g514.symm))
  have f534 := f481.ext E459
  have f535 := f534.keep Kq493
  have f536 := f535.wr W512
  have ne_c3_c6 : c3 ≠ c6 := Nat.ne_of_lt (Nat.lt_of_lt_of_le f536.lt (Nat.le_of_eq g514.symm))
  have ne_so_c6 : so ≠ c6 := Nat.ne_of_lt (Nat.lt_of_lt_of_le V512.lt (Nat.le_of_eq g514.symm))
  have f537 := f482.ext E459
  have f538 := f537.keep Kq493
  have f539 := f538.wr W512
  have ne_c4_c6 : c4 ≠ c6 := Nat.ne_of_lt (Nat.lt_of_lt_of_le f539.lt (Nat.le_of_eq g514.symm))
  have f540 := f504.wr W512
  have ne_c5_c6 : c5 ≠ c6 := Nat.ne_of_lt (Nat.lt_of_lt_of_le f540.lt (Nat.le_of_eq g514.symm))
  have g_c6 : n0 ≤ c6 := Nat.le_trans (Nat.le_trans Z0 K512.1) (Nat.le_of_eq g514.symm)
  have sz_c6 : h0.size ≤ c6 := Nat.le_trans K512.1 (Nat.le_of_eq g514.symm)
  have K514 : Keep h0 h514 [] := K512.ext E514
  have F_excess_c6 : Fld Z h514 c6 "com/example/meticulous_ballot/meticulousballot/CompensatedSum" "excess" "D" (.double (0 : UInt64)) := D514 (Or.inl (own_W64 hw)) (ty := .double) (by decide)
  have F_sum_c6 : Fld Z h514 c6 "com/example/meticulous_ballot/meticulousballot/CompensatedSum" "sum" "D" (.double (0 : UInt64)) := D514 (Or.inl (own_W66 hw)) (ty := .double) (by decide)
  have pre541 := fun (τ : State) kt => pre513 τ (by
    show Steps p.tables e below (T512.setTop (mkF m 254 #[.val (.ref a), .val (.int (3 : Int32)), .val (.ref on), .val (.ref pl), .val (.ref so), .val (.int (1 : Int32)), .val (.ref c5), .val (.int (0 : Int32))] [])) τ
    refine XS.iinc X512.here hx rfl (Jvm.hb hby d4_254) rfl (l' := #[.val (.ref a), .val (.int (3 : Int32)), .val (.ref on), .val (.ref pl), .val (.ref so), .val (.int (0 : Int32)), .val (.ref c5), .val (.int (0 : Int32))]) rfl ?_
    refine XS.goto X512.here hx rfl (pc0 := 257) (pc' := 163) rfl (Jvm.hb hby d4_257) (by decide) (by decide) ?_
    refine XS.iload X512.here hx rfl (Jvm.hb hby d4_163) rfl ?_
    refine XS.ifNo X512.here hx rfl (Jvm.hb hby d4_165) rfl ((if0 _ _).trans (flt (by decide)).1) ?_
    exact st514 τ kt)
  obtain ⟨_, T542, L542, X542, ⟨rfl, Nq542, eq542⟩, st542⟩ := own_spec (y := own_mn1) (b := c6) X514 hx hZ rfl hown (own_W54 hw) (own_W55 hw) (by decide) (rmSI l Z a0 hw [] c6 h514 n0 (Nat.le_trans Z0 K514.1)) (own_W56 hw) (own_W53 hw) 1 (by decide) (by decide) e514 (mkF m 172 #[.val (.ref a), .val (.int (3 : Int32)), .val (.ref on), .val (.ref pl), .val (.ref so), .val (.int (0 : Int32)), .val (.ref c5), .val (.int (0 : Int32))] [(.ref c6), (.ref c6)]) rfl (by rw [hml]; rfl) [] [(.ref c6)] rfl (lenOf own_pd___V rfl) rfl (Nat.le_refl _) (Jvm.hb hby d4_172) (by decide) (by decide)
  have N542 := Fr.app N512 Nq542
  have pre543 := fun (τ : State) kt => pre541 τ (by
    show Steps p.tables e below (T514.setTop (mkF m 171 #[.val (.ref a), .val (.int (3 : Int32)), .val (.ref on), .val (.ref pl), .val (.ref so), .val (.int (0 : Int32)), .val (.ref c5), .val (.int (0 : Int32))] [(.ref c6)])) τ
    refine XS.dup X514.here hx rfl (Jvm.hb hby d4_171) rfl rfl ?_
    exact st542 τ kt)
  have f545 := f489.keep Kq493 (ninS ne_a_c5 (nin0))
  have f546 := (f545.other W512 (Or.inl ne_a_so))
  have f547 := f546.ext E514
  obtain ⟨T544, X544, e544, st544⟩ := getF X542 hx hZ hown (host := "") (Or.inl (own_W12 hw)) Via.refl eq542 f547 (g := (mkF m 180 #[.val (.ref a), .val (.int (3 : Int32)), .val (.ref on), .val (.ref pl), .val (.ref so), .val (.int (0 : Int32)), .val (.ref c6), .val (.int (0 : Int32))] [(.ref a), (.ref c6)])) rfl rfl (Jvm.hb hby d4_180)
  have pre548 := fun (τ : State) kt => pre543 τ (by
    show Steps p.tables e below (T542.setTop (mkF m 175 #[.val (.ref a), .val (.int (3 : Int32)), .val (.ref on), .val (.ref pl), .val (.ref so), .val (.int (0 : Int32)), .val (.ref c5), .val (.int (0 : Int32))] [(.ref c6)])) τ
    refine XS.astore X542.here hx rfl (Jvm.hb hby d4_175) rfl rfl (l' := #[.val (.ref a), .val (.int (3 : Int32)), .val (.ref on), .val (.ref pl), .val (.ref so), .val (.int (0 : Int32)), .val (.ref c6), .val (.int (0 : Int32))]) rfl ?_
    refine XS.aload X542.here hx rfl (Jvm.hb hby d4_177) rfl rfl ?_
    refine XS.aloadN X542.here hx rfl (Jvm.hb hby d4_179) rfl rfl ?_
    exact st544 τ kt)
  have f549 := f522.ext E514
  obtain ⟨cl550, Ar550, q550, S550, M550, H550, U550⟩ := id f549
  have in550 : ¬ ((0 : Int32) < 0 ∨ cl550.slots.size ≤ ((0 : Int32)).toNatClampNeg) := inb_of S550 ⟨by decide, by decide⟩
  obtain ⟨_, T551, L551, X551, ⟨rfl, Nq551, Kq551, Fs551⟩, st551⟩ := own_virt (y := own_mn2) (b := c6) X544 hx hZ hown (own_W58 hw) (own_W59 hw) (own_W61 hw) (own_W60 hw) (by decide) (rmSA l Z a0 hw [] c6 w0 h514 n0 (Nat.le_trans Z0 K514.1) A514 F_sum_c6 F_excess_c6 g_c6 cc0.2.1) (own_W62 hw) (own_W53 hw) 0 (by decide) (by decide) A514 e544 (mkF m 186 #[.val (.ref a), .val (.int (3 : Int32)), .val (.ref on), .val (.ref pl), .val (.ref so), .val (.int (0 : Int32)), .val (.ref c6), .val (.int (0 : Int32))] [(.double w0), (.ref c6)]) rfl (by rw [hml]; rfl) [(.double w0)] [] rfl (lenOf own_pd__D_V rfl) rfl (Nat.le_refl _) (Jvm.hb hby d4_186) (by decide) (by decide)
  have N551 := Fr.app N542 Nq551
  have K551 : Keep h0 T551.heap [] := K514.trans Kq551 (allS (Or.inr sz_c6) (all0))
  have pre552 := fun (τ : State) kt => pre548 τ (by
    show Steps p.tables e below (T544.setTop (mkF m 183 #[.val (.ref a), .val (.int (3 : Int32)), .val (.ref on), .val (.ref pl), .val (.ref so), .val (.int (0 : Int32)), .val (.ref c6), .val (.int (0 : Int32))] [(.ref B), (.ref c6)])) τ
    refine XS.iload X544.here hx rfl (Jvm.hb hby d4_183) rfl ?_
    refine X544.daload hx ((congrArg (fun (HH : Heap) => HH[B]?) (e544 : T544.heap = h514)).trans Ar550.1) (State.isArrayOf_alike hZ.alike Ar550.2.1) Ar550.2.2 in550 (H550.at in550 rfl) (g := (mkF m 185 #[.val (.ref a), .val (.int (3 : Int32)), .val (.ref on), .val (.ref pl), .val (.ref so), .val (.int (0 : Int32)), .val (.ref c6), .val (.int (0 : Int32))] [(.int (0 : Int32)), (.ref B), (.ref c6)])) rfl rfl (Jvm.hb hby d4_185) _ ?_
    exact st551 τ kt)
  have f554 := (f498.other W512 (Or.inl ne_a_so))
  have f555 := f554.ext E514
  have f556 := f555.keep Kq551 (ninS ne_a_c6 (nin0))
  obtain ⟨T553, X553, e553, st553⟩ := getF X551 hx hZ hown (host := "") (Or.inl (own_W23 hw)) Via.refl rfl f556 (g := (mkF m 195 #[.val (.ref a), .val (.int (3 : Int32)), .val (.ref on), .val (.ref pl), .val (.ref so), .val (.int (0 : Int32)), .val (.ref c6), .val (.int (0 : Int32))] [(.ref a), (.int (0 : Int32))])) rfl rfl (Jvm.hb hby d4_195)
  have pre557 := fun (τ : State) kt => pre552 τ (by
    show Steps p.tables e below (T551.setTop (mkF m 189 #[.val (.ref a), .val (.int (3 : Int32)), .val (.ref on), .val (.ref pl), .val (.ref so), .val (.int (0 : Int32)), .val (.ref c6), .val (.int (0 : Int32))] [])) τ
    refine XS.iconst X551.here hx rfl (Jvm.hb hby d4_189) ?_
    refine XS.istore X551.here hx rfl (Jvm.hb hby d4_190) rfl (l' := #[.val (.ref a), .val (.int (3 : Int32)), .val (.ref on), .val (.ref pl), .val (.ref so), .val (.int (0 : Int32)), .val (.ref c6), .val (.int (0 : Int32))]) rfl ?_
    refine XS.iload X551.here hx rfl (Jvm.hb hby d4_192) rfl ?_
    refine XS.aloadN X551.here hx rfl (Jvm.hb hby d4_194) rfl rfl ?_
    exact st553 τ kt)
  have f558 := f523.ext E514
  have f559 := f558.keep Kq551 (ninS ne_Cn_c6 (nin0))
  obtain ⟨cl560, Ar560, q560, S560, M560, H560, U560⟩ := id f559
  have in560 : ¬ ((0 : Int32) < 0 ∨ cl560.slots.size ≤ ((0 : Int32)).toNatClampNeg) := inb_of S560 ⟨by decide, by decide⟩
  have f562 := A514.keep Kq551
  obtain ⟨_, T561, L561, X561, ⟨rfl, Nq561, eq561⟩, st561⟩ := own_virt (y := own_mn3) (b := c6) X553 hx hZ hown (own_W67 hw) (own_W68 hw) (own_W70 hw) (own_W69 hw) (by decide) (rmSV l Z a0 hw [] c6 w0 T551.heap n0 (Nat.le_trans Z0 K551.1) Fs551) (own_W71 hw) (own_W53 hw) 2 (by decide) (by decide) f562 e553 (mkF m 245 #[.val (.ref a), .val (.int (3 : Int32)), .val (.ref on), .val (.ref pl), .val (.ref so), .val (.int (0 : Int32)), .val (.ref c6), .val (.int (0 : Int32))] [(.ref c6), (.int (0 : Int32)), (.ref so)]) rfl (by rw [hml]; rfl) [] [(.int (0 : Int32)), (.ref so)] rfl (lenOf own_pd___D rfl) rfl (Nat.le_refl _) (Jvm.hb hby d4_245) (by decide) (by decide)
  have N561 := Fr.app N551 Nq561
  have pre563 := fun (τ : State) kt => pre557 τ (by
    show Steps p.tables e below (T553.setTop (mkF m 198 #[.val (.ref a), .val (.int (3 : Int32)), .val (.ref on), .val (.ref pl), .val (.ref so), .val (.int (0 : Int32)), .val (.ref c6), .val (.int (0 : Int32))] [(.ref Cn), (.int (0 : Int32))])) τ
    refine XS.iload X553.here hx rfl (Jvm.hb hby d4_198) rfl ?_
    refine X553.iaload hx ((congrArg (fun (HH : Heap) => HH[Cn]?) (e553 : T553.heap = T551.heap)).trans Ar560.1) (State.isArrayOf_alike hZ.alike Ar560.2.1) Ar560.2.2 in560 (H560.at in560 rfl) (g := (mkF m 200 #[.val (.ref a), .val (.int (3 : Int32)), .val (.ref on), .val (.ref pl), .val (.ref so), .val (.int (0 : Int32)), .val (.ref c6), .val (.int (0 : Int32))] [(.int (0 : Int32)), (.ref Cn), (.int (0 : Int32))])) rfl rfl (Jvm.hb hby d4_200) _ ?_
    refine XS.icmpYes X553.here hx rfl (pc0 := 201) (pc' := 239) rfl (Jvm.hb hby d4_201) rfl (flt (by decide)).2.1 (by decide) (by decide) ?_
    refine XS.aload X553.here hx rfl (Jvm.hb hby d4_239) rfl rfl ?_
    refine XS.iload X553.here hx rfl (Jvm.hb hby d4_241) rfl ?_
    refine XS.aload X553.here hx rfl (Jvm.hb hby d4_243) rfl rfl ?_
    exact st561 τ kt)
  have f564 := f527.ext E514
  have f565 := f564.keep Kq551 (ninS ne_on_c6 (nin0))
  obtain ⟨cl566, Ar566, q566, S566, M566, H566, U566⟩ := id f565
  have in566 : ¬ ((0 : Int32) < 0 ∨ cl566.slots.size ≤ ((0 : Int32)).toNatClampNeg) := inb_of S566 ⟨by decide, by decide⟩
  have f567 := V512.ext E514
  have f568 := f567.keep Kq551 (ninS ne_so_c6 (nin0))
  obtain ⟨cl569, Ar569, q569, S569, M569, H569, U569⟩ := id f568
  obtain ⟨T570, h570, X570, e570, W570, st570⟩ := own_stD X561 hx hZ eq561 Ar569 (j := (0 : Int32)) (inb_of S569 ⟨by decide, by decide⟩) (g := (mkF m 253 #[.val (.ref a), .val (.int (3 : Int32)), .val (.ref on), .val (.ref pl), .val (.ref so), .val (.int (0 : Int32)), .val (.ref c6), .val (.int (0 : Int32))] [(.double (FP.ddiv w0 x0)), (.int (0 : Int32)), (.ref so)])) rfl rfl (Jvm.hb hby d4_253)
  have V570 : Arv Z h570 so k388 .double (3 : Int32) [(.double (FP.ddiv w0 x0)), (.double (FP.ddiv w1 x1)), (.double (FP.ddiv w2 x2))] (.double (0 : UInt64)) := Arv.set Ar569 q569 S569 M569 H569 U569 rfl W570 0 rfl (Nat.le_of_ble_eq_true rfl)
  have N570 := Fr.snoc X570 N561 g_so
  have K570 : Keep h0 h570 [] := K551.wr W570 (Or.inr sz_so)
  have pre571 := fun (τ : State) kt => pre563 τ (by
    show Steps p.tables e below (T561.setTop (mkF m 248 #[.val (.ref a), .val (.int (3 : Int32)), .val (.ref on), .val (.ref pl), .val (.ref so), .val (.int (0 : Int32)), .val (.ref c6), .val (.int (0 : Int32))] [(.double w0), (.int (0 : Int32)), (.ref so)])) τ
    refine XS.aloadN X561.here hx rfl (Jvm.hb hby d4_248) rfl rfl ?_
    refine XS.iload X561.here hx rfl (Jvm.hb hby d4_249) rfl ?_
    refine X561.daload hx ((congrArg (fun (HH : Heap) => HH[on]?) (eq561 : T561.heap = T551.heap)).trans Ar566.1) (State.isArrayOf_alike hZ.alike Ar566.2.1) Ar566.2.2 in566 (H566.at in566 rfl) (g := (mkF m 251 #[.val (.ref a), .val (.int (3 : Int32)), .val (.ref on), .val (.ref pl), .val (.ref so), .val (.int (0 : Int32)), .val (.ref c6), .val (.int (0 : Int32))] [(.int (0 : Int32)), (.ref on), (.double w0), (.int (0 : Int32)), (.ref so)])) rfl rfl (Jvm.hb hby d4_251) _ ?_
    refine own_ddiv X561.here hx rfl (Jvm.hb hby d4_252) rfl (cc0.2.2) ?_
    exact st570 τ kt)
  have pre572 := fun (τ : State) kt => pre571 τ (by
    show Steps p.tables e below (T570.setTop (mkF m 254 #[.val (.ref a), .val (.int (3 : Int32)), .val (.ref on), .val (.ref pl), .val (.ref so), .val (.int (0 : Int32)), .val (.ref c6), .val (.int (0 : Int32))] [])) τ
    refine XS.iinc X570.here hx rfl (Jvm.hb hby d4_254) rfl (l' := #[.val (.ref a), .val (.int (3 : Int32)), .val (.ref on), .val (.ref pl), .val (.ref so), .val (.int (-1 : Int32)), .val (.ref c6), .val (.int (0 : Int32))]) rfl ?_
    refine XS.goto X570.here hx rfl (pc0 := 257) (pc' := 163) rfl (Jvm.hb hby d4_257) (by decide) (by decide) ?_
    refine XS.iload X570.here hx rfl (Jvm.hb hby d4_163) rfl ?_
    refine XS.ifYes X570.here hx rfl (pc0 := 165) (pc' := 260) rfl (Jvm.hb hby d4_165) rfl ((if0 _ _).trans (tlt (by decide)).1) (by decide) (by decide) ?_
    refine XS.aload X570.here hx rfl (Jvm.hb hby d4_260) rfl rfl ?_
    exact kt)
  obtain ⟨fs, hrL, hrun, hended, hW, hsame⟩ := X570.leave (v := some (.ref so)) (fun h => by rw [Bd.returns] at h; cases h)
  refine ⟨_, _, cast (congrFun hPS _) (pre572 _ ?_), hrun, hended, _, _, rfl, ?_, ⟨_, rfl⟩, hW, hsame.mono (by decide) (by decide)⟩
  · show Steps p.tables e below (T570.setTop (mkF m 262 #[.val (.ref a), .val (.int (3 : Int32)), .val (.ref on), .val (.ref pl), .val (.ref so), .val (.int (-1 : Int32)), .val (.ref c6), .val (.int (0 : Int32))] [(.ref so)])) _
    exact retOut X570 hx Bd.returns rfl (Or.inr (Or.inr (Or.inr (Or.inr ⟨rfl, rfl, rfl⟩)))) (Jvm.hb hby d4_262) hrL
  · show QS Z (FP.ddiv w0 x0) (FP.ddiv w1 x1) (FP.ddiv w2 x2) h0 n0 _ T570.heap _
    rw [e570]
    exact ⟨so, _, rfl, N570, K570, g_so, sz_so, V570⟩
theorem own_pn_com_example_meticulous_ballot_meticulousballot_AbsorbingChainLeavePinLaw : plainName "com/example/meticulous_ballot/meticulousballot/AbsorbingChainLeavePinLaw" = true := by first | (simp [plainName, overriddenIn]; done) | decide +kernel
theorem own_ef0 (m : MethodId) (x0 : Int32) (x1 : Int32) (x2 : Int32) (x3 : Int32) (x4 : Int32) (x5 : Int32) : entryFrame m #[(.int x0), (.int x1), (.int x2), (.int x3), (.int x4), (.int x5)] maxLocals = mkF m 0 #[.val (.int x0), .val (.int x1), .val (.int x2), .val (.int x3), .val (.int x4), .val (.int x5), .unset, .unset, .unset, .unset, .unset, .unset, .unset, .unset, .unset, .unset, .unset, .unset, .unset, .unset, .unset] [] := by first | (simp [entryFrame, mkF, argsToLocals, Value.category, maxLocals]; done) | rfl
def Q0 (n0 : Nat) (v : Option Value) (h : Heap) (L : List Loc) : Prop := v = some (.int 1) ∧ Fr n0 L
set_option maxRecDepth 65536 in
set_option maxHeartbeats 40000000 in
theorem rm0 (l : Launch) (Z : State) (a0 : Array Value) (hw : ∀ d ∈ tables_1, d.before a0 Z = true) (ws : List Jvm.Cond) (p1 : Int32) (p2 : Int32) (p3 : Int32) (p4 : Int32) (p5 : Int32) (p6 : Int32)  (h0 : Heap) (n0 : Nat) (Z0 : n0 ≤ h0.size)  :
    MetFree l x (head1 (Jvm.Cond.code x code maxLocals ret :: ws) room_1) (fun α U => α = #[(.int p1), (.int p2), (.int p3), (.int p4), (.int p5), (.int p6)] ∧ Z.Warmed39 U.vm ∧ U.heap = h0) (fun _ _ _ _ _ => True) (fun _ U ω U' => ∃ ν Λ, ω = .returned ν ∧ Q0 n0 ν U'.heap Λ ∧ FrameEnd U ω U' Λ room_1.cells room_1.slots) := by
  refine MetFree.of_bodySF (plainFor_of_name own_pn_com_example_meticulous_ballot_meticulousballot_AbsorbingChainLeavePinLaw) hisR ?_
  intro p e s m args below meth c s₁ Bd hml0 hP hK
  obtain ⟨rfl, hZ, hh⟩ := hP
  have hx := Bd.exec
  have hby := Bd.bytes
  have hml : c.maxLocals = 21 := hml0
  have hown : s.vm.findClass "com/example/meticulous_ballot/meticulousballot/AbsorbingChainLeavePinLaw" = some m.cls := findClass_of_methodNamed Bd.named
  have hnm := (name_of_methodNamed Bd.named Bd.method).1
  have X0 : Stand p l e room_1 s m #[(.int p1), (.int p2), (.int p3), (.int p4), (.int p5), (.int p6)] below meth c s₁ [] 0 0 := Stand.of_body Bd
  have e0 : s₁.heap = h0 := by rw [← hh, Bd.state]; rfl
  have N0 := Fr.nil n0
  have KK0 : Keep h0 h0 [] := Keep.refl h0 []
  obtain ⟨PS, hPS⟩ : ∃ P : State → Prop, P = fun τ => Steps p.tables e below (s₁.setTop (entryFrame m #[(.int p1), (.int p2), (.int p3), (.int p4), (.int p5), (.int p6)] maxLocals)) τ := ⟨_, rfl⟩
  have pre0 : ∀ τ, Steps p.tables e below (s₁.setTop (mkF m 0 #[.val (.int p1), .val (.int p2), .val (.int p3), .val (.int p4), .val (.int p5), .val (.int p6), .unset, .unset, .unset, .unset, .unset, .unset, .unset, .unset, .unset, .unset, .unset, .unset, .unset, .unset, .unset] [])) τ → PS τ := by rw [hPS]; exact fun τ κ => castTop (own_ef0 m p1 p2 p3 p4 p5 p6) κ
  obtain ⟨T573, h573, X573, e573, E573, A573, D573, -, st573⟩ := newO X0 hx hZ hown (own_W0 hw) (own_W1 hw) (own_W2 hw) e0 (g := (mkF m 0 #[.val (.int p1), .val (.int p2), .val (.int p3), .val (.int p4), .val (.int p5), .val (.int p6), .unset, .unset, .unset, .unset, .unset, .unset, .unset, .unset, .unset, .unset, .unset, .unset, .unset, .unset, .unset] [])) rfl (Jvm.hb hby at_0) (by decide) (by decide)
  obtain ⟨q, g573⟩ : ∃ z, z = h0.size := ⟨_, rfl⟩
  rw [← g573] at A573 D573 st573
  have g_q : n0 ≤ q := Nat.le_trans (Nat.le_trans Z0 KK0.1) (Nat.le_of_eq g573.symm)
  have sz_q : h0.size ≤ q := Nat.le_trans KK0.1 (Nat.le_of_eq g573.symm)
  have K573 : Keep h0 h573 [] := KK0.ext E573
  have F_leaving_q : Fld Z h573 q "com/example/meticulous_ballot/meticulousballot/AbsorbingChain" "leaving" "[D" .null := D573 (Or.inr (own_W11 hw)) (ty := (.array .double)) (by decide)
  have F_worths_q : Fld Z h573 q "com/example/meticulous_ballot/meticulousballot/AbsorbingChain" "worths" "[D" .null := D573 (Or.inr (own_W13 hw)) (ty := (.array .double)) (by decide)
  have F_links_q : Fld Z h573 q "com/example/meticulous_ballot/meticulousballot/AbsorbingChain" "links" "[[I" .null := D573 (Or.inr (own_W18 hw)) (ty := (.array (.array .int))) (by decide)
  have F_chances_q : Fld Z h573 q "com/example/meticulous_ballot/meticulousballot/AbsorbingChain" "chances" "[[D" .null := D573 (Or.inr (own_W22 hw)) (ty := (.array (.array .double))) (by decide)
  have F_linkCounts_q : Fld Z h573 q "com/example/meticulous_ballot/meticulousballot/AbsorbingChain" "linkCounts" "[I" .null := D573 (Or.inr (own_W24 hw)) (ty := (.array .int)) (by decide)
  have F_linkedFrom_q : Fld Z h573 q "com/example/meticulous_ballot/meticulousballot/AbsorbingChain" "linkedFrom" "[[I" .null := D573 (Or.inr (own_W26 hw)) (ty := (.array (.array .int))) (by decide)
  have F_linkedFromCounts_q : Fld Z h573 q "com/example/meticulous_ballot/meticulousballot/AbsorbingChain" "linkedFromCounts" "[I" .null := D573 (Or.inr (own_W28 hw)) (ty := (.array .int)) (by decide)
  have pre574 := fun (τ : State) kt => pre0 τ (st573 τ kt)
  obtain ⟨_, T575, L575, X575, ⟨rfl, Nq575, Kq575, A, B, Cn, Dn, kA, kB, kC, kD, ⟨gA, gB, gCn, gDn⟩, ⟨zA, zB, zCn, zDn⟩, ⟨n_aA, n_aB, n_aCn, n_aDn, n_AB, n_ACn, n_ADn, n_BCn, n_BDn, n_CnDn⟩, fA575, fB575, fCn575, fDn575, vA575, vB575, vCn575, vDn575⟩, st575⟩ := own_spec (y := own_mn4) (b := q) X573 hx hZ rfl hown (own_W3 hw) (own_W4 hw) (by decide) (rmI l Z a0 hw [] q (3 : Int32) h573 n0 (Nat.le_trans Z0 K573.1) rfl A573 F_leaving_q F_worths_q F_links_q F_chances_q F_linkCounts_q F_linkedFrom_q F_linkedFromCounts_q g_q) (own_W5 hw) (own_W2 hw) 1 (by decide) (by decide) e573 (mkF m 5 #[.val (.int p1), .val (.int p2), .val (.int p3), .val (.int p4), .val (.int p5), .val (.int p6), .unset, .unset, .unset, .unset, .unset, .unset, .unset, .unset, .unset, .unset, .unset, .unset, .unset, .unset, .unset] [(.int (3 : Int32)), (.ref q), (.ref q)]) rfl (by rw [hml]; rfl) [(.int (3 : Int32))] [(.ref q)] rfl (lenOf own_pd__I_V rfl) rfl (Nat.le_refl _) (Jvm.hb hby at_5) (by decide) (by decide)
  have N575 := Fr.app N0 Nq575
  have K575 : Keep h0 T575.heap [] := K573.trans Kq575 (allS (Or.inr sz_q) (all0))
  have pre576 := fun (τ : State) kt => pre574 τ (by
    show Steps p.tables e below (T573.setTop (mkF m 3 #[.val (.int p1), .val (.int p2), .val (.int p3), .val (.int p4), .val (.int p5), .val (.int p6), .unset, .unset, .unset, .unset, .unset, .unset, .unset, .unset, .unset, .unset, .unset, .unset, .unset, .unset, .unset] [(.ref q)])) τ
    refine XS.dup X573.here hx rfl (Jvm.hb hby at_3) rfl rfl ?_
    refine XS.iconst X573.here hx rfl (Jvm.hb hby at_4) ?_
    exact st575 τ kt)
  have sz_A : h0.size ≤ A := Nat.le_trans K573.1 zA
  have sz_B : h0.size ≤ B := Nat.le_trans K573.1 zB
  have sz_Cn : h0.size ≤ Cn := Nat.le_trans K573.1 zCn
  have sz_Dn : h0.size ≤ Dn := Nat.le_trans K573.1 zDn
  have f578 := A573.keep Kq575
  obtain ⟨_, T577, L577, X577, ⟨rfl, Nq577, Kq577, vA577, vB577⟩, st577⟩ := own_virt (y := own_mn5) (b := q) X575 hx hZ hown (own_W30 hw) (own_W31 hw) (own_W33 hw) (own_W32 hw) (by decide) (rmL0 l Z a0 hw [] q (0 : Int32) FP.dconst1 (4621819117588971520 : UInt64) A B kA kB (0 : UInt64) (0 : UInt64) (0 : UInt64) (0 : UInt64) (0 : UInt64) (0 : UInt64) T575.heap n0 (Nat.le_trans Z0 K575.1) rfl fA575 fB575 vA575 vB575 n_aA n_aB n_AB gA gB) (own_W34 hw) (own_W2 hw) 0 (by decide) (by decide) f578 rfl (mkF m 17 #[.val (.int p1), .val (.int p2), .val (.int p3), .val (.int p4), .val (.int p5), .val (.int p6), .val (.ref q), .unset, .unset, .unset, .unset, .unset, .unset, .unset, .unset, .unset, .unset, .unset, .unset, .unset, .unset] [(.double (4621819117588971520 : UInt64)), (.double FP.dconst1), (.int (0 : Int32)), (.ref q)]) rfl (by rw [hml]; rfl) [(.int (0 : Int32)), (.double FP.dconst1), (.double (4621819117588971520 : UInt64))] [] rfl (lenOf own_pd__IDD_V rfl) rfl (Nat.le_refl _) (Jvm.hb hby at_17) (by decide) (by decide)
  have N577 := Fr.app N575 Nq577
  have K577 : Keep h0 T577.heap [] := K575.trans Kq577 (allS (Or.inr sz_A) (allS (Or.inr sz_B) (all0)))
  have pre579 := fun (τ : State) kt => pre576 τ (by
    show Steps p.tables e below (T575.setTop (mkF m 8 #[.val (.int p1), .val (.int p2), .val (.int p3), .val (.int p4), .val (.int p5), .val (.int p6), .unset, .unset, .unset, .unset, .unset, .unset, .unset, .unset, .unset, .unset, .unset, .unset, .unset, .unset, .unset] [(.ref q)])) τ
    refine XS.astore X575.here hx rfl (Jvm.hb hby at_8) rfl rfl (l' := #[.val (.int p1), .val (.int p2), .val (.int p3), .val (.int p4), .val (.int p5), .val (.int p6), .val (.ref q), .unset, .unset, .unset, .unset, .unset, .unset, .unset, .unset, .unset, .unset, .unset, .unset, .unset, .unset]) rfl ?_
    refine XS.aload X575.here hx rfl (Jvm.hb hby at_10) rfl rfl ?_
    refine XS.iconst X575.here hx rfl (Jvm.hb hby at_12) ?_
    refine own_dconst1 X575.here hx rfl (Jvm.hb hby at_13) ?_
    refine X575.ldc2DoubleC hx hown (mvT hZ (own_W29 hw)) (g := (mkF m 14 #[.val (.int p1), .val (.int p2), .val (.int p3), .val (.int p4), .val (.int p5), .val (.int p6), .val (.ref q), .unset, .unset, .unset, .unset, .unset, .unset, .unset, .unset, .unset, .unset, .unset, .unset, .unset, .unset] [(.double FP.dconst1), (.int (0 : Int32)), (.ref q)])) rfl (Jvm.hb hby at_14) _ ?_
    exact st577 τ kt)
  have f580 := fA575.keep Kq577 (ninS n_aA (ninS n_aB (nin0)))
  have f581 := fB575.keep Kq577 (ninS n_aA (ninS n_aB (nin0)))
  have f583 := f578.keep Kq577
  obtain ⟨_, T582, L582, X582, ⟨rfl, Nq582, Kq582, vA582, vB582⟩, st582⟩ := own_virt (y := own_mn5) (b := q) X577 hx hZ hown (own_W30 hw) (own_W31 hw) (own_W33 hw) (own_W32 hw) (by decide) (rmL1 l Z a0 hw [] q (1 : Int32) (4611686018427387904 : UInt64) (4626322717216342016 : UInt64) A B kA kB FP.dconst1 (0 : UInt64) (0 : UInt64) (4621819117588971520 : UInt64) (0 : UInt64) (0 : UInt64) T577.heap n0 (Nat.le_trans Z0 K577.1) rfl f580 f581 vA577 vB577 n_aA n_aB n_AB gA gB) (own_W34 hw) (own_W2 hw) 0 (by decide) (by decide) f583 rfl (mkF m 29 #[.val (.int p1), .val (.int p2), .val (.int p3), .val (.int p4), .val (.int p5), .val (.int p6), .val (.ref q), .unset, .unset, .unset, .unset, .unset, .unset, .unset, .unset, .unset, .unset, .unset, .unset, .unset, .unset] [(.double (4626322717216342016 : UInt64)), (.double (4611686018427387904 : UInt64)), (.int (1 : Int32)), (.ref q)]) rfl (by rw [hml]; rfl) [(.int (1 : Int32)), (.double (4611686018427387904 : UInt64)), (.double (4626322717216342016 : UInt64))] [] rfl (lenOf own_pd__IDD_V rfl) rfl (Nat.le_refl _) (Jvm.hb hby at_29) (by decide) (by decide)
  have N582 := Fr.app N577 Nq582
  have K582 : Keep h0 T582.heap [] := K577.trans Kq582 (allS (Or.inr sz_A) (allS (Or.inr sz_B) (all0)))
  have pre584 := fun (τ : State) kt => pre579 τ (by
    show Steps p.tables e below (T577.setTop (mkF m 20 #[.val (.int p1), .val (.int p2), .val (.int p3), .val (.int p4), .val (.int p5), .val (.int p6), .val (.ref q), .unset, .unset, .unset, .unset, .unset, .unset, .unset, .unset, .unset, .unset, .unset, .unset, .unset, .unset] [])) τ
    refine XS.aload X577.here hx rfl (Jvm.hb hby at_20) rfl rfl ?_
    refine XS.iconst X577.here hx rfl (Jvm.hb hby at_22) ?_
    refine X577.ldc2DoubleC hx hown (mvT hZ (own_W35 hw)) (g := (mkF m 23 #[.val (.int p1), .val (.int p2), .val (.int p3), .val (.int p4), .val (.int p5), .val (.int p6), .val (.ref q), .unset, .unset, .unset, .unset, .unset, .unset, .unset, .unset, .unset, .unset, .unset, .unset, .unset, .unset] [(.int (1 : Int32)), (.ref q)])) rfl (Jvm.hb hby at_23) _ ?_
    refine X577.ldc2DoubleC hx hown (mvT hZ (own_W36 hw)) (g := (mkF m 26 #[.val (.int p1), .val (.int p2), .val (.int p3), .val (.int p4), .val (.int p5), .val (.int p6), .val (.ref q), .unset, .unset, .unset, .unset, .unset, .unset, .unset, .unset, .unset, .unset, .unset, .unset, .unset, .unset] [(.double (4611686018427387904 : UInt64)), (.int (1 : Int32)), (.ref q)])) rfl (Jvm.hb hby at_26) _ ?_
    exact st582 τ kt)
  have f585 := f580.keep Kq582 (ninS n_aA (ninS n_aB (nin0)))
  have f586 := f581.keep Kq582 (ninS n_aA (ninS n_aB (nin0)))
  have f588 := f583.keep Kq582
  obtain ⟨_, T587, L587, X587, ⟨rfl, Nq587, Kq587, vA587, vB587⟩, st587⟩ := own_virt (y := own_mn5) (b := q) X582 hx hZ hown (own_W30 hw) (own_W31 hw) (own_W33 hw) (own_W32 hw) (by decide) (rmL2 l Z a0 hw [] q (2 : Int32) (4616189618054758400 : UInt64) (4630826316843712512 : UInt64) A B kA kB FP.dconst1 (4611686018427387904 : UInt64) (0 : UInt64) (4621819117588971520 : UInt64) (4626322717216342016 : UInt64) (0 : UInt64) T582.heap n0 (Nat.le_trans Z0 K582.1) rfl f585 f586 vA582 vB582 n_aA n_aB n_AB gA gB) (own_W34 hw) (own_W2 hw) 0 (by decide) (by decide) f588 rfl (mkF m 41 #[.val (.int p1), .val (.int p2), .val (.int p3), .val (.int p4), .val (.int p5), .val (.int p6), .val (.ref q), .unset, .unset, .unset, .unset, .unset, .unset, .unset, .unset, .unset, .unset, .unset, .unset, .unset, .unset] [(.double (4630826316843712512 : UInt64)), (.double (4616189618054758400 : UInt64)), (.int (2 : Int32)), (.ref q)]) rfl (by rw [hml]; rfl) [(.int (2 : Int32)), (.double (4616189618054758400 : UInt64)), (.double (4630826316843712512 : UInt64))] [] rfl (lenOf own_pd__IDD_V rfl) rfl (Nat.le_refl _) (Jvm.hb hby at_41) (by decide) (by decide)
  have N587 := Fr.app N582 Nq587
  have K587 : Keep h0 T587.heap [] := K582.trans Kq587 (allS (Or.inr sz_A) (allS (Or.inr sz_B) (all0)))
  have pre589 := fun (τ : State) kt => pre584 τ (by
    show Steps p.tables e below (T582.setTop (mkF m 32 #[.val (.int p1), .val (.int p2), .val (.int p3), .val (.int p4), .val (.int p5), .val (.int p6), .val (.ref q), .unset, .unset, .unset, .unset, .unset, .unset, .unset, .unset, .unset, .unset, .unset, .unset, .unset, .unset] [])) τ
    refine XS.aload X582.here hx rfl (Jvm.hb hby at_32) rfl rfl ?_
    refine XS.iconst X582.here hx rfl (Jvm.hb hby at_34) ?_
    refine X582.ldc2DoubleC hx hown (mvT hZ (own_W37 hw)) (g := (mkF m 35 #[.val (.int p1), .val (.int p2), .val (.int p3), .val (.int p4), .val (.int p5), .val (.int p6), .val (.ref q), .unset, .unset, .unset, .unset, .unset, .unset, .unset, .unset, .unset, .unset, .unset, .unset, .unset, .unset] [(.int (2 : Int32)), (.ref q)])) rfl (Jvm.hb hby at_35) _ ?_
    refine X582.ldc2DoubleC hx hown (mvT hZ (own_W38 hw)) (g := (mkF m 38 #[.val (.int p1), .val (.int p2), .val (.int p3), .val (.int p4), .val (.int p5), .val (.int p6), .val (.ref q), .unset, .unset, .unset, .unset, .unset, .unset, .unset, .unset, .unset, .unset, .unset, .unset, .unset, .unset] [(.double (4616189618054758400 : UInt64)), (.int (2 : Int32)), (.ref q)])) rfl (Jvm.hb hby at_38) _ ?_
    exact st587 τ kt)
  obtain ⟨T590, h590, k590, X590, e590, E590, A590, st590⟩ := newP (aty := .double) X587 hx hZ (own_W9 hw) rfl (g := (mkF m 45 #[.val (.int p1), .val (.int p2), .val (.int p3), .val (.int p4), .val (.int p5), .val (.int p6), .val (.ref q), .unset, .unset, .unset, .unset, .unset, .unset, .unset, .unset, .unset, .unset, .unset, .unset, .unset, .unset] [(.int (3 : Int32))])) rfl (Jvm.hb hby at_45) rfl (by decide) (cap := 3) (by decide) (by decide) (by decide) (by decide)
  obtain ⟨ec, g590⟩ : ∃ z, z = T587.heap.size := ⟨_, rfl⟩
  rw [← g590] at A590 st590
  have f591 := f588.keep Kq587
  have ne_q_ec : q ≠ ec := Nat.ne_of_lt (Nat.lt_of_lt_of_le f591.lt (Nat.le_of_eq g590.symm))
  have ne_A_ec : A ≠ ec := Nat.ne_of_lt (Nat.lt_of_lt_of_le vA587.lt (Nat.le_of_eq g590.symm))
  have ne_B_ec : B ≠ ec := Nat.ne_of_lt (Nat.lt_of_lt_of_le vB587.lt (Nat.le_of_eq g590.symm))
  have f592 := vCn575.keep Kq577 (ninS (Ne.symm n_ACn) (ninS (Ne.symm n_BCn) (nin0)))
  have f593 := f592.keep Kq582 (ninS (Ne.symm n_ACn) (ninS (Ne.symm n_BCn) (nin0)))
  have f594 := f593.keep Kq587 (ninS (Ne.symm n_ACn) (ninS (Ne.symm n_BCn) (nin0)))
  have ne_Cn_ec : Cn ≠ ec := Nat.ne_of_lt (Nat.lt_of_lt_of_le f594.lt (Nat.le_of_eq g590.symm))
  have f595 := vDn575.keep Kq577 (ninS (Ne.symm n_ADn) (ninS (Ne.symm n_BDn) (nin0)))
  have f596 := f595.keep Kq582 (ninS (Ne.symm n_ADn) (ninS (Ne.symm n_BDn) (nin0)))
  have f597 := f596.keep Kq587 (ninS (Ne.symm n_ADn) (ninS (Ne.symm n_BDn) (nin0)))
  have ne_Dn_ec : Dn ≠ ec := Nat.ne_of_lt (Nat.lt_of_lt_of_le f597.lt (Nat.le_of_eq g590.symm))
  have g_ec : n0 ≤ ec := Nat.le_trans (Nat.le_trans Z0 K587.1) (Nat.le_of_eq g590.symm)
  have sz_ec : h0.size ≤ ec := Nat.le_trans K587.1 (Nat.le_of_eq g590.symm)
  have K590 : Keep h0 h590 [] := K587.ext E590
  have V_ec : Arv Z h590 ec k590 .double (3 : Int32) [(.double (0 : UInt64)), (.double (0 : UInt64)), (.double (0 : UInt64))] (.double (0 : UInt64)) := (Arv.new A590 (by decide)).pad (pad_rep [] (.double (0 : UInt64)) 3)
  have pre598 := fun (τ : State) kt => pre589 τ (by
    show Steps p.tables e below (T587.setTop (mkF m 44 #[.val (.int p1), .val (.int p2), .val (.int p3), .val (.int p4), .val (.int p5), .val (.int p6), .val (.ref q), .unset, .unset, .unset, .unset, .unset, .unset, .unset, .unset, .unset, .unset, .unset, .unset, .unset, .unset] [])) τ
    refine XS.iconst X587.here hx rfl (Jvm.hb hby at_44) ?_
    exact st590 τ kt)
  obtain ⟨cl599, Ar599, q599, S599, M599, H599, U599⟩ := id V_ec
  obtain ⟨T600, h600, X600, e600, W600, st600⟩ := own_stD X590 hx hZ e590 Ar599 (j := (0 : Int32)) (inb_of S599 ⟨by decide, by decide⟩) (g := (mkF m 50 #[.val (.int p1), .val (.int p2), .val (.int p3), .val (.int p4), .val (.int p5), .val (.int p6), .val (.ref q), .unset, .unset, .unset, .unset, .unset, .unset, .unset, .unset, .unset, .unset, .unset, .unset, .unset, .unset] [(.double FP.dconst1), (.int (0 : Int32)), (.ref ec), (.ref ec)])) rfl rfl (Jvm.hb hby at_50)
  have V600 : Arv Z h600 ec k590 .double (3 : Int32) [(.double FP.dconst1), (.double (0 : UInt64)), (.double (0 : UInt64))] (.double (0 : UInt64)) := Arv.set Ar599 q599 S599 M599 H599 U599 rfl W600 0 rfl (Nat.le_of_ble_eq_true rfl)
  have N600 := Fr.snoc X600 N587 g_ec
  have K600 : Keep h0 h600 [] := K590.wr W600 (Or.inr sz_ec)
  have pre601 := fun (τ : State) kt => pre598 τ (by
    show Steps p.tables e below (T590.setTop (mkF m 47 #[.val (.int p1), .val (.int p2), .val (.int p3), .val (.int p4), .val (.int p5), .val (.int p6), .val (.ref q), .unset, .unset, .unset, .unset, .unset, .unset, .unset, .unset, .unset, .unset, .unset, .unset, .unset, .unset] [(.ref ec)])) τ
    refine XS.dup X590.here hx rfl (Jvm.hb hby at_47) rfl rfl ?_
    refine XS.iconst X590.here hx rfl (Jvm.hb hby at_48) ?_
    refine own_dconst1 X590.here hx rfl (Jvm.hb hby at_49) ?_
    exact st600 τ kt)
  obtain ⟨cl602, Ar602, q602, S602, M602, H602, U602⟩ := id V600
  obtain ⟨T603, h603, X603, e603, W603, st603⟩ := own_stD X600 hx hZ e600 Ar602 (j := (1 : Int32)) (inb_of S602 ⟨by decide, by decide⟩) (g := (mkF m 56 #[.val (.int p1), .val (.int p2), .val (.int p3), .val (.int p4), .val (.int p5), .val (.int p6), .val (.ref q), .unset, .unset, .unset, .unset, .unset, .unset, .unset, .unset, .unset, .unset, .unset, .unset, .unset, .unset] [(.double (4611686018427387904 : UInt64)), (.int (1 : Int32)), (.ref ec), (.ref ec)])) rfl rfl (Jvm.hb hby at_56)
  have V603 : Arv Z h603 ec k590 .double (3 : Int32) [(.double FP.dconst1), (.double (4611686018427387904 : UInt64)), (.double (0 : UInt64))] (.double (0 : UInt64)) := Arv.set Ar602 q602 S602 M602 H602 U602 rfl W603 1 rfl (Nat.le_of_ble_eq_true rfl)
  have N603 := Fr.snoc X603 N600 g_ec
  have K603 : Keep h0 h603 [] := K600.wr W603 (Or.inr sz_ec)
  have pre604 := fun (τ : State) kt => pre601 τ (by
    show Steps p.tables e below (T600.setTop (mkF m 51 #[.val (.int p1), .val (.int p2), .val (.int p3), .val (.int p4), .val (.int p5), .val (.int p6), .val (.ref q), .unset, .unset, .unset, .unset, .unset, .unset, .unset, .unset, .unset, .unset, .unset, .unset, .unset, .unset] [(.ref ec)])) τ
    refine XS.dup X600.here hx rfl (Jvm.hb hby at_51) rfl rfl ?_
    refine XS.iconst X600.here hx rfl (Jvm.hb hby at_52) ?_
    refine X600.ldc2DoubleC hx hown (mvT hZ (own_W35 hw)) (g := (mkF m 53 #[.val (.int p1), .val (.int p2), .val (.int p3), .val (.int p4), .val (.int p5), .val (.int p6), .val (.ref q), .unset, .unset, .unset, .unset, .unset, .unset, .unset, .unset, .unset, .unset, .unset, .unset, .unset, .unset] [(.int (1 : Int32)), (.ref ec), (.ref ec)])) rfl (Jvm.hb hby at_53) _ ?_
    exact st603 τ kt)
  obtain ⟨cl605, Ar605, q605, S605, M605, H605, U605⟩ := id V603
  obtain ⟨T606, h606, X606, e606, W606, st606⟩ := own_stD X603 hx hZ e603 Ar605 (j := (2 : Int32)) (inb_of S605 ⟨by decide, by decide⟩) (g := (mkF m 62 #[.val (.int p1), .val (.int p2), .val (.int p3), .val (.int p4), .val (.int p5), .val (.int p6), .val (.ref q), .unset, .unset, .unset, .unset, .unset, .unset, .unset, .unset, .unset, .unset, .unset, .unset, .unset, .unset] [(.double (4616189618054758400 : UInt64)), (.int (2 : Int32)), (.ref ec), (.ref ec)])) rfl rfl (Jvm.hb hby at_62)
  have V606 : Arv Z h606 ec k590 .double (3 : Int32) [(.double FP.dconst1), (.double (4611686018427387904 : UInt64)), (.double (4616189618054758400 : UInt64))] (.double (0 : UInt64)) := Arv.set Ar605 q605 S605 M605 H605 U605 rfl W606 2 rfl (Nat.le_of_ble_eq_true rfl)
  have N606 := Fr.snoc X606 N603 g_ec
  have K606 : Keep h0 h606 [] := K603.wr W606 (Or.inr sz_ec)
  have pre607 := fun (τ : State) kt => pre604 τ (by
    show Steps p.tables e below (T603.setTop (mkF m 57 #[.val (.int p1), .val (.int p2), .val (.int p3), .val (.int p4), .val (.int p5), .val (.int p6), .val (.ref q), .unset, .unset, .unset, .unset, .unset, .unset, .unset, .unset, .unset, .unset, .unset, .unset, .unset, .unset] [(.ref ec)])) τ
    refine XS.dup X603.here hx rfl (Jvm.hb hby at_57) rfl rfl ?_
    refine XS.iconst X603.here hx rfl (Jvm.hb hby at_58) ?_
    refine X603.ldc2DoubleC hx hown (mvT hZ (own_W37 hw)) (g := (mkF m 59 #[.val (.int p1), .val (.int p2), .val (.int p3), .val (.int p4), .val (.int p5), .val (.int p6), .val (.ref q), .unset, .unset, .unset, .unset, .unset, .unset, .unset, .unset, .unset, .unset, .unset, .unset, .unset, .unset] [(.int (2 : Int32)), (.ref ec), (.ref ec)])) rfl (Jvm.hb hby at_59) _ ?_
    exact st606 τ kt)
  obtain ⟨T608, h608, k608, X608, e608, E608, A608, st608⟩ := newP (aty := .double) X606 hx hZ (own_W9 hw) e606 (g := (mkF m 66 #[.val (.int p1), .val (.int p2), .val (.int p3), .val (.int p4), .val (.int p5), .val (.int p6), .val (.ref q), .val (.ref ec), .unset, .unset, .unset, .unset, .unset, .unset, .unset, .unset, .unset, .unset, .unset, .unset, .unset] [(.int (3 : Int32))])) rfl (Jvm.hb hby at_66) rfl (by decide) (cap := 3) (by decide) (by decide) (by decide) (by decide)
  obtain ⟨ew, g608⟩ : ∃ z, z = h606.size := ⟨_, rfl⟩
  rw [← g608] at A608 st608
  have f609 := f591.ext E590
  have f610 := f609.wr W600
  have f611 := f610.wr W603
  have f612 := f611.wr W606
  have ne_q_ew : q ≠ ew := Nat.ne_of_lt (Nat.lt_of_lt_of_le f612.lt (Nat.le_of_eq g608.symm))
  have f613 := vA587.ext E590
  have f614 := f613.other W600 ne_A_ec
  have f615 := f614.other W603 ne_A_ec
  have f616 := f615.other W606 ne_A_ec
  have ne_A_ew : A ≠ ew := Nat.ne_of_lt (Nat.lt_of_lt_of_le f616.lt (Nat.le_of_eq g608.symm))
  have f617 := vB587.ext E590
  have f618 := f617.other W600 ne_B_ec
  have f619 := f618.other W603 ne_B_ec
  have f620 := f619.other W606 ne_B_ec
  have ne_B_ew : B ≠ ew := Nat.ne_of_lt (Nat.lt_of_lt_of_le f620.lt (Nat.le_of_eq g608.symm))
  have f621 := f594.ext E590
  have f622 := f621.other W600 ne_Cn_ec
  have f623 := f622.other W603 ne_Cn_ec
  have f624 := f623.other W606 ne_Cn_ec
  have ne_Cn_ew : Cn ≠ ew := Nat.ne_of_lt (Nat.lt_of_lt_of_le f624.lt (Nat.le_of_eq g608.symm))
  have f625 := f597.ext E590
  have f626 := f625.other W600 ne_Dn_ec
  have f627 := f626.other W603 ne_Dn_ec
  have f628 := f627.other W606 ne_Dn_ec
  have ne_Dn_ew : Dn ≠ ew := Nat.ne_of_lt (Nat.lt_of_lt_of_le f628.lt (Nat.le_of_eq g608.symm))
  have ne_ec_ew : ec ≠ ew := Nat.ne_of_lt (Nat.lt_of_lt_of_le V606.lt (Nat.le_of_eq g608.symm))
  have g_ew : n0 ≤ ew := Nat.le_trans (Nat.le_trans Z0 K606.1) (Nat.le_of_eq g608.symm)
  have sz_ew : h0.size ≤ ew := Nat.le_trans K606.1 (Nat.le_of_eq g608.symm)
  have K608 : Keep h0 h608 [] := K606.ext E608
  have V_ew : Arv Z h608 ew k608 .double (3 : Int32) [(.double (0 : UInt64)), (.double (0 : UInt64)), (.double (0 : UInt64))] (.double (0 : UInt64)) := (Arv.new A608 (by decide)).pad (pad_rep [] (.double (0 : UInt64)) 3)
  have pre629 := fun (τ : State) kt => pre607 τ (by
    show Steps p.tables e below (T606.setTop (mkF m 63 #[.val (.int p1), .val (.int p2), .val (.int p3), .val (.int p4), .val (.int p5), .val (.int p6), .val (.ref q), .unset, .unset, .unset, .unset, .unset, .unset, .unset, .unset, .unset, .unset, .unset, .unset, .unset, .unset] [(.ref ec)])) τ
    refine XS.astore X606.here hx rfl (Jvm.hb hby at_63) rfl rfl (l' := #[.val (.int p1), .val (.int p2), .val (.int p3), .val (.int p4), .val (.int p5), .val (.int p6), .val (.ref q), .val (.ref ec), .unset, .unset, .unset, .unset, .unset, .unset, .unset, .unset, .unset, .unset, .unset, .unset, .unset]) rfl ?_
    refine XS.iconst X606.here hx rfl (Jvm.hb hby at_65) ?_
    exact st608 τ kt)
  obtain ⟨cl630, Ar630, q630, S630, M630, H630, U630⟩ := id V_ew
  obtain ⟨T631, h631, X631, e631, W631, st631⟩ := own_stD X608 hx hZ e608 Ar630 (j := (0 : Int32)) (inb_of S630 ⟨by decide, by decide⟩) (g := (mkF m 73 #[.val (.int p1), .val (.int p2), .val (.int p3), .val (.int p4), .val (.int p5), .val (.int p6), .val (.ref q), .val (.ref ec), .unset, .unset, .unset, .unset, .unset, .unset, .unset, .unset, .unset, .unset, .unset, .unset, .unset] [(.double (4621819117588971520 : UInt64)), (.int (0 : Int32)), (.ref ew), (.ref ew)])) rfl rfl (Jvm.hb hby at_73)
  have V631 : Arv Z h631 ew k608 .double (3 : Int32) [(.double (4621819117588971520 : UInt64)), (.double (0 : UInt64)), (.double (0 : UInt64))] (.double (0 : UInt64)) := Arv.set Ar630 q630 S630 M630 H630 U630 rfl W631 0 rfl (Nat.le_of_ble_eq_true rfl)
  have N631 := Fr.snoc X631 N606 g_ew
  have K631 : Keep h0 h631 [] := K608.wr W631 (Or.inr sz_ew)
  have pre632 := fun (τ : State) kt => pre629 τ (by
    show Steps p.tables e below (T608.setTop (mkF m 68 #[.val (.int p1), .val (.int p2), .val (.int p3), .val (.int p4), .val (.int p5), .val (.int p6), .val (.ref q), .val (.ref ec), .unset, .unset, .unset, .unset, .unset, .unset, .unset, .unset, .unset, .unset, .unset, .unset, .unset] [(.ref ew)])) τ
    refine XS.dup X608.here hx rfl (Jvm.hb hby at_68) rfl rfl ?_
    refine XS.iconst X608.here hx rfl (Jvm.hb hby at_69) ?_
    refine X608.ldc2DoubleC hx hown (mvT hZ (own_W29 hw)) (g := (mkF m 70 #[.val (.int p1), .val (.int p2), .val (.int p3), .val (.int p4), .val (.int p5), .val (.int p6), .val (.ref q), .val (.ref ec), .unset, .unset, .unset, .unset, .unset, .unset, .unset, .unset, .unset, .unset, .unset, .unset, .unset] [(.int (0 : Int32)), (.ref ew), (.ref ew)])) rfl (Jvm.hb hby at_70) _ ?_
    exact st631 τ kt)
  obtain ⟨cl633, Ar633, q633, S633, M633, H633, U633⟩ := id V631
  obtain ⟨T634, h634, X634, e634, W634, st634⟩ := own_stD X631 hx hZ e631 Ar633 (j := (1 : Int32)) (inb_of S633 ⟨by decide, by decide⟩) (g := (mkF m 79 #[.val (.int p1), .val (.int p2), .val (.int p3), .val (.int p4), .val (.int p5), .val (.int p6), .val (.ref q), .val (.ref ec), .unset, .unset, .unset, .unset, .unset, .unset, .unset, .unset, .unset, .unset, .unset, .unset, .unset] [(.double (4626322717216342016 : UInt64)), (.int (1 : Int32)), (.ref ew), (.ref ew)])) rfl rfl (Jvm.hb hby at_79)
  have V634 : Arv Z h634 ew k608 .double (3 : Int32) [(.double (4621819117588971520 : UInt64)), (.double (4626322717216342016 : UInt64)), (.double (0 : UInt64))] (.double (0 : UInt64)) := Arv.set Ar633 q633 S633 M633 H633 U633 rfl W634 1 rfl (Nat.le_of_ble_eq_true rfl)
  have N634 := Fr.snoc X634 N631 g_ew
  have K634 : Keep h0 h634 [] := K631.wr W634 (Or.inr sz_ew)
  have pre635 := fun (τ : State) kt => pre632 τ (by
    show Steps p.tables e below (T631.setTop (mkF m 74 #[.val (.int p1), .val (.int p2), .val (.int p3), .val (.int p4), .val (.int p5), .val (.int p6), .val (.ref q), .val (.ref ec), .unset, .unset, .unset, .unset, .unset, .unset, .unset, .unset, .unset, .unset, .unset, .unset, .unset] [(.ref ew)])) τ
    refine XS.dup X631.here hx rfl (Jvm.hb hby at_74) rfl rfl ?_
    refine XS.iconst X631.here hx rfl (Jvm.hb hby at_75) ?_
    refine X631.ldc2DoubleC hx hown (mvT hZ (own_W36 hw)) (g := (mkF m 76 #[.val (.int p1), .val (.int p2), .val (.int p3), .val (.int p4), .val (.int p5), .val (.int p6), .val (.ref q), .val (.ref ec), .unset, .unset, .unset, .unset, .unset, .unset, .unset, .unset, .unset, .unset, .unset, .unset, .unset] [(.int (1 : Int32)), (.ref ew), (.ref ew)])) rfl (Jvm.hb hby at_76) _ ?_
    exact st634 τ kt)
  obtain ⟨cl636, Ar636, q636, S636, M636, H636, U636⟩ := id V634
  obtain ⟨T637, h637, X637, e637, W637, st637⟩ := own_stD X634 hx hZ e634 Ar636 (j := (2 : Int32)) (inb_of S636 ⟨by decide, by decide⟩) (g := (mkF m 85 #[.val (.int p1), .val (.int p2), .val (.int p3), .val (.int p4), .val (.int p5), .val (.int p6), .val (.ref q), .val (.ref ec), .unset, .unset, .unset, .unset, .unset, .unset, .unset, .unset, .unset, .unset, .unset, .unset, .unset] [(.double (4630826316843712512 : UInt64)), (.int (2 : Int32)), (.ref ew), (.ref ew)])) rfl rfl (Jvm.hb hby at_85)
  have V637 : Arv Z h637 ew k608 .double (3 : Int32) [(.double (4621819117588971520 : UInt64)), (.double (4626322717216342016 : UInt64)), (.double (4630826316843712512 : UInt64))] (.double (0 : UInt64)) := Arv.set Ar636 q636 S636 M636 H636 U636 rfl W637 2 rfl (Nat.le_of_ble_eq_true rfl)
  have N637 := Fr.snoc X637 N634 g_ew
  have K637 : Keep h0 h637 [] := K634.wr W637 (Or.inr sz_ew)
  have pre638 := fun (τ : State) kt => pre635 τ (by
    show Steps p.tables e below (T634.setTop (mkF m 80 #[.val (.int p1), .val (.int p2), .val (.int p3), .val (.int p4), .val (.int p5), .val (.int p6), .val (.ref q), .val (.ref ec), .unset, .unset, .unset, .unset, .unset, .unset, .unset, .unset, .unset, .unset, .unset, .unset, .unset] [(.ref ew)])) τ
    refine XS.dup X634.here hx rfl (Jvm.hb hby at_80) rfl rfl ?_
    refine XS.iconst X634.here hx rfl (Jvm.hb hby at_81) ?_
    refine X634.ldc2DoubleC hx hown (mvT hZ (own_W38 hw)) (g := (mkF m 82 #[.val (.int p1), .val (.int p2), .val (.int p3), .val (.int p4), .val (.int p5), .val (.int p6), .val (.ref q), .val (.ref ec), .unset, .unset, .unset, .unset, .unset, .unset, .unset, .unset, .unset, .unset, .unset, .unset, .unset] [(.int (2 : Int32)), (.ref ew), (.ref ew)])) rfl (Jvm.hb hby at_82) _ ?_
    exact st637 τ kt)
  have hm1 := (c_and p1 2147483647 (by decide)).1
  have hm2 := (c_and (XT.ushr p4 (1 : Int32)) 1073741823 (by decide)).1
  have pre639 := fun (τ : State) kt => pre638 τ (by
    show Steps p.tables e below (T637.setTop (mkF m 86 #[.val (.int p1), .val (.int p2), .val (.int p3), .val (.int p4), .val (.int p5), .val (.int p6), .val (.ref q), .val (.ref ec), .unset, .unset, .unset, .unset, .unset, .unset, .unset, .unset, .unset, .unset, .unset, .unset, .unset] [(.ref ew)])) τ
    refine XS.astore X637.here hx rfl (Jvm.hb hby at_86) rfl rfl (l' := #[.val (.int p1), .val (.int p2), .val (.int p3), .val (.int p4), .val (.int p5), .val (.int p6), .val (.ref q), .val (.ref ec), .val (.ref ew), .unset, .unset, .unset, .unset, .unset, .unset, .unset, .unset, .unset, .unset, .unset, .unset]) rfl ?_
    refine XS.iloadN X637.here hx rfl (Jvm.hb hby at_88) rfl ?_
    refine X637.ldcInt hx hown (mvT hZ (own_W39 hw)) (g := (mkF m 89 #[.val (.int p1), .val (.int p2), .val (.int p3), .val (.int p4), .val (.int p5), .val (.int p6), .val (.ref q), .val (.ref ec), .val (.ref ew), .unset, .unset, .unset, .unset, .unset, .unset, .unset, .unset, .unset, .unset, .unset, .unset] [(.int p1)])) rfl (Jvm.hb hby at_89) _ ?_
    refine XS.iand X637.here hx rfl (Jvm.hb hby at_91) rfl ?_
    refine XS.iconst X637.here hx rfl (Jvm.hb hby at_92) ?_
    refine iremM X637 hx rfl (Jvm.hb hby at_93) rfl (by decide) ?_
    refine XS.istore X637.here hx rfl (Jvm.hb hby at_94) rfl (l' := #[.val (.int p1), .val (.int p2), .val (.int p3), .val (.int p4), .val (.int p5), .val (.int p6), .val (.ref q), .val (.ref ec), .val (.ref ew), .val (.int ((p1 &&& (2147483647 : Int32)) % (3 : Int32))), .unset, .unset, .unset, .unset, .unset, .unset, .unset, .unset, .unset, .unset, .unset]) rfl ?_
    refine XS.iloadN X637.here hx rfl (Jvm.hb hby at_96) rfl ?_
    refine X637.ldcInt hx hown (mvT hZ (own_W40 hw)) (g := (mkF m 97 #[.val (.int p1), .val (.int p2), .val (.int p3), .val (.int p4), .val (.int p5), .val (.int p6), .val (.ref q), .val (.ref ec), .val (.ref ew), .val (.int ((p1 &&& (2147483647 : Int32)) % (3 : Int32))), .unset, .unset, .unset, .unset, .unset, .unset, .unset, .unset, .unset, .unset, .unset] [(.int p2)])) rfl (Jvm.hb hby at_97) _ ?_
    refine XS.iand X637.here hx rfl (Jvm.hb hby at_99) rfl ?_
    refine XS.iconst X637.here hx rfl (Jvm.hb hby at_100) ?_
    refine XS.iadd X637.here hx rfl (Jvm.hb hby at_101) rfl ?_
    refine own_i2d X637.here hx rfl (Jvm.hb hby at_102) rfl ?_
    refine own_dstore X637.here hx rfl (Jvm.hb hby at_103) rfl (l' := #[.val (.int p1), .val (.int p2), .val (.int p3), .val (.int p4), .val (.int p5), .val (.int p6), .val (.ref q), .val (.ref ec), .val (.ref ew), .val (.int ((p1 &&& (2147483647 : Int32)) % (3 : Int32))), .val (.double (FP.i2d ((p2 &&& (1048575 : Int32)) + (1 : Int32)))), .second, .unset, .unset, .unset, .unset, .unset, .unset, .unset, .unset, .unset]) rfl ?_
    refine XS.iloadN X637.here hx rfl (Jvm.hb hby at_105) rfl ?_
    refine own_i2d X637.here hx rfl (Jvm.hb hby at_106) rfl ?_
    refine own_dstore X637.here hx rfl (Jvm.hb hby at_107) rfl (l' := #[.val (.int p1), .val (.int p2), .val (.int p3), .val (.int p4), .val (.int p5), .val (.int p6), .val (.ref q), .val (.ref ec), .val (.ref ew), .val (.int ((p1 &&& (2147483647 : Int32)) % (3 : Int32))), .val (.double (FP.i2d ((p2 &&& (1048575 : Int32)) + (1 : Int32)))), .second, .val (.double (FP.i2d p3)), .second, .unset, .unset, .unset, .unset, .unset, .unset, .unset]) rfl ?_
    refine XS.aload X637.here hx rfl (Jvm.hb hby at_109) rfl rfl ?_
    refine XS.iload X637.here hx rfl (Jvm.hb hby at_111) rfl ?_
    refine own_dload X637.here hx rfl (Jvm.hb hby at_113) rfl ?_
    refine own_dload X637.here hx rfl (Jvm.hb hby at_115) rfl ?_
    exact kt)
  obtain ⟨st1, e_st1⟩ : ∃ z : Int32, z = ((p1 &&& (2147483647 : Int32)) % (3 : Int32)) := ⟨_, rfl⟩
  have pre640 : ∀ τ, Steps p.tables e below (T637.setTop (mkF m 117 #[.val (.int p1), .val (.int p2), .val (.int p3), .val (.int p4), .val (.int p5), .val (.int p6), .val (.ref q), .val (.ref ec), .val (.ref ew), .val (.int st1), .val (.double (FP.i2d ((p2 &&& (1048575 : Int32)) + (1 : Int32)))), .second, .val (.double (FP.i2d p3)), .second, .unset, .unset, .unset, .unset, .unset, .unset, .unset] [(.double (FP.i2d p3)), (.double (FP.i2d ((p2 &&& (1048575 : Int32)) + (1 : Int32)))), (.int st1), (.ref q)])) τ → PS τ := by rw [e_st1]; exact pre639
  obtain ⟨T641, h641, Lj641, x0, x1, x2, w0, w1, w2, X641, e641, N641, K641, j641_0, j641_1, j641_2, j641_3, j641_4, j641_5, j641_6, j641_7, j641_8, j641_9, j641_10, hj641, pre641⟩ : ∃ (T641 : State) (h641 : Heap) (Lj : List Loc) (x0 : UInt64) (x1 : UInt64) (x2 : UInt64) (w0 : UInt64) (w1 : UInt64) (w2 : UInt64), Stand p l e room_1 s m #[(.int p1), (.int p2), (.int p3), (.int p4), (.int p5), (.int p6)] below meth c T641 Lj (19) (34) ∧ T641.heap = h641 ∧ Fr n0 Lj ∧ Keep h0 h641 [] ∧ Exa Z h641 q "com/example/meticulous_ballot/meticulousballot/AbsorbingChain" ∧ Fld Z h641 q "com/example/meticulous_ballot/meticulousballot/AbsorbingChain" "leaving" "[D" (.ref A) ∧ Fld Z h641 q "com/example/meticulous_ballot/meticulousballot/AbsorbingChain" "worths" "[D" (.ref B) ∧ Fld Z h641 q "com/example/meticulous_ballot/meticulousballot/AbsorbingChain" "linkCounts" "[I" (.ref Cn) ∧ Fld Z h641 q "com/example/meticulous_ballot/meticulousballot/AbsorbingChain" "linkedFromCounts" "[I" (.ref Dn) ∧ Arv Z h641 A kA .double (3 : Int32) [(.double x0), (.double x1), (.double x2)] (.double (0 : UInt64)) ∧ Arv Z h641 B kB .double (3 : Int32) [(.double w0), (.double w1), (.double w2)] (.double (0 : UInt64)) ∧ Arv Z h641 ec k590 .double (3 : Int32) [(.double x0), (.double x1), (.double x2)] (.double (0 : UInt64)) ∧ Arv Z h641 ew k608 .double (3 : Int32) [(.double w0), (.double w1), (.double w2)] (.double (0 : UInt64)) ∧ Arv Z h641 Cn kC .int (3 : Int32) [(.int (0 : Int32)), (.int (0 : Int32)), (.int (0 : Int32))] (.int (0 : Int32)) ∧ Arv Z h641 Dn kD .int (3 : Int32) [(.int (0 : Int32)), (.int (0 : Int32)), (.int (0 : Int32))] (.int (0 : Int32)) ∧ (own_cw x0 w0 ∧ own_cw x1 w1 ∧ own_cw x2 w2) ∧ ∀ τ, Steps p.tables e below (T641.setTop (mkF m 134 #[.val (.int p1), .val (.int p2), .val (.int p3), .val (.int p4), .val (.int p5), .val (.int p6), .val (.ref q), .val (.ref ec), .val (.ref ew), .val (.int st1), .val (.double (FP.i2d ((p2 &&& (1048575 : Int32)) + (1 : Int32)))), .second, .val (.double (FP.i2d p3)), .second, .unset, .unset, .unset, .unset, .unset, .unset, .unset] [])) τ → PS τ := by
    rcases (e_st1 ▸ own_rem3 hm1 : st1 = 0 ∨ st1 = 1 ∨ st1 = 2) with qst | qst | qst
    · subst qst
      have f642 := f585.keep Kq587 (ninS n_aA (ninS n_aB (nin0)))
      have f643 := f642.ext E590
      have f644 := (f643.other W600 (Or.inl ne_q_ec))
      have f645 := (f644.other W603 (Or.inl ne_q_ec))
      have f646 := (f645.other W606 (Or.inl ne_q_ec))
      have f647 := f646.ext E608
      have f648 := (f647.other W631 (Or.inl ne_q_ew))
      have f649 := (f648.other W634 (Or.inl ne_q_ew))
      have f650 := (f649.other W637 (Or.inl ne_q_ew))
      have f651 := f586.keep Kq587 (ninS n_aA (ninS n_aB (nin0)))
      have f652 := f651.ext E590
      have f653 := (f652.other W600 (Or.inl ne_q_ec))
      have f654 := (f653.other W603 (Or.inl ne_q_ec))
      have f655 := (f654.other W606 (Or.inl ne_q_ec))
      have f656 := f655.ext E608
      have f657 := (f656.other W631 (Or.inl ne_q_ew))
      have f658 := (f657.other W634 (Or.inl ne_q_ew))
      have f659 := (f658.other W637 (Or.inl ne_q_ew))
      have f660 := f616.ext E608
      have f661 := f660.other W631 ne_A_ew
      have f662 := f661.other W634 ne_A_ew
      have f663 := f662.other W637 ne_A_ew
      have f664 := f620.ext E608
      have f665 := f664.other W631 ne_B_ew
      have f666 := f665.other W634 ne_B_ew
      have f667 := f666.other W637 ne_B_ew
      have f669 := f612.ext E608
      have f670 := f669.wr W631
      have f671 := f670.wr W634
      have f672 := f671.wr W637
      obtain ⟨_, T668, L668, X668, ⟨rfl, Nq668, Kq668, vA668, vB668⟩, st668⟩ := own_virt (y := own_mn5) (b := q) X637 hx hZ hown (own_W30 hw) (own_W31 hw) (own_W33 hw) (own_W32 hw) (by decide) (rmL0 l Z a0 hw [] q (0 : Int32) (FP.i2d ((p2 &&& (1048575 : Int32)) + (1 : Int32))) (FP.i2d p3) A B kA kB FP.dconst1 (4611686018427387904 : UInt64) (4616189618054758400 : UInt64) (4621819117588971520 : UInt64) (4626322717216342016 : UInt64) (4630826316843712512 : UInt64) h637 n0 (Nat.le_trans Z0 K637.1) rfl f650 f659 f663 f667 n_aA n_aB n_AB gA gB) (own_W34 hw) (own_W2 hw) 0 (by decide) (by decide) f672 e637 (mkF m 117 #[.val (.int p1), .val (.int p2), .val (.int p3), .val (.int p4), .val (.int p5), .val (.int p6), .val (.ref q), .val (.ref ec), .val (.ref ew), .val (.int (0 : Int32)), .val (.double (FP.i2d ((p2 &&& (1048575 : Int32)) + (1 : Int32)))), .second, .val (.double (FP.i2d p3)), .second, .unset, .unset, .unset, .unset, .unset, .unset, .unset] [(.double (FP.i2d p3)), (.double (FP.i2d ((p2 &&& (1048575 : Int32)) + (1 : Int32)))), (.int (0 : Int32)), (.ref q)]) rfl (by rw [hml]; rfl) [(.int (0 : Int32)), (.double (FP.i2d ((p2 &&& (1048575 : Int32)) + (1 : Int32)))), (.double (FP.i2d p3))] [] rfl (lenOf own_pd__IDD_V rfl) rfl (Nat.le_refl _) (Jvm.hb hby at_117) (by decide) (by decide)
      have N668 := Fr.app N637 Nq668
      have K668 : Keep h0 T668.heap [] := K637.trans Kq668 (allS (Or.inr sz_A) (allS (Or.inr sz_B) (all0)))
      have pre673 := fun (τ : State) kt => pre640 τ (st668 τ kt)
      have f674 := V606.ext E608
      have f675 := f674.other W631 ne_ec_ew
      have f676 := f675.other W634 ne_ec_ew
      have f677 := f676.other W637 ne_ec_ew
      have f678 := f677.keep Kq668 (ninS (Ne.symm ne_A_ec) (ninS (Ne.symm ne_B_ec) (nin0)))
      obtain ⟨cl679, Ar679, q679, S679, M679, H679, U679⟩ := id f678
      obtain ⟨T680, h680, X680, e680, W680, st680⟩ := own_stD X668 hx hZ rfl Ar679 (j := (0 : Int32)) (inb_of S679 ⟨by decide, by decide⟩) (g := (mkF m 126 #[.val (.int p1), .val (.int p2), .val (.int p3), .val (.int p4), .val (.int p5), .val (.int p6), .val (.ref q), .val (.ref ec), .val (.ref ew), .val (.int (0 : Int32)), .val (.double (FP.i2d ((p2 &&& (1048575 : Int32)) + (1 : Int32)))), .second, .val (.double (FP.i2d p3)), .second, .unset, .unset, .unset, .unset, .unset, .unset, .unset] [(.double (FP.i2d ((p2 &&& (1048575 : Int32)) + (1 : Int32)))), (.int (0 : Int32)), (.ref ec)])) rfl rfl (Jvm.hb hby at_126)
      have V680 : Arv Z h680 ec k590 .double (3 : Int32) [(.double (FP.i2d ((p2 &&& (1048575 : Int32)) + (1 : Int32)))), (.double (4611686018427387904 : UInt64)), (.double (4616189618054758400 : UInt64))] (.double (0 : UInt64)) := Arv.set Ar679 q679 S679 M679 H679 U679 rfl W680 0 rfl (Nat.le_of_ble_eq_true rfl)
      have N680 := Fr.snoc X680 N668 g_ec
      have K680 : Keep h0 h680 [] := K668.wr W680 (Or.inr sz_ec)
      have pre681 := fun (τ : State) kt => pre673 τ (by
        show Steps p.tables e below (T668.setTop (mkF m 120 #[.val (.int p1), .val (.int p2), .val (.int p3), .val (.int p4), .val (.int p5), .val (.int p6), .val (.ref q), .val (.ref ec), .val (.ref ew), .val (.int (0 : Int32)), .val (.double (FP.i2d ((p2 &&& (1048575 : Int32)) + (1 : Int32)))), .second, .val (.double (FP.i2d p3)), .second, .unset, .unset, .unset, .unset, .unset, .unset, .unset] [])) τ
        refine XS.aload X668.here hx rfl (Jvm.hb hby at_120) rfl rfl ?_
        refine XS.iload X668.here hx rfl (Jvm.hb hby at_122) rfl ?_
        refine own_dload X668.here hx rfl (Jvm.hb hby at_124) rfl ?_
        exact st680 τ kt)
      have f682 := V637.keep Kq668 (ninS (Ne.symm ne_A_ew) (ninS (Ne.symm ne_B_ew) (nin0)))
      have f683 := f682.other W680 (Ne.symm ne_ec_ew)
      obtain ⟨cl684, Ar684, q684, S684, M684, H684, U684⟩ := id f683
      obtain ⟨T685, h685, X685, e685, W685, st685⟩ := own_stD X680 hx hZ e680 Ar684 (j := (0 : Int32)) (inb_of S684 ⟨by decide, by decide⟩) (g := (mkF m 133 #[.val (.int p1), .val (.int p2), .val (.int p3), .val (.int p4), .val (.int p5), .val (.int p6), .val (.ref q), .val (.ref ec), .val (.ref ew), .val (.int (0 : Int32)), .val (.double (FP.i2d ((p2 &&& (1048575 : Int32)) + (1 : Int32)))), .second, .val (.double (FP.i2d p3)), .second, .unset, .unset, .unset, .unset, .unset, .unset, .unset] [(.double (FP.i2d p3)), (.int (0 : Int32)), (.ref ew)])) rfl rfl (Jvm.hb hby at_133)
      have V685 : Arv Z h685 ew k608 .double (3 : Int32) [(.double (FP.i2d p3)), (.double (4626322717216342016 : UInt64)), (.double (4630826316843712512 : UInt64))] (.double (0 : UInt64)) := Arv.set Ar684 q684 S684 M684 H684 U684 rfl W685 0 rfl (Nat.le_of_ble_eq_true rfl)
      have N685 := Fr.snoc X685 N680 g_ew
      have K685 : Keep h0 h685 [] := K680.wr W685 (Or.inr sz_ew)
      have pre686 := fun (τ : State) kt => pre681 τ (by
        show Steps p.tables e below (T680.setTop (mkF m 127 #[.val (.int p1), .val (.int p2), .val (.int p3), .val (.int p4), .val (.int p5), .val (.int p6), .val (.ref q), .val (.ref ec), .val (.ref ew), .val (.int (0 : Int32)), .val (.double (FP.i2d ((p2 &&& (1048575 : Int32)) + (1 : Int32)))), .second, .val (.double (FP.i2d p3)), .second, .unset, .unset, .unset, .unset, .unset, .unset, .unset] [])) τ
        refine XS.aload X680.here hx rfl (Jvm.hb hby at_127) rfl rfl ?_
        refine XS.iload X680.here hx rfl (Jvm.hb hby at_129) rfl ?_
        refine own_dload X680.here hx rfl (Jvm.hb hby at_131) rfl ?_
        exact st685 τ kt)
      have f687 := f672.keep Kq668
      have f688 := f687.wr W680
      have f689 := f688.wr W685
      have f690 := f650.keep Kq668 (ninS n_aA (ninS n_aB (nin0)))
      have f691 := (f690.other W680 (Or.inl ne_q_ec))
      have f692 := (f691.other W685 (Or.inl ne_q_ew))
      have f693 := f659.keep Kq668 (ninS n_aA (ninS n_aB (nin0)))
      have f694 := (f693.other W680 (Or.inl ne_q_ec))
      have f695 := (f694.other W685 (Or.inl ne_q_ew))
      have f696 := fCn575.keep Kq577 (ninS n_aA (ninS n_aB (nin0)))
      have f697 := f696.keep Kq582 (ninS n_aA (ninS n_aB (nin0)))
      have f698 := f697.keep Kq587 (ninS n_aA (ninS n_aB (nin0)))
      have f699 := f698.ext E590
      have f700 := (f699.other W600 (Or.inl ne_q_ec))
      have f701 := (f700.other W603 (Or.inl ne_q_ec))
      have f702 := (f701.other W606 (Or.inl ne_q_ec))
      have f703 := f702.ext E608
      have f704 := (f703.other W631 (Or.inl ne_q_ew))
      have f705 := (f704.other W634 (Or.inl ne_q_ew))
      have f706 := (f705.other W637 (Or.inl ne_q_ew))
      have f707 := f706.keep Kq668 (ninS n_aA (ninS n_aB (nin0)))
      have f708 := (f707.other W680 (Or.inl ne_q_ec))
      have f709 := (f708.other W685 (Or.inl ne_q_ew))
      have f710 := fDn575.keep Kq577 (ninS n_aA (ninS n_aB (nin0)))
      have f711 := f710.keep Kq582 (ninS n_aA (ninS n_aB (nin0)))
      have f712 := f711.keep Kq587 (ninS n_aA (ninS n_aB (nin0)))
      have f713 := f712.ext E590
      have f714 := (f713.other W600 (Or.inl ne_q_ec))
      have f715 := (f714.other W603 (Or.inl ne_q_ec))
      have f716 := (f715.other W606 (Or.inl ne_q_ec))
      have f717 := f716.ext E608
      have f718 := (f717.other W631 (Or.inl ne_q_ew))
      have f719 := (f718.other W634 (Or.inl ne_q_ew))
      have f720 := (f719.other W637 (Or.inl ne_q_ew))
      have f721 := f720.keep Kq668 (ninS n_aA (ninS n_aB (nin0)))
      have f722 := (f721.other W680 (Or.inl ne_q_ec))
      have f723 := (f722.other W685 (Or.inl ne_q_ew))
      have f724 := vA668.other W680 ne_A_ec
      have f725 := f724.other W685 ne_A_ew
      have f726 := vB668.other W680 ne_B_ec
      have f727 := f726.other W685 ne_B_ew
      have f728 := V680.other W685 ne_ec_ew
      have f729 := f624.ext E608
      have f730 := f729.other W631 ne_Cn_ew
      have f731 := f730.other W634 ne_Cn_ew
      have f732 := f731.other W637 ne_Cn_ew
      have f733 := f732.keep Kq668 (ninS (Ne.symm n_ACn) (ninS (Ne.symm n_BCn) (nin0)))
      have f734 := f733.other W680 ne_Cn_ec
      have f735 := f734.other W685 ne_Cn_ew
      have f736 := f628.ext E608
      have f737 := f736.other W631 ne_Dn_ew
      have f738 := f737.other W634 ne_Dn_ew
      have f739 := f738.other W637 ne_Dn_ew
      have f740 := f739.keep Kq668 (ninS (Ne.symm n_ADn) (ninS (Ne.symm n_BDn) (nin0)))
      have f741 := f740.other W680 ne_Dn_ec
      have f742 := f741.other W685 ne_Dn_ew
      exact ⟨_, _, _, (FP.i2d ((p2 &&& (1048575 : Int32)) + (1 : Int32))), (4611686018427387904 : UInt64), (4616189618054758400 : UInt64), (FP.i2d p3), (4626322717216342016 : UInt64), (4630826316843712512 : UInt64), X685, e685, N685, K685, f689, f692, f695, f709, f723, f725, f727, f728, V685, f735, f742, ⟨own_cw_i2d p2 p3, own_cw2, own_cw4⟩, pre686⟩
    · subst qst
      have f743 := f585.keep Kq587 (ninS n_aA (ninS n_aB (nin0)))
      have f744 := f743.ext E590
      have f745 := (f744.other W600 (Or.inl ne_q_ec))
      have f746 := (f745.other W603 (Or.inl ne_q_ec))
      have f747 := (f746.other W606 (Or.inl ne_q_ec))
      have f748 := f747.ext E608
      have f749 := (f748.other W631 (Or.inl ne_q_ew))
      have f750 := (f749.other W634 (Or.inl ne_q_ew))
      have f751 := (f750.other W637 (Or.inl ne_q_ew))
      have f752 := f586.keep Kq587 (ninS n_aA (ninS n_aB (nin0)))
      have f753 := f752.ext E590
      have f754 := (f753.other W600 (Or.inl ne_q_ec))
      have f755 := (f754.other W603 (Or.inl ne_q_ec))
      have f756 := (f755.other W606 (Or.inl ne_q_ec))
      have f757 := f756.ext E608
      have f758 := (f757.other W631 (Or.inl ne_q_ew))
      have f759 := (f758.other W634 (Or.inl ne_q_ew))
      have f760 := (f759.other W637 (Or.inl ne_q_ew))
      have f761 := f616.ext E608
      have f762 := f761.other W631 ne_A_ew
      have f763 := f762.other W634 ne_A_ew
      have f764 := f763.other W637 ne_A_ew
      have f765 := f620.ext E608
      have f766 := f765.other W631 ne_B_ew
      have f767 := f766.other W634 ne_B_ew
      have f768 := f767.other W637 ne_B_ew
      have f770 := f612.ext E608
      have f771 := f770.wr W631
      have f772 := f771.wr W634
      have f773 := f772.wr W637
      obtain ⟨_, T769, L769, X769, ⟨rfl, Nq769, Kq769, vA769, vB769⟩, st769⟩ := own_virt (y := own_mn5) (b := q) X637 hx hZ hown (own_W30 hw) (own_W31 hw) (own_W33 hw) (own_W32 hw) (by decide) (rmL1 l Z a0 hw [] q (1 : Int32) (FP.i2d ((p2 &&& (1048575 : Int32)) + (1 : Int32))) (FP.i2d p3) A B kA kB FP.dconst1 (4611686018427387904 : UInt64) (4616189618054758400 : UInt64) (4621819117588971520 : UInt64) (4626322717216342016 : UInt64) (4630826316843712512 : UInt64) h637 n0 (Nat.le_trans Z0 K637.1) rfl f751 f760 f764 f768 n_aA n_aB n_AB gA gB) (own_W34 hw) (own_W2 hw) 0 (by decide) (by decide) f773 e637 (mkF m 117 #[.val (.int p1), .val (.int p2), .val (.int p3), .val (.int p4), .val (.int p5), .val (.int p6), .val (.ref q), .val (.ref ec), .val (.ref ew), .val (.int (1 : Int32)), .val (.double (FP.i2d ((p2 &&& (1048575 : Int32)) + (1 : Int32)))), .second, .val (.double (FP.i2d p3)), .second, .unset, .unset, .unset, .unset, .unset, .unset, .unset] [(.double (FP.i2d p3)), (.double (FP.i2d ((p2 &&& (1048575 : Int32)) + (1 : Int32)))), (.int (1 : Int32)), (.ref q)]) rfl (by rw [hml]; rfl) [(.int (1 : Int32)), (.double (FP.i2d ((p2 &&& (1048575 : Int32)) + (1 : Int32)))), (.double (FP.i2d p3))] [] rfl (lenOf own_pd__IDD_V rfl) rfl (Nat.le_refl _) (Jvm.hb hby at_117) (by decide) (by decide)
      have N769 := Fr.app N637 Nq769
      have K769 : Keep h0 T769.heap [] := K637.trans Kq769 (allS (Or.inr sz_A) (allS (Or.inr sz_B) (all0)))
      have pre774 := fun (τ : State) kt => pre640 τ (st769 τ kt)
      have f775 := V606.ext E608
      have f776 := f775.other W631 ne_ec_ew
      have f777 := f776.other W634 ne_ec_ew
      have f778 := f777.other W637 ne_ec_ew
      have f779 := f778.keep Kq769 (ninS (Ne.symm ne_A_ec) (ninS (Ne.symm ne_B_ec) (nin0)))
      obtain ⟨cl780, Ar780, q780, S780, M780, H780, U780⟩ := id f779
      obtain ⟨T781, h781, X781, e781, W781, st781⟩ := own_stD X769 hx hZ rfl Ar780 (j := (1 : Int32)) (inb_of S780 ⟨by decide, by decide⟩) (g := (mkF m 126 #[.val (.int p1), .val (.int p2), .val (.int p3), .val (.int p4), .val (.int p5), .val (.int p6), .val (.ref q), .val (.ref ec), .val (.ref ew), .val (.int (1 : Int32)), .val (.double (FP.i2d ((p2 &&& (1048575 : Int32)) + (1 : Int32)))), .second, .val (.double (FP.i2d p3)), .second, .unset, .unset, .unset, .unset, .unset, .unset, .unset] [(.double (FP.i2d ((p2 &&& (1048575 : Int32)) + (1 : Int32)))), (.int (1 : Int32)), (.ref ec)])) rfl rfl (Jvm.hb hby at_126)
      have V781 : Arv Z h781 ec k590 .double (3 : Int32) [(.double FP.dconst1), (.double (FP.i2d ((p2 &&& (1048575 : Int32)) + (1 : Int32)))), (.double (4616189618054758400 : UInt64))] (.double (0 : UInt64)) := Arv.set Ar780 q780 S780 M780 H780 U780 rfl W781 1 rfl (Nat.le_of_ble_eq_true rfl)
      have N781 := Fr.snoc X781 N769 g_ec
      have K781 : Keep h0 h781 [] := K769.wr W781 (Or.inr sz_ec)
      have pre782 := fun (τ : State) kt => pre774 τ (by
        show Steps p.tables e below (T769.setTop (mkF m 120 #[.val (.int p1), .val (.int p2), .val (.int p3), .val (.int p4), .val (.int p5), .val (.int p6), .val (.ref q), .val (.ref ec), .val (.ref ew), .val (.int (1 : Int32)), .val (.double (FP.i2d ((p2 &&& (1048575 : Int32)) + (1 : Int32)))), .second, .val (.double (FP.i2d p3)), .second, .unset, .unset, .unset, .unset, .unset, .unset, .unset] [])) τ
        refine XS.aload X769.here hx rfl (Jvm.hb hby at_120) rfl rfl ?_
        refine XS.iload X769.here hx rfl (Jvm.hb hby at_122) rfl ?_
        refine own_dload X769.here hx rfl (Jvm.hb hby at_124) rfl ?_
        exact st781 τ kt)
      have f783 := V637.keep Kq769 (ninS (Ne.symm ne_A_ew) (ninS (Ne.symm ne_B_ew) (nin0)))
      have f784 := f783.other W781 (Ne.symm ne_ec_ew)
      obtain ⟨cl785, Ar785, q785, S785, M785, H785, U785⟩ := id f784
      obtain ⟨T786, h786, X786, e786, W786, st786⟩ := own_stD X781 hx hZ e781 Ar785 (j := (1 : Int32)) (inb_of S785 ⟨by decide, by decide⟩) (g := (mkF m 133 #[.val (.int p1), .val (.int p2), .val (.int p3), .val (.int p4), .val (.int p5), .val (.int p6), .val (.ref q), .val (.ref ec), .val (.ref ew), .val (.int (1 : Int32)), .val (.double (FP.i2d ((p2 &&& (1048575 : Int32)) + (1 : Int32)))), .second, .val (.double (FP.i2d p3)), .second, .unset, .unset, .unset, .unset, .unset, .unset, .unset] [(.double (FP.i2d p3)), (.int (1 : Int32)), (.ref ew)])) rfl rfl (Jvm.hb hby at_133)
      have V786 : Arv Z h786 ew k608 .double (3 : Int32) [(.double (4621819117588971520 : UInt64)), (.double (FP.i2d p3)), (.double (4630826316843712512 : UInt64))] (.double (0 : UInt64)) := Arv.set Ar785 q785 S785 M785 H785 U785 rfl W786 1 rfl (Nat.le_of_ble_eq_true rfl)
      have N786 := Fr.snoc X786 N781 g_ew
      have K786 : Keep h0 h786 [] := K781.wr W786 (Or.inr sz_ew)
      have pre787 := fun (τ : State) kt => pre782 τ (by
        show Steps p.tables e below (T781.setTop (mkF m 127 #[.val (.int p1), .val (.int p2), .val (.int p3), .val (.int p4), .val (.int p5), .val (.int p6), .val (.ref q), .val (.ref ec), .val (.ref ew), .val (.int (1 : Int32)), .val (.double (FP.i2d ((p2 &&& (1048575 : Int32)) + (1 : Int32)))), .second, .val (.double (FP.i2d p3)), .second, .unset, .unset, .unset, .unset, .unset, .unset, .unset] [])) τ
        refine XS.aload X781.here hx rfl (Jvm.hb hby at_127) rfl rfl ?_
        refine XS.iload X781.here hx rfl (Jvm.hb hby at_129) rfl ?_
        refine own_dload X781.here hx rfl (Jvm.hb hby at_131) rfl ?_
        exact st786 τ kt)
      have f788 := f773.keep Kq769
      have f789 := f788.wr W781
      have f790 := f789.wr W786
      have f791 := f751.keep Kq769 (ninS n_aA (ninS n_aB (nin0)))
      have f792 := (f791.other W781 (Or.inl ne_q_ec))
      have f793 := (f792.other W786 (Or.inl ne_q_ew))
      have f794 := f760.keep Kq769 (ninS n_aA (ninS n_aB (nin0)))
      have f795 := (f794.other W781 (Or.inl ne_q_ec))
      have f796 := (f795.other W786 (Or.inl ne_q_ew))
      have f797 := fCn575.keep Kq577 (ninS n_aA (ninS n_aB (nin0)))
      have f798 := f797.keep Kq582 (ninS n_aA (ninS n_aB (nin0)))
      have f799 := f798.keep Kq587 (ninS n_aA (ninS n_aB (nin0)))
      have f800 := f799.ext E590
      have f801 := (f800.other W600 (Or.inl ne_q_ec))
      have f802 := (f801.other W603 (Or.inl ne_q_ec))
      have f803 := (f802.other W606 (Or.inl ne_q_ec))
      have f804 := f803.ext E608
      have f805 := (f804.other W631 (Or.inl ne_q_ew))
      have f806 := (f805.other W634 (Or.inl ne_q_ew))
      have f807 := (f806.other W637 (Or.inl ne_q_ew))
      have f808 := f807.keep Kq769 (ninS n_aA (ninS n_aB (nin0)))
      have f809 := (f808.other W781 (Or.inl ne_q_ec))
      have f810 := (f809.other W786 (Or.inl ne_q_ew))
      have f811 := fDn575.keep Kq577 (ninS n_aA (ninS n_aB (nin0)))
      have f812 := f811.keep Kq582 (ninS n_aA (ninS n_aB (nin0)))
      have f813 := f812.keep Kq587 (ninS n_aA (ninS n_aB (nin0)))
      have f814 := f813.ext E590
      have f815 := (f814.other W600 (Or.inl ne_q_ec))
      have f816 := (f815.other W603 (Or.inl ne_q_ec))
      have f817 := (f816.other W606 (Or.inl ne_q_ec))
      have f818 := f817.ext E608
      have f819 := (f818.other W631 (Or.inl ne_q_ew))
      have f820 := (f819.other W634 (Or.inl ne_q_ew))
      have f821 := (f820.other W637 (Or.inl ne_q_ew))
      have f822 := f821.keep Kq769 (ninS n_aA (ninS n_aB (nin0)))
      have f823 := (f822.other W781 (Or.inl ne_q_ec))
      have f824 := (f823.other W786 (Or.inl ne_q_ew))
      have f825 := vA769.other W781 ne_A_ec
      have f826 := f825.other W786 ne_A_ew
      have f827 := vB769.other W781 ne_B_ec
      have f828 := f827.other W786 ne_B_ew
      have f829 := V781.other W786 ne_ec_ew
      have f830 := f624.ext E608
      have f831 := f830.other W631 ne_Cn_ew
      have f832 := f831.other W634 ne_Cn_ew
      have f833 := f832.other W637 ne_Cn_ew
      have f834 := f833.keep Kq769 (ninS (Ne.symm n_ACn) (ninS (Ne.symm n_BCn) (nin0)))
      have f835 := f834.other W781 ne_Cn_ec
      have f836 := f835.other W786 ne_Cn_ew
      have f837 := f628.ext E608
      have f838 := f837.other W631 ne_Dn_ew
      have f839 := f838.other W634 ne_Dn_ew
      have f840 := f839.other W637 ne_Dn_ew
      have f841 := f840.keep Kq769 (ninS (Ne.symm n_ADn) (ninS (Ne.symm n_BDn) (nin0)))
      have f842 := f841.other W781 ne_Dn_ec
      have f843 := f842.other W786 ne_Dn_ew
      exact ⟨_, _, _, FP.dconst1, (FP.i2d ((p2 &&& (1048575 : Int32)) + (1 : Int32))), (4616189618054758400 : UInt64), (4621819117588971520 : UInt64), (FP.i2d p3), (4630826316843712512 : UInt64), X786, e786, N786, K786, f790, f793, f796, f810, f824, f826, f828, f829, V786, f836, f843, ⟨own_cw1, own_cw_i2d p2 p3, own_cw4⟩, pre787⟩
    · subst qst
      have f844 := f585.keep Kq587 (ninS n_aA (ninS n_aB (nin0)))
      have f845 := f844.ext E590
      have f846 := (f845.other W600 (Or.inl ne_q_ec))
      have f847 := (f846.other W603 (Or.inl ne_q_ec))
      have f848 := (f847.other W606 (Or.inl ne_q_ec))
      have f849 := f848.ext E608
      have f850 := (f849.other W631 (Or.inl ne_q_ew))
      have f851 := (f850.other W634 (Or.inl ne_q_ew))
      have f852 := (f851.other W637 (Or.inl ne_q_ew))
      have f853 := f586.keep Kq587 (ninS n_aA (ninS n_aB (nin0)))
      have f854 := f853.ext E590
      have f855 := (f854.other W600 (Or.inl ne_q_ec))
      have f856 := (f855.other W603 (Or.inl ne_q_ec))
      have f857 := (f856.other W606 (Or.inl ne_q_ec))
      have f858 := f857.ext E608
      have f859 := (f858.other W631 (Or.inl ne_q_ew))
      have f860 := (f859.other W634 (Or.inl ne_q_ew))
      have f861 := (f860.other W637 (Or.inl ne_q_ew))
      have f862 := f616.ext E608
      have f863 := f862.other W631 ne_A_ew
      have f864 := f863.other W634 ne_A_ew
      have f865 := f864.other W637 ne_A_ew
      have f866 := f620.ext E608
      have f867 := f866.other W631 ne_B_ew
      have f868 := f867.other W634 ne_B_ew
      have f869 := f868.other W637 ne_B_ew
      have f871 := f612.ext E608
      have f872 := f871.wr W631
      have f873 := f872.wr W634
      have f874 := f873.wr W637
      obtain ⟨_, T870, L870, X870, ⟨rfl, Nq870, Kq870, vA870, vB870⟩, st870⟩ := own_virt (y := own_mn5) (b := q) X637 hx hZ hown (own_W30 hw) (own_W31 hw) (own_W33 hw) (own_W32 hw) (by decide) (rmL2 l Z a0 hw [] q (2 : Int32) (FP.i2d ((p2 &&& (1048575 : Int32)) + (1 : Int32))) (FP.i2d p3) A B kA kB FP.dconst1 (4611686018427387904 : UInt64) (4616189618054758400 : UInt64) (4621819117588971520 : UInt64) (4626322717216342016 : UInt64) (4630826316843712512 : UInt64) h637 n0 (Nat.le_trans Z0 K637.1) rfl f852 f861 f865 f869 n_aA n_aB n_AB gA gB) (own_W34 hw) (own_W2 hw) 0 (by decide) (by decide) f874 e637 (mkF m 117 #[.val (.int p1), .val (.int p2), .val (.int p3), .val (.int p4), .val (.int p5), .val (.int p6), .val (.ref q), .val (.ref ec), .val (.ref ew), .val (.int (2 : Int32)), .val (.double (FP.i2d ((p2 &&& (1048575 : Int32)) + (1 : Int32)))), .second, .val (.double (FP.i2d p3)), .second, .unset, .unset, .unset, .unset, .unset, .unset, .unset] [(.double (FP.i2d p3)), (.double (FP.i2d ((p2 &&& (1048575 : Int32)) + (1 : Int32)))), (.int (2 : Int32)), (.ref q)]) rfl (by rw [hml]; rfl) [(.int (2 : Int32)), (.double (FP.i2d ((p2 &&& (1048575 : Int32)) + (1 : Int32)))), (.double (FP.i2d p3))] [] rfl (lenOf own_pd__IDD_V rfl) rfl (Nat.le_refl _) (Jvm.hb hby at_117) (by decide) (by decide)
      have N870 := Fr.app N637 Nq870
      have K870 : Keep h0 T870.heap [] := K637.trans Kq870 (allS (Or.inr sz_A) (allS (Or.inr sz_B) (all0)))
      have pre875 := fun (τ : State) kt => pre640 τ (st870 τ kt)
      have f876 := V606.ext E608
      have f877 := f876.other W631 ne_ec_ew
      have f878 := f877.other W634 ne_ec_ew
      have f879 := f878.other W637 ne_ec_ew
      have f880 := f879.keep Kq870 (ninS (Ne.symm ne_A_ec) (ninS (Ne.symm ne_B_ec) (nin0)))
      obtain ⟨cl881, Ar881, q881, S881, M881, H881, U881⟩ := id f880
      obtain ⟨T882, h882, X882, e882, W882, st882⟩ := own_stD X870 hx hZ rfl Ar881 (j := (2 : Int32)) (inb_of S881 ⟨by decide, by decide⟩) (g := (mkF m 126 #[.val (.int p1), .val (.int p2), .val (.int p3), .val (.int p4), .val (.int p5), .val (.int p6), .val (.ref q), .val (.ref ec), .val (.ref ew), .val (.int (2 : Int32)), .val (.double (FP.i2d ((p2 &&& (1048575 : Int32)) + (1 : Int32)))), .second, .val (.double (FP.i2d p3)), .second, .unset, .unset, .unset, .unset, .unset, .unset, .unset] [(.double (FP.i2d ((p2 &&& (1048575 : Int32)) + (1 : Int32)))), (.int (2 : Int32)), (.ref ec)])) rfl rfl (Jvm.hb hby at_126)
      have V882 : Arv Z h882 ec k590 .double (3 : Int32) [(.double FP.dconst1), (.double (4611686018427387904 : UInt64)), (.double (FP.i2d ((p2 &&& (1048575 : Int32)) + (1 : Int32))))] (.double (0 : UInt64)) := Arv.set Ar881 q881 S881 M881 H881 U881 rfl W882 2 rfl (Nat.le_of_ble_eq_true rfl)
      have N882 := Fr.snoc X882 N870 g_ec
      have K882 : Keep h0 h882 [] := K870.wr W882 (Or.inr sz_ec)
      have pre883 := fun (τ : State) kt => pre875 τ (by
        show Steps p.tables e below (T870.setTop (mkF m 120 #[.val (.int p1), .val (.int p2), .val (.int p3), .val (.int p4), .val (.int p5), .val (.int p6), .val (.ref q), .val (.ref ec), .val (.ref ew), .val (.int (2 : Int32)), .val (.double (FP.i2d ((p2 &&& (1048575 : Int32)) + (1 : Int32)))), .second, .val (.double (FP.i2d p3)), .second, .unset, .unset, .unset, .unset, .unset, .unset, .unset] [])) τ
        refine XS.aload X870.here hx rfl (Jvm.hb hby at_120) rfl rfl ?_
        refine XS.iload X870.here hx rfl (Jvm.hb hby at_122) rfl ?_
        refine own_dload X870.here hx rfl (Jvm.hb hby at_124) rfl ?_
        exact st882 τ kt)
      have f884 := V637.keep Kq870 (ninS (Ne.symm ne_A_ew) (ninS (Ne.symm ne_B_ew) (nin0)))
      have f885 := f884.other W882 (Ne.symm ne_ec_ew)
      obtain ⟨cl886, Ar886, q886, S886, M886, H886, U886⟩ := id f885
      obtain ⟨T887, h887, X887, e887, W887, st887⟩ := own_stD X882 hx hZ e882 Ar886 (j := (2 : Int32)) (inb_of S886 ⟨by decide, by decide⟩) (g := (mkF m 133 #[.val (.int p1), .val (.int p2), .val (.int p3), .val (.int p4), .val (.int p5), .val (.int p6), .val (.ref q), .val (.ref ec), .val (.ref ew), .val (.int (2 : Int32)), .val (.double (FP.i2d ((p2 &&& (1048575 : Int32)) + (1 : Int32)))), .second, .val (.double (FP.i2d p3)), .second, .unset, .unset, .unset, .unset, .unset, .unset, .unset] [(.double (FP.i2d p3)), (.int (2 : Int32)), (.ref ew)])) rfl rfl (Jvm.hb hby at_133)
      have V887 : Arv Z h887 ew k608 .double (3 : Int32) [(.double (4621819117588971520 : UInt64)), (.double (4626322717216342016 : UInt64)), (.double (FP.i2d p3))] (.double (0 : UInt64)) := Arv.set Ar886 q886 S886 M886 H886 U886 rfl W887 2 rfl (Nat.le_of_ble_eq_true rfl)
      have N887 := Fr.snoc X887 N882 g_ew
      have K887 : Keep h0 h887 [] := K882.wr W887 (Or.inr sz_ew)
      have pre888 := fun (τ : State) kt => pre883 τ (by
        show Steps p.tables e below (T882.setTop (mkF m 127 #[.val (.int p1), .val (.int p2), .val (.int p3), .val (.int p4), .val (.int p5), .val (.int p6), .val (.ref q), .val (.ref ec), .val (.ref ew), .val (.int (2 : Int32)), .val (.double (FP.i2d ((p2 &&& (1048575 : Int32)) + (1 : Int32)))), .second, .val (.double (FP.i2d p3)), .second, .unset, .unset, .unset, .unset, .unset, .unset, .unset] [])) τ
        refine XS.aload X882.here hx rfl (Jvm.hb hby at_127) rfl rfl ?_
        refine XS.iload X882.here hx rfl (Jvm.hb hby at_129) rfl ?_
        refine own_dload X882.here hx rfl (Jvm.hb hby at_131) rfl ?_
        exact st887 τ kt)
      have f889 := f874.keep Kq870
      have f890 := f889.wr W882
      have f891 := f890.wr W887
      have f892 := f852.keep Kq870 (ninS n_aA (ninS n_aB (nin0)))
      have f893 := (f892.other W882 (Or.inl ne_q_ec))
      have f894 := (f893.other W887 (Or.inl ne_q_ew))
      have f895 := f861.keep Kq870 (ninS n_aA (ninS n_aB (nin0)))
      have f896 := (f895.other W882 (Or.inl ne_q_ec))
      have f897 := (f896.other W887 (Or.inl ne_q_ew))
      have f898 := fCn575.keep Kq577 (ninS n_aA (ninS n_aB (nin0)))
      have f899 := f898.keep Kq582 (ninS n_aA (ninS n_aB (nin0)))
      have f900 := f899.keep Kq587 (ninS n_aA (ninS n_aB (nin0)))
      have f901 := f900.ext E590
      have f902 := (f901.other W600 (Or.inl ne_q_ec))
      have f903 := (f902.other W603 (Or.inl ne_q_ec))
      have f904 := (f903.other W606 (Or.inl ne_q_ec))
      have f905 := f904.ext E608
      have f906 := (f905.other W631 (Or.inl ne_q_ew))
      have f907 := (f906.other W634 (Or.inl ne_q_ew))
      have f908 := (f907.other W637 (Or.inl ne_q_ew))
      have f909 := f908.keep Kq870 (ninS n_aA (ninS n_aB (nin0)))
      have f910 := (f909.other W882 (Or.inl ne_q_ec))
      have f911 := (f910.other W887 (Or.inl ne_q_ew))
      have f912 := fDn575.keep Kq577 (ninS n_aA (ninS n_aB (nin0)))
      have f913 := f912.keep Kq582 (ninS n_aA (ninS n_aB (nin0)))
      have f914 := f913.keep Kq587 (ninS n_aA (ninS n_aB (nin0)))
      have f915 := f914.ext E590
      have f916 := (f915.other W600 (Or.inl ne_q_ec))
      have f917 := (f916.other W603 (Or.inl ne_q_ec))
      have f918 := (f917.other W606 (Or.inl ne_q_ec))
      have f919 := f918.ext E608
      have f920 := (f919.other W631 (Or.inl ne_q_ew))
      have f921 := (f920.other W634 (Or.inl ne_q_ew))
      have f922 := (f921.other W637 (Or.inl ne_q_ew))
      have f923 := f922.keep Kq870 (ninS n_aA (ninS n_aB (nin0)))
      have f924 := (f923.other W882 (Or.inl ne_q_ec))
      have f925 := (f924.other W887 (Or.inl ne_q_ew))
      have f926 := vA870.other W882 ne_A_ec
      have f927 := f926.other W887 ne_A_ew
      have f928 := vB870.other W882 ne_B_ec
      have f929 := f928.other W887 ne_B_ew
      have f930 := V882.other W887 ne_ec_ew
      have f931 := f624.ext E608
      have f932 := f931.other W631 ne_Cn_ew
      have f933 := f932.other W634 ne_Cn_ew
      have f934 := f933.other W637 ne_Cn_ew
      have f935 := f934.keep Kq870 (ninS (Ne.symm n_ACn) (ninS (Ne.symm n_BCn) (nin0)))
      have f936 := f935.other W882 ne_Cn_ec
      have f937 := f936.other W887 ne_Cn_ew
      have f938 := f628.ext E608
      have f939 := f938.other W631 ne_Dn_ew
      have f940 := f939.other W634 ne_Dn_ew
      have f941 := f940.other W637 ne_Dn_ew
      have f942 := f941.keep Kq870 (ninS (Ne.symm n_ADn) (ninS (Ne.symm n_BDn) (nin0)))
      have f943 := f942.other W882 ne_Dn_ec
      have f944 := f943.other W887 ne_Dn_ew
      exact ⟨_, _, _, FP.dconst1, (4611686018427387904 : UInt64), (FP.i2d ((p2 &&& (1048575 : Int32)) + (1 : Int32))), (4621819117588971520 : UInt64), (4626322717216342016 : UInt64), (FP.i2d p3), X887, e887, N887, K887, f891, f894, f897, f911, f925, f927, f929, f930, V887, f937, f944, ⟨own_cw1, own_cw2, own_cw_i2d p2 p3⟩, pre888⟩
  obtain ⟨cw0, cw1, cw2⟩ := hj641
  have pre945 := fun (τ : State) kt => pre641 τ (by
    show Steps p.tables e below (T641.setTop (mkF m 134 #[.val (.int p1), .val (.int p2), .val (.int p3), .val (.int p4), .val (.int p5), .val (.int p6), .val (.ref q), .val (.ref ec), .val (.ref ew), .val (.int st1), .val (.double (FP.i2d ((p2 &&& (1048575 : Int32)) + (1 : Int32)))), .second, .val (.double (FP.i2d p3)), .second, .unset, .unset, .unset, .unset, .unset, .unset, .unset] [])) τ
    refine XS.iloadN X641.here hx rfl (Jvm.hb hby at_134) rfl ?_
    refine XS.iconst X641.here hx rfl (Jvm.hb hby at_135) ?_
    refine XS.iand X641.here hx rfl (Jvm.hb hby at_136) rfl ?_
    exact kt)
  obtain ⟨sc, hj946, pre946⟩ : ∃ (sc : Int32), (sc = 1 ∨ sc = 0) ∧ ∀ τ, Steps p.tables e below (T641.setTop (mkF m 147 #[.val (.int p1), .val (.int p2), .val (.int p3), .val (.int p4), .val (.int p5), .val (.int p6), .val (.ref q), .val (.ref ec), .val (.ref ew), .val (.int st1), .val (.double (FP.i2d ((p2 &&& (1048575 : Int32)) + (1 : Int32)))), .second, .val (.double (FP.i2d p3)), .second, .val (.int sc), .unset, .unset, .unset, .unset, .unset, .unset] [])) τ → PS τ := by
    by_cases qf : (p4 &&& (1 : Int32)) = (0 : Int32)
    · skip
      have pre947 := fun (τ : State) kt => pre945 τ (by
        show Steps p.tables e below (T641.setTop (mkF m 137 #[.val (.int p1), .val (.int p2), .val (.int p3), .val (.int p4), .val (.int p5), .val (.int p6), .val (.ref q), .val (.ref ec), .val (.ref ew), .val (.int st1), .val (.double (FP.i2d ((p2 &&& (1048575 : Int32)) + (1 : Int32)))), .second, .val (.double (FP.i2d p3)), .second, .unset, .unset, .unset, .unset, .unset, .unset, .unset] [(.int (p4 &&& (1 : Int32)))])) τ
        refine XS.ifYes X641.here hx rfl (pc0 := 137) (pc' := 144) rfl (Jvm.hb hby at_137) rfl ((if0 _ _).trans (teq qf).1) (by decide) (by decide) ?_
        refine XS.iconst X641.here hx rfl (Jvm.hb hby at_144) ?_
        refine XS.istore X641.here hx rfl (Jvm.hb hby at_145) rfl (l' := #[.val (.int p1), .val (.int p2), .val (.int p3), .val (.int p4), .val (.int p5), .val (.int p6), .val (.ref q), .val (.ref ec), .val (.ref ew), .val (.int st1), .val (.double (FP.i2d ((p2 &&& (1048575 : Int32)) + (1 : Int32)))), .second, .val (.double (FP.i2d p3)), .second, .val (.int (0 : Int32)), .unset, .unset, .unset, .unset, .unset, .unset]) rfl ?_
        exact kt)
      exact ⟨(0 : Int32), Or.inr rfl, pre947⟩
    · skip
      have pre948 := fun (τ : State) kt => pre945 τ (by
        show Steps p.tables e below (T641.setTop (mkF m 137 #[.val (.int p1), .val (.int p2), .val (.int p3), .val (.int p4), .val (.int p5), .val (.int p6), .val (.ref q), .val (.ref ec), .val (.ref ew), .val (.int st1), .val (.double (FP.i2d ((p2 &&& (1048575 : Int32)) + (1 : Int32)))), .second, .val (.double (FP.i2d p3)), .second, .unset, .unset, .unset, .unset, .unset, .unset, .unset] [(.int (p4 &&& (1 : Int32)))])) τ
        refine XS.ifNo X641.here hx rfl (Jvm.hb hby at_137) rfl ((if0 _ _).trans (feq qf).1) ?_
        refine XS.iconst X641.here hx rfl (Jvm.hb hby at_140) ?_
        refine XS.goto X641.here hx rfl (pc0 := 141) (pc' := 145) rfl (Jvm.hb hby at_141) (by decide) (by decide) ?_
        refine XS.istore X641.here hx rfl (Jvm.hb hby at_145) rfl (l' := #[.val (.int p1), .val (.int p2), .val (.int p3), .val (.int p4), .val (.int p5), .val (.int p6), .val (.ref q), .val (.ref ec), .val (.ref ew), .val (.int st1), .val (.double (FP.i2d ((p2 &&& (1048575 : Int32)) + (1 : Int32)))), .second, .val (.double (FP.i2d p3)), .second, .val (.int (1 : Int32)), .unset, .unset, .unset, .unset, .unset, .unset]) rfl ?_
        exact kt)
      exact ⟨(1 : Int32), Or.inl rfl, pre948⟩
  have pre949 := fun (τ : State) kt => pre946 τ (by
    show Steps p.tables e below (T641.setTop (mkF m 147 #[.val (.int p1), .val (.int p2), .val (.int p3), .val (.int p4), .val (.int p5), .val (.int p6), .val (.ref q), .val (.ref ec), .val (.ref ew), .val (.int st1), .val (.double (FP.i2d ((p2 &&& (1048575 : Int32)) + (1 : Int32)))), .second, .val (.double (FP.i2d p3)), .second, .val (.int sc), .unset, .unset, .unset, .unset, .unset, .unset] [])) τ
    refine XS.iloadN X641.here hx rfl (Jvm.hb hby at_147) rfl ?_
    refine XS.iconst X641.here hx rfl (Jvm.hb hby at_148) ?_
    refine XT.iushr X641.here hx rfl (Jvm.hb hby at_149) rfl ?_
    refine X641.ldcInt hx hown (mvT hZ (own_W41 hw)) (g := (mkF m 150 #[.val (.int p1), .val (.int p2), .val (.int p3), .val (.int p4), .val (.int p5), .val (.int p6), .val (.ref q), .val (.ref ec), .val (.ref ew), .val (.int st1), .val (.double (FP.i2d ((p2 &&& (1048575 : Int32)) + (1 : Int32)))), .second, .val (.double (FP.i2d p3)), .second, .val (.int sc), .unset, .unset, .unset, .unset, .unset, .unset] [(.int (XT.ushr p4 (1 : Int32)))])) rfl (Jvm.hb hby at_150) _ ?_
    refine XS.iand X641.here hx rfl (Jvm.hb hby at_152) rfl ?_
    refine XS.iconst X641.here hx rfl (Jvm.hb hby at_153) ?_
    refine iremM X641 hx rfl (Jvm.hb hby at_154) rfl (by decide) ?_
    refine XS.istore X641.here hx rfl (Jvm.hb hby at_155) rfl (l' := #[.val (.int p1), .val (.int p2), .val (.int p3), .val (.int p4), .val (.int p5), .val (.int p6), .val (.ref q), .val (.ref ec), .val (.ref ew), .val (.int st1), .val (.double (FP.i2d ((p2 &&& (1048575 : Int32)) + (1 : Int32)))), .second, .val (.double (FP.i2d p3)), .second, .val (.int sc), .val (.int (((XT.ushr p4 (1 : Int32)) &&& (1073741823 : Int32)) % (3 : Int32))), .unset, .unset, .unset, .unset, .unset]) rfl ?_
    refine XS.iload X641.here hx rfl (Jvm.hb hby at_157) rfl ?_
    refine X641.ldcInt hx hown (mvT hZ (own_W40 hw)) (g := (mkF m 159 #[.val (.int p1), .val (.int p2), .val (.int p3), .val (.int p4), .val (.int p5), .val (.int p6), .val (.ref q), .val (.ref ec), .val (.ref ew), .val (.int st1), .val (.double (FP.i2d ((p2 &&& (1048575 : Int32)) + (1 : Int32)))), .second, .val (.double (FP.i2d p3)), .second, .val (.int sc), .val (.int (((XT.ushr p4 (1 : Int32)) &&& (1073741823 : Int32)) % (3 : Int32))), .unset, .unset, .unset, .unset, .unset] [(.int p5)])) rfl (Jvm.hb hby at_159) _ ?_
    refine XS.iand X641.here hx rfl (Jvm.hb hby at_161) rfl ?_
    refine XS.iconst X641.here hx rfl (Jvm.hb hby at_162) ?_
    refine XS.iadd X641.here hx rfl (Jvm.hb hby at_163) rfl ?_
    refine own_i2d X641.here hx rfl (Jvm.hb hby at_164) rfl ?_
    refine own_dstore X641.here hx rfl (Jvm.hb hby at_165) rfl (l' := #[.val (.int p1), .val (.int p2), .val (.int p3), .val (.int p4), .val (.int p5), .val (.int p6), .val (.ref q), .val (.ref ec), .val (.ref ew), .val (.int st1), .val (.double (FP.i2d ((p2 &&& (1048575 : Int32)) + (1 : Int32)))), .second, .val (.double (FP.i2d p3)), .second, .val (.int sc), .val (.int (((XT.ushr p4 (1 : Int32)) &&& (1073741823 : Int32)) % (3 : Int32))), .val (.double (FP.i2d ((p5 &&& (1048575 : Int32)) + (1 : Int32)))), .second, .unset, .unset, .unset]) rfl ?_
    refine XS.iload X641.here hx rfl (Jvm.hb hby at_167) rfl ?_
    refine own_i2d X641.here hx rfl (Jvm.hb hby at_169) rfl ?_
    refine own_dstore X641.here hx rfl (Jvm.hb hby at_170) rfl (l' := #[.val (.int p1), .val (.int p2), .val (.int p3), .val (.int p4), .val (.int p5), .val (.int p6), .val (.ref q), .val (.ref ec), .val (.ref ew), .val (.int st1), .val (.double (FP.i2d ((p2 &&& (1048575 : Int32)) + (1 : Int32)))), .second, .val (.double (FP.i2d p3)), .second, .val (.int sc), .val (.int (((XT.ushr p4 (1 : Int32)) &&& (1073741823 : Int32)) % (3 : Int32))), .val (.double (FP.i2d ((p5 &&& (1048575 : Int32)) + (1 : Int32)))), .second, .val (.double (FP.i2d p6)), .second, .unset]) rfl ?_
    refine XS.iload X641.here hx rfl (Jvm.hb hby at_172) rfl ?_
    exact kt)
  obtain ⟨st2, e_st2⟩ : ∃ z : Int32, z = (((XT.ushr p4 (1 : Int32)) &&& (1073741823 : Int32)) % (3 : Int32)) := ⟨_, rfl⟩
  have pre950 : ∀ τ, Steps p.tables e below (T641.setTop (mkF m 174 #[.val (.int p1), .val (.int p2), .val (.int p3), .val (.int p4), .val (.int p5), .val (.int p6), .val (.ref q), .val (.ref ec), .val (.ref ew), .val (.int st1), .val (.double (FP.i2d ((p2 &&& (1048575 : Int32)) + (1 : Int32)))), .second, .val (.double (FP.i2d p3)), .second, .val (.int sc), .val (.int st2), .val (.double (FP.i2d ((p5 &&& (1048575 : Int32)) + (1 : Int32)))), .second, .val (.double (FP.i2d p6)), .second, .unset] [(.int sc)])) τ → PS τ := by rw [e_st2]; exact pre949
  obtain ⟨T951, h951, Lj951, y0, y1, y2, z0, z1, z2, X951, e951, N951, K951, j951_0, j951_1, j951_2, j951_3, j951_4, j951_5, j951_6, j951_7, j951_8, j951_9, j951_10, hj951, pre951⟩ : ∃ (T951 : State) (h951 : Heap) (Lj : List Loc) (y0 : UInt64) (y1 : UInt64) (y2 : UInt64) (z0 : UInt64) (z1 : UInt64) (z2 : UInt64), Stand p l e room_1 s m #[(.int p1), (.int p2), (.int p3), (.int p4), (.int p5), (.int p6)] below meth c T951 Lj (19) (34) ∧ T951.heap = h951 ∧ Fr n0 Lj ∧ Keep h0 h951 [] ∧ Exa Z h951 q "com/example/meticulous_ballot/meticulousballot/AbsorbingChain" ∧ Fld Z h951 q "com/example/meticulous_ballot/meticulousballot/AbsorbingChain" "leaving" "[D" (.ref A) ∧ Fld Z h951 q "com/example/meticulous_ballot/meticulousballot/AbsorbingChain" "worths" "[D" (.ref B) ∧ Fld Z h951 q "com/example/meticulous_ballot/meticulousballot/AbsorbingChain" "linkCounts" "[I" (.ref Cn) ∧ Fld Z h951 q "com/example/meticulous_ballot/meticulousballot/AbsorbingChain" "linkedFromCounts" "[I" (.ref Dn) ∧ Arv Z h951 A kA .double (3 : Int32) [(.double y0), (.double y1), (.double y2)] (.double (0 : UInt64)) ∧ Arv Z h951 B kB .double (3 : Int32) [(.double z0), (.double z1), (.double z2)] (.double (0 : UInt64)) ∧ Arv Z h951 ec k590 .double (3 : Int32) [(.double y0), (.double y1), (.double y2)] (.double (0 : UInt64)) ∧ Arv Z h951 ew k608 .double (3 : Int32) [(.double z0), (.double z1), (.double z2)] (.double (0 : UInt64)) ∧ Arv Z h951 Cn kC .int (3 : Int32) [(.int (0 : Int32)), (.int (0 : Int32)), (.int (0 : Int32))] (.int (0 : Int32)) ∧ Arv Z h951 Dn kD .int (3 : Int32) [(.int (0 : Int32)), (.int (0 : Int32)), (.int (0 : Int32))] (.int (0 : Int32)) ∧ (own_cw y0 z0 ∧ own_cw y1 z1 ∧ own_cw y2 z2) ∧ ∀ τ, Steps p.tables e below (T951.setTop (mkF m 202 #[.val (.int p1), .val (.int p2), .val (.int p3), .val (.int p4), .val (.int p5), .val (.int p6), .val (.ref q), .val (.ref ec), .val (.ref ew), .val (.int st1), .val (.double (FP.i2d ((p2 &&& (1048575 : Int32)) + (1 : Int32)))), .second, .val (.double (FP.i2d p3)), .second, .val (.int sc), .val (.int st2), .val (.double (FP.i2d ((p5 &&& (1048575 : Int32)) + (1 : Int32)))), .second, .val (.double (FP.i2d p6)), .second, .unset] [])) τ → PS τ := by
    by_cases qs : sc = (0 : Int32)
    · skip
      have pre952 := fun (τ : State) kt => pre950 τ (by
        show Steps p.tables e below (T641.setTop (mkF m 174 #[.val (.int p1), .val (.int p2), .val (.int p3), .val (.int p4), .val (.int p5), .val (.int p6), .val (.ref q), .val (.ref ec), .val (.ref ew), .val (.int st1), .val (.double (FP.i2d ((p2 &&& (1048575 : Int32)) + (1 : Int32)))), .second, .val (.double (FP.i2d p3)), .second, .val (.int sc), .val (.int st2), .val (.double (FP.i2d ((p5 &&& (1048575 : Int32)) + (1 : Int32)))), .second, .val (.double (FP.i2d p6)), .second, .unset] [(.int sc)])) τ
        refine XS.ifYes X641.here hx rfl (pc0 := 174) (pc' := 202) rfl (Jvm.hb hby at_174) rfl ((if0 _ _).trans (teq qs).1) (by decide) (by decide) ?_
        exact kt)
      exact ⟨_, _, _, x0, x1, x2, w0, w1, w2, X641, e641, N641, K641, j641_0, j641_1, j641_2, j641_3, j641_4, j641_5, j641_6, j641_7, j641_8, j641_9, j641_10, ⟨cw0, cw1, cw2⟩, pre952⟩
    · skip
      have pre953 := fun (τ : State) kt => pre950 τ (by
        show Steps p.tables e below (T641.setTop (mkF m 174 #[.val (.int p1), .val (.int p2), .val (.int p3), .val (.int p4), .val (.int p5), .val (.int p6), .val (.ref q), .val (.ref ec), .val (.ref ew), .val (.int st1), .val (.double (FP.i2d ((p2 &&& (1048575 : Int32)) + (1 : Int32)))), .second, .val (.double (FP.i2d p3)), .second, .val (.int sc), .val (.int st2), .val (.double (FP.i2d ((p5 &&& (1048575 : Int32)) + (1 : Int32)))), .second, .val (.double (FP.i2d p6)), .second, .unset] [(.int sc)])) τ
        refine XS.ifNo X641.here hx rfl (Jvm.hb hby at_174) rfl ((if0 _ _).trans (feq qs).1) ?_
        refine XS.aload X641.here hx rfl (Jvm.hb hby at_177) rfl rfl ?_
        refine XS.iload X641.here hx rfl (Jvm.hb hby at_179) rfl ?_
        refine own_dload X641.here hx rfl (Jvm.hb hby at_181) rfl ?_
        refine own_dload X641.here hx rfl (Jvm.hb hby at_183) rfl ?_
        exact kt)
      rcases (e_st2 ▸ own_rem3 hm2 : st2 = 0 ∨ st2 = 1 ∨ st2 = 2) with qst | qst | qst
      · subst qst
        obtain ⟨_, T954, L954, X954, ⟨rfl, Nq954, Kq954, vA954, vB954⟩, st954⟩ := own_virt (y := own_mn5) (b := q) X641 hx hZ hown (own_W30 hw) (own_W31 hw) (own_W33 hw) (own_W32 hw) (by decide) (rmL0 l Z a0 hw [] q (0 : Int32) (FP.i2d ((p5 &&& (1048575 : Int32)) + (1 : Int32))) (FP.i2d p6) A B kA kB x0 x1 x2 w0 w1 w2 h641 n0 (Nat.le_trans Z0 K641.1) rfl j641_1 j641_2 j641_5 j641_6 n_aA n_aB n_AB gA gB) (own_W34 hw) (own_W2 hw) 0 (by decide) (by decide) j641_0 e641 (mkF m 185 #[.val (.int p1), .val (.int p2), .val (.int p3), .val (.int p4), .val (.int p5), .val (.int p6), .val (.ref q), .val (.ref ec), .val (.ref ew), .val (.int st1), .val (.double (FP.i2d ((p2 &&& (1048575 : Int32)) + (1 : Int32)))), .second, .val (.double (FP.i2d p3)), .second, .val (.int sc), .val (.int (0 : Int32)), .val (.double (FP.i2d ((p5 &&& (1048575 : Int32)) + (1 : Int32)))), .second, .val (.double (FP.i2d p6)), .second, .unset] [(.double (FP.i2d p6)), (.double (FP.i2d ((p5 &&& (1048575 : Int32)) + (1 : Int32)))), (.int (0 : Int32)), (.ref q)]) rfl (by rw [hml]; rfl) [(.int (0 : Int32)), (.double (FP.i2d ((p5 &&& (1048575 : Int32)) + (1 : Int32)))), (.double (FP.i2d p6))] [] rfl (lenOf own_pd__IDD_V rfl) rfl (Nat.le_refl _) (Jvm.hb hby at_185) (by decide) (by decide)
        have N954 := Fr.app N641 Nq954
        have K954 : Keep h0 T954.heap [] := K641.trans Kq954 (allS (Or.inr sz_A) (allS (Or.inr sz_B) (all0)))
        have pre955 := fun (τ : State) kt => pre953 τ (st954 τ kt)
        have f956 := j641_7.keep Kq954 (ninS (Ne.symm ne_A_ec) (ninS (Ne.symm ne_B_ec) (nin0)))
        obtain ⟨cl957, Ar957, q957, S957, M957, H957, U957⟩ := id f956
        obtain ⟨T958, h958, X958, e958, W958, st958⟩ := own_stD X954 hx hZ rfl Ar957 (j := (0 : Int32)) (inb_of S957 ⟨by decide, by decide⟩) (g := (mkF m 194 #[.val (.int p1), .val (.int p2), .val (.int p3), .val (.int p4), .val (.int p5), .val (.int p6), .val (.ref q), .val (.ref ec), .val (.ref ew), .val (.int st1), .val (.double (FP.i2d ((p2 &&& (1048575 : Int32)) + (1 : Int32)))), .second, .val (.double (FP.i2d p3)), .second, .val (.int sc), .val (.int (0 : Int32)), .val (.double (FP.i2d ((p5 &&& (1048575 : Int32)) + (1 : Int32)))), .second, .val (.double (FP.i2d p6)), .second, .unset] [(.double (FP.i2d ((p5 &&& (1048575 : Int32)) + (1 : Int32)))), (.int (0 : Int32)), (.ref ec)])) rfl rfl (Jvm.hb hby at_194)
        have V958 : Arv Z h958 ec k590 .double (3 : Int32) [(.double (FP.i2d ((p5 &&& (1048575 : Int32)) + (1 : Int32)))), (.double x1), (.double x2)] (.double (0 : UInt64)) := Arv.set Ar957 q957 S957 M957 H957 U957 rfl W958 0 rfl (Nat.le_of_ble_eq_true rfl)
        have N958 := Fr.snoc X958 N954 g_ec
        have K958 : Keep h0 h958 [] := K954.wr W958 (Or.inr sz_ec)
        have pre959 := fun (τ : State) kt => pre955 τ (by
          show Steps p.tables e below (T954.setTop (mkF m 188 #[.val (.int p1), .val (.int p2), .val (.int p3), .val (.int p4), .val (.int p5), .val (.int p6), .val (.ref q), .val (.ref ec), .val (.ref ew), .val (.int st1), .val (.double (FP.i2d ((p2 &&& (1048575 : Int32)) + (1 : Int32)))), .second, .val (.double (FP.i2d p3)), .second, .val (.int sc), .val (.int (0 : Int32)), .val (.double (FP.i2d ((p5 &&& (1048575 : Int32)) + (1 : Int32)))), .second, .val (.double (FP.i2d p6)), .second, .unset] [])) τ
          refine XS.aload X954.here hx rfl (Jvm.hb hby at_188) rfl rfl ?_
          refine XS.iload X954.here hx rfl (Jvm.hb hby at_190) rfl ?_
          refine own_dload X954.here hx rfl (Jvm.hb hby at_192) rfl ?_
          exact st958 τ kt)
        have f960 := j641_8.keep Kq954 (ninS (Ne.symm ne_A_ew) (ninS (Ne.symm ne_B_ew) (nin0)))
        have f961 := f960.other W958 (Ne.symm ne_ec_ew)
        obtain ⟨cl962, Ar962, q962, S962, M962, H962, U962⟩ := id f961
        obtain ⟨T963, h963, X963, e963, W963, st963⟩ := own_stD X958 hx hZ e958 Ar962 (j := (0 : Int32)) (inb_of S962 ⟨by decide, by decide⟩) (g := (mkF m 201 #[.val (.int p1), .val (.int p2), .val (.int p3), .val (.int p4), .val (.int p5), .val (.int p6), .val (.ref q), .val (.ref ec), .val (.ref ew), .val (.int st1), .val (.double (FP.i2d ((p2 &&& (1048575 : Int32)) + (1 : Int32)))), .second, .val (.double (FP.i2d p3)), .second, .val (.int sc), .val (.int (0 : Int32)), .val (.double (FP.i2d ((p5 &&& (1048575 : Int32)) + (1 : Int32)))), .second, .val (.double (FP.i2d p6)), .second, .unset] [(.double (FP.i2d p6)), (.int (0 : Int32)), (.ref ew)])) rfl rfl (Jvm.hb hby at_201)
        have V963 : Arv Z h963 ew k608 .double (3 : Int32) [(.double (FP.i2d p6)), (.double w1), (.double w2)] (.double (0 : UInt64)) := Arv.set Ar962 q962 S962 M962 H962 U962 rfl W963 0 rfl (Nat.le_of_ble_eq_true rfl)
        have N963 := Fr.snoc X963 N958 g_ew
        have K963 : Keep h0 h963 [] := K958.wr W963 (Or.inr sz_ew)
        have pre964 := fun (τ : State) kt => pre959 τ (by
          show Steps p.tables e below (T958.setTop (mkF m 195 #[.val (.int p1), .val (.int p2), .val (.int p3), .val (.int p4), .val (.int p5), .val (.int p6), .val (.ref q), .val (.ref ec), .val (.ref ew), .val (.int st1), .val (.double (FP.i2d ((p2 &&& (1048575 : Int32)) + (1 : Int32)))), .second, .val (.double (FP.i2d p3)), .second, .val (.int sc), .val (.int (0 : Int32)), .val (.double (FP.i2d ((p5 &&& (1048575 : Int32)) + (1 : Int32)))), .second, .val (.double (FP.i2d p6)), .second, .unset] [])) τ
          refine XS.aload X958.here hx rfl (Jvm.hb hby at_195) rfl rfl ?_
          refine XS.iload X958.here hx rfl (Jvm.hb hby at_197) rfl ?_
          refine own_dload X958.here hx rfl (Jvm.hb hby at_199) rfl ?_
          exact st963 τ kt)
        have f965 := j641_0.keep Kq954
        have f966 := f965.wr W958
        have f967 := f966.wr W963
        have f968 := j641_1.keep Kq954 (ninS n_aA (ninS n_aB (nin0)))
        have f969 := (f968.other W958 (Or.inl ne_q_ec))
        have f970 := (f969.other W963 (Or.inl ne_q_ew))
        have f971 := j641_2.keep Kq954 (ninS n_aA (ninS n_aB (nin0)))
        have f972 := (f971.other W958 (Or.inl ne_q_ec))
        have f973 := (f972.other W963 (Or.inl ne_q_ew))
        have f974 := j641_3.keep Kq954 (ninS n_aA (ninS n_aB (nin0)))
        have f975 := (f974.other W958 (Or.inl ne_q_ec))
        have f976 := (f975.other W963 (Or.inl ne_q_ew))
        have f977 := j641_4.keep Kq954 (ninS n_aA (ninS n_aB (nin0)))
        have f978 := (f977.other W958 (Or.inl ne_q_ec))
        have f979 := (f978.other W963 (Or.inl ne_q_ew))
        have f980 := vA954.other W958 ne_A_ec
        have f981 := f980.other W963 ne_A_ew
        have f982 := vB954.other W958 ne_B_ec
        have f983 := f982.other W963 ne_B_ew
        have f984 := V958.other W963 ne_ec_ew
        have f985 := j641_9.keep Kq954 (ninS (Ne.symm n_ACn) (ninS (Ne.symm n_BCn) (nin0)))
        have f986 := f985.other W958 ne_Cn_ec
        have f987 := f986.other W963 ne_Cn_ew
        have f988 := j641_10.keep Kq954 (ninS (Ne.symm n_ADn) (ninS (Ne.symm n_BDn) (nin0)))
        have f989 := f988.other W958 ne_Dn_ec
        have f990 := f989.other W963 ne_Dn_ew
        exact ⟨_, _, _, (FP.i2d ((p5 &&& (1048575 : Int32)) + (1 : Int32))), x1, x2, (FP.i2d p6), w1, w2, X963, e963, N963, K963, f967, f970, f973, f976, f979, f981, f983, f984, V963, f987, f990, ⟨own_cw_i2d p5 p6, cw1, cw2⟩, pre964⟩
      · subst qst
        obtain ⟨_, T991, L991, X991, ⟨rfl, Nq991, Kq991, vA991, vB991⟩, st991⟩ := own_virt (y := own_mn5) (b := q) X641 hx hZ hown (own_W30 hw) (own_W31 hw) (own_W33 hw) (own_W32 hw) (by decide) (rmL1 l Z a0 hw [] q (1 : Int32) (FP.i2d ((p5 &&& (1048575 : Int32)) + (1 : Int32))) (FP.i2d p6) A B kA kB x0 x1 x2 w0 w1 w2 h641 n0 (Nat.le_trans Z0 K641.1) rfl j641_1 j641_2 j641_5 j641_6 n_aA n_aB n_AB gA gB) (own_W34 hw) (own_W2 hw) 0 (by decide) (by decide) j641_0 e641 (mkF m 185 #[.val (.int p1), .val (.int p2), .val (.int p3), .val (.int p4), .val (.int p5), .val (.int p6), .val (.ref q), .val (.ref ec), .val (.ref ew), .val (.int st1), .val (.double (FP.i2d ((p2 &&& (1048575 : Int32)) + (1 : Int32)))), .second, .val (.double (FP.i2d p3)), .second, .val (.int sc), .val (.int (1 : Int32)), .val (.double (FP.i2d ((p5 &&& (1048575 : Int32)) + (1 : Int32)))), .second, .val (.double (FP.i2d p6)), .second, .unset] [(.double (FP.i2d p6)), (.double (FP.i2d ((p5 &&& (1048575 : Int32)) + (1 : Int32)))), (.int (1 : Int32)), (.ref q)]) rfl (by rw [hml]; rfl) [(.int (1 : Int32)), (.double (FP.i2d ((p5 &&& (1048575 : Int32)) + (1 : Int32)))), (.double (FP.i2d p6))] [] rfl (lenOf own_pd__IDD_V rfl) rfl (Nat.le_refl _) (Jvm.hb hby at_185) (by decide) (by decide)
        have N991 := Fr.app N641 Nq991
        have K991 : Keep h0 T991.heap [] := K641.trans Kq991 (allS (Or.inr sz_A) (allS (Or.inr sz_B) (all0)))
        have pre992 := fun (τ : State) kt => pre953 τ (st991 τ kt)
        have f993 := j641_7.keep Kq991 (ninS (Ne.symm ne_A_ec) (ninS (Ne.symm ne_B_ec) (nin0)))
        obtain ⟨cl994, Ar994, q994, S994, M994, H994, U994⟩ := id f993
        obtain ⟨T995, h995, X995, e995, W995, st995⟩ := own_stD X991 hx hZ rfl Ar994 (j := (1 : Int32)) (inb_of S994 ⟨by decide, by decide⟩) (g := (mkF m 194 #[.val (.int p1), .val (.int p2), .val (.int p3), .val (.int p4), .val (.int p5), .val (.int p6), .val (.ref q), .val (.ref ec), .val (.ref ew), .val (.int st1), .val (.double (FP.i2d ((p2 &&& (1048575 : Int32)) + (1 : Int32)))), .second, .val (.double (FP.i2d p3)), .second, .val (.int sc), .val (.int (1 : Int32)), .val (.double (FP.i2d ((p5 &&& (1048575 : Int32)) + (1 : Int32)))), .second, .val (.double (FP.i2d p6)), .second, .unset] [(.double (FP.i2d ((p5 &&& (1048575 : Int32)) + (1 : Int32)))), (.int (1 : Int32)), (.ref ec)])) rfl rfl (Jvm.hb hby at_194)
        have V995 : Arv Z h995 ec k590 .double (3 : Int32) [(.double x0), (.double (FP.i2d ((p5 &&& (1048575 : Int32)) + (1 : Int32)))), (.double x2)] (.double (0 : UInt64)) := Arv.set Ar994 q994 S994 M994 H994 U994 rfl W995 1 rfl (Nat.le_of_ble_eq_true rfl)
        have N995 := Fr.snoc X995 N991 g_ec
        have K995 : Keep h0 h995 [] := K991.wr W995 (Or.inr sz_ec)
        have pre996 := fun (τ : State) kt => pre992 τ (by
          show Steps p.tables e below (T991.setTop (mkF m 188 #[.val (.int p1), .val (.int p2), .val (.int p3), .val (.int p4), .val (.int p5), .val (.int p6), .val (.ref q), .val (.ref ec), .val (.ref ew), .val (.int st1), .val (.double (FP.i2d ((p2 &&& (1048575 : Int32)) + (1 : Int32)))), .second, .val (.double (FP.i2d p3)), .second, .val (.int sc), .val (.int (1 : Int32)), .val (.double (FP.i2d ((p5 &&& (1048575 : Int32)) + (1 : Int32)))), .second, .val (.double (FP.i2d p6)), .second, .unset] [])) τ
          refine XS.aload X991.here hx rfl (Jvm.hb hby at_188) rfl rfl ?_
          refine XS.iload X991.here hx rfl (Jvm.hb hby at_190) rfl ?_
          refine own_dload X991.here hx rfl (Jvm.hb hby at_192) rfl ?_
          exact st995 τ kt)
        have f997 := j641_8.keep Kq991 (ninS (Ne.symm ne_A_ew) (ninS (Ne.symm ne_B_ew) (nin0)))
        have f998 := f997.other W995 (Ne.symm ne_ec_ew)
        obtain ⟨cl999, Ar999, q999, S999, M999, H999, U999⟩ := id f998
        obtain ⟨T1000, h1000, X1000, e1000, W1000, st1000⟩ := own_stD X995 hx hZ e995 Ar999 (j := (1 : Int32)) (inb_of S999 ⟨by decide, by decide⟩) (g := (mkF m 201 #[.val (.int p1), .val (.int p2), .val (.int p3), .val (.int p4), .val (.int p5), .val (.int p6), .val (.ref q), .val (.ref ec), .val (.ref ew), .val (.int st1), .val (.double (FP.i2d ((p2 &&& (1048575 : Int32)) + (1 : Int32)))), .second, .val (.double (FP.i2d p3)), .second, .val (.int sc), .val (.int (1 : Int32)), .val (.double (FP.i2d ((p5 &&& (1048575 : Int32)) + (1 : Int32)))), .second, .val (.double (FP.i2d p6)), .second, .unset] [(.double (FP.i2d p6)), (.int (1 : Int32)), (.ref ew)])) rfl rfl (Jvm.hb hby at_201)
        have V1000 : Arv Z h1000 ew k608 .double (3 : Int32) [(.double w0), (.double (FP.i2d p6)), (.double w2)] (.double (0 : UInt64)) := Arv.set Ar999 q999 S999 M999 H999 U999 rfl W1000 1 rfl (Nat.le_of_ble_eq_true rfl)
        have N1000 := Fr.snoc X1000 N995 g_ew
        have K1000 : Keep h0 h1000 [] := K995.wr W1000 (Or.inr sz_ew)
        have pre1001 := fun (τ : State) kt => pre996 τ (by
          show Steps p.tables e below (T995.setTop (mkF m 195 #[.val (.int p1), .val (.int p2), .val (.int p3), .val (.int p4), .val (.int p5), .val (.int p6), .val (.ref q), .val (.ref ec), .val (.ref ew), .val (.int st1), .val (.double (FP.i2d ((p2 &&& (1048575 : Int32)) + (1 : Int32)))), .second, .val (.double (FP.i2d p3)), .second, .val (.int sc), .val (.int (1 : Int32)), .val (.double (FP.i2d ((p5 &&& (1048575 : Int32)) + (1 : Int32)))), .second, .val (.double (FP.i2d p6)), .second, .unset] [])) τ
          refine XS.aload X995.here hx rfl (Jvm.hb hby at_195) rfl rfl ?_
          refine XS.iload X995.here hx rfl (Jvm.hb hby at_197) rfl ?_
          refine own_dload X995.here hx rfl (Jvm.hb hby at_199) rfl ?_
          exact st1000 τ kt)
        have f1002 := j641_0.keep Kq991
        have f1003 := f1002.wr W995
        have f1004 := f1003.wr W1000
        have f1005 := j641_1.keep Kq991 (ninS n_aA (ninS n_aB (nin0)))
        have f1006 := (f1005.other W995 (Or.inl ne_q_ec))
        have f1007 := (f1006.other W1000 (Or.inl ne_q_ew))
        have f1008 := j641_2.keep Kq991 (ninS n_aA (ninS n_aB (nin0)))
        have f1009 := (f1008.other W995 (Or.inl ne_q_ec))
        have f1010 := (f1009.other W1000 (Or.inl ne_q_ew))
        have f1011 := j641_3.keep Kq991 (ninS n_aA (ninS n_aB (nin0)))
        have f1012 := (f1011.other W995 (Or.inl ne_q_ec))
        have f1013 := (f1012.other W1000 (Or.inl ne_q_ew))
        have f1014 := j641_4.keep Kq991 (ninS n_aA (ninS n_aB (nin0)))
        have f1015 := (f1014.other W995 (Or.inl ne_q_ec))
        have f1016 := (f1015.other W1000 (Or.inl ne_q_ew))
        have f1017 := vA991.other W995 ne_A_ec
        have f1018 := f1017.other W1000 ne_A_ew
        have f1019 := vB991.other W995 ne_B_ec
        have f1020 := f1019.other W1000 ne_B_ew
        have f1021 := V995.other W1000 ne_ec_ew
        have f1022 := j641_9.keep Kq991 (ninS (Ne.symm n_ACn) (ninS (Ne.symm n_BCn) (nin0)))
        have f1023 := f1022.other W995 ne_Cn_ec
        have f1024 := f1023.other W1000 ne_Cn_ew
        have f1025 := j641_10.keep Kq991 (ninS (Ne.symm n_ADn) (ninS (Ne.symm n_BDn) (nin0)))
        have f1026 := f1025.other W995 ne_Dn_ec
        have f1027 := f1026.other W1000 ne_Dn_ew
        exact ⟨_, _, _, x0, (FP.i2d ((p5 &&& (1048575 : Int32)) + (1 : Int32))), x2, w0, (FP.i2d p6), w2, X1000, e1000, N1000, K1000, f1004, f1007, f1010, f1013, f1016, f1018, f1020, f1021, V1000, f1024, f1027, ⟨cw0, own_cw_i2d p5 p6, cw2⟩, pre1001⟩
      · subst qst
        obtain ⟨_, T1028, L1028, X1028, ⟨rfl, Nq1028, Kq1028, vA1028, vB1028⟩, st1028⟩ := own_virt (y := own_mn5) (b := q) X641 hx hZ hown (own_W30 hw) (own_W31 hw) (own_W33 hw) (own_W32 hw) (by decide) (rmL2 l Z a0 hw [] q (2 : Int32) (FP.i2d ((p5 &&& (1048575 : Int32)) + (1 : Int32))) (FP.i2d p6) A B kA kB x0 x1 x2 w0 w1 w2 h641 n0 (Nat.le_trans Z0 K641.1) rfl j641_1 j641_2 j641_5 j641_6 n_aA n_aB n_AB gA gB) (own_W34 hw) (own_W2 hw) 0 (by decide) (by decide) j641_0 e641 (mkF m 185 #[.val (.int p1), .val (.int p2), .val (.int p3), .val (.int p4), .val (.int p5), .val (.int p6), .val (.ref q), .val (.ref ec), .val (.ref ew), .val (.int st1), .val (.double (FP.i2d ((p2 &&& (1048575 : Int32)) + (1 : Int32)))), .second, .val (.double (FP.i2d p3)), .second, .val (.int sc), .val (.int (2 : Int32)), .val (.double (FP.i2d ((p5 &&& (1048575 : Int32)) + (1 : Int32)))), .second, .val (.double (FP.i2d p6)), .second, .unset] [(.double (FP.i2d p6)), (.double (FP.i2d ((p5 &&& (1048575 : Int32)) + (1 : Int32)))), (.int (2 : Int32)), (.ref q)]) rfl (by rw [hml]; rfl) [(.int (2 : Int32)), (.double (FP.i2d ((p5 &&& (1048575 : Int32)) + (1 : Int32)))), (.double (FP.i2d p6))] [] rfl (lenOf own_pd__IDD_V rfl) rfl (Nat.le_refl _) (Jvm.hb hby at_185) (by decide) (by decide)
        have N1028 := Fr.app N641 Nq1028
        have K1028 : Keep h0 T1028.heap [] := K641.trans Kq1028 (allS (Or.inr sz_A) (allS (Or.inr sz_B) (all0)))
        have pre1029 := fun (τ : State) kt => pre953 τ (st1028 τ kt)
        have f1030 := j641_7.keep Kq1028 (ninS (Ne.symm ne_A_ec) (ninS (Ne.symm ne_B_ec) (nin0)))
        obtain ⟨cl1031, Ar1031, q1031, S1031, M1031, H1031, U1031⟩ := id f1030
        obtain ⟨T1032, h1032, X1032, e1032, W1032, st1032⟩ := own_stD X1028 hx hZ rfl Ar1031 (j := (2 : Int32)) (inb_of S1031 ⟨by decide, by decide⟩) (g := (mkF m 194 #[.val (.int p1), .val (.int p2), .val (.int p3), .val (.int p4), .val (.int p5), .val (.int p6), .val (.ref q), .val (.ref ec), .val (.ref ew), .val (.int st1), .val (.double (FP.i2d ((p2 &&& (1048575 : Int32)) + (1 : Int32)))), .second, .val (.double (FP.i2d p3)), .second, .val (.int sc), .val (.int (2 : Int32)), .val (.double (FP.i2d ((p5 &&& (1048575 : Int32)) + (1 : Int32)))), .second, .val (.double (FP.i2d p6)), .second, .unset] [(.double (FP.i2d ((p5 &&& (1048575 : Int32)) + (1 : Int32)))), (.int (2 : Int32)), (.ref ec)])) rfl rfl (Jvm.hb hby at_194)
        have V1032 : Arv Z h1032 ec k590 .double (3 : Int32) [(.double x0), (.double x1), (.double (FP.i2d ((p5 &&& (1048575 : Int32)) + (1 : Int32))))] (.double (0 : UInt64)) := Arv.set Ar1031 q1031 S1031 M1031 H1031 U1031 rfl W1032 2 rfl (Nat.le_of_ble_eq_true rfl)
        have N1032 := Fr.snoc X1032 N1028 g_ec
        have K1032 : Keep h0 h1032 [] := K1028.wr W1032 (Or.inr sz_ec)
        have pre1033 := fun (τ : State) kt => pre1029 τ (by
          show Steps p.tables e below (T1028.setTop (mkF m 188 #[.val (.int p1), .val (.int p2), .val (.int p3), .val (.int p4), .val (.int p5), .val (.int p6), .val (.ref q), .val (.ref ec), .val (.ref ew), .val (.int st1), .val (.double (FP.i2d ((p2 &&& (1048575 : Int32)) + (1 : Int32)))), .second, .val (.double (FP.i2d p3)), .second, .val (.int sc), .val (.int (2 : Int32)), .val (.double (FP.i2d ((p5 &&& (1048575 : Int32)) + (1 : Int32)))), .second, .val (.double (FP.i2d p6)), .second, .unset] [])) τ
          refine XS.aload X1028.here hx rfl (Jvm.hb hby at_188) rfl rfl ?_
          refine XS.iload X1028.here hx rfl (Jvm.hb hby at_190) rfl ?_
          refine own_dload X1028.here hx rfl (Jvm.hb hby at_192) rfl ?_
          exact st1032 τ kt)
        have f1034 := j641_8.keep Kq1028 (ninS (Ne.symm ne_A_ew) (ninS (Ne.symm ne_B_ew) (nin0)))
        have f1035 := f1034.other W1032 (Ne.symm ne_ec_ew)
        obtain ⟨cl1036, Ar1036, q1036, S1036, M1036, H1036, U1036⟩ := id f1035
        obtain ⟨T1037, h1037, X1037, e1037, W1037, st1037⟩ := own_stD X1032 hx hZ e1032 Ar1036 (j := (2 : Int32)) (inb_of S1036 ⟨by decide, by decide⟩) (g := (mkF m 201 #[.val (.int p1), .val (.int p2), .val (.int p3), .val (.int p4), .val (.int p5), .val (.int p6), .val (.ref q), .val (.ref ec), .val (.ref ew), .val (.int st1), .val (.double (FP.i2d ((p2 &&& (1048575 : Int32)) + (1 : Int32)))), .second, .val (.double (FP.i2d p3)), .second, .val (.int sc), .val (.int (2 : Int32)), .val (.double (FP.i2d ((p5 &&& (1048575 : Int32)) + (1 : Int32)))), .second, .val (.double (FP.i2d p6)), .second, .unset] [(.double (FP.i2d p6)), (.int (2 : Int32)), (.ref ew)])) rfl rfl (Jvm.hb hby at_201)
        have V1037 : Arv Z h1037 ew k608 .double (3 : Int32) [(.double w0), (.double w1), (.double (FP.i2d p6))] (.double (0 : UInt64)) := Arv.set Ar1036 q1036 S1036 M1036 H1036 U1036 rfl W1037 2 rfl (Nat.le_of_ble_eq_true rfl)
        have N1037 := Fr.snoc X1037 N1032 g_ew
        have K1037 : Keep h0 h1037 [] := K1032.wr W1037 (Or.inr sz_ew)
        have pre1038 := fun (τ : State) kt => pre1033 τ (by
          show Steps p.tables e below (T1032.setTop (mkF m 195 #[.val (.int p1), .val (.int p2), .val (.int p3), .val (.int p4), .val (.int p5), .val (.int p6), .val (.ref q), .val (.ref ec), .val (.ref ew), .val (.int st1), .val (.double (FP.i2d ((p2 &&& (1048575 : Int32)) + (1 : Int32)))), .second, .val (.double (FP.i2d p3)), .second, .val (.int sc), .val (.int (2 : Int32)), .val (.double (FP.i2d ((p5 &&& (1048575 : Int32)) + (1 : Int32)))), .second, .val (.double (FP.i2d p6)), .second, .unset] [])) τ
          refine XS.aload X1032.here hx rfl (Jvm.hb hby at_195) rfl rfl ?_
          refine XS.iload X1032.here hx rfl (Jvm.hb hby at_197) rfl ?_
          refine own_dload X1032.here hx rfl (Jvm.hb hby at_199) rfl ?_
          exact st1037 τ kt)
        have f1039 := j641_0.keep Kq1028
        have f1040 := f1039.wr W1032
        have f1041 := f1040.wr W1037
        have f1042 := j641_1.keep Kq1028 (ninS n_aA (ninS n_aB (nin0)))
        have f1043 := (f1042.other W1032 (Or.inl ne_q_ec))
        have f1044 := (f1043.other W1037 (Or.inl ne_q_ew))
        have f1045 := j641_2.keep Kq1028 (ninS n_aA (ninS n_aB (nin0)))
        have f1046 := (f1045.other W1032 (Or.inl ne_q_ec))
        have f1047 := (f1046.other W1037 (Or.inl ne_q_ew))
        have f1048 := j641_3.keep Kq1028 (ninS n_aA (ninS n_aB (nin0)))
        have f1049 := (f1048.other W1032 (Or.inl ne_q_ec))
        have f1050 := (f1049.other W1037 (Or.inl ne_q_ew))
        have f1051 := j641_4.keep Kq1028 (ninS n_aA (ninS n_aB (nin0)))
        have f1052 := (f1051.other W1032 (Or.inl ne_q_ec))
        have f1053 := (f1052.other W1037 (Or.inl ne_q_ew))
        have f1054 := vA1028.other W1032 ne_A_ec
        have f1055 := f1054.other W1037 ne_A_ew
        have f1056 := vB1028.other W1032 ne_B_ec
        have f1057 := f1056.other W1037 ne_B_ew
        have f1058 := V1032.other W1037 ne_ec_ew
        have f1059 := j641_9.keep Kq1028 (ninS (Ne.symm n_ACn) (ninS (Ne.symm n_BCn) (nin0)))
        have f1060 := f1059.other W1032 ne_Cn_ec
        have f1061 := f1060.other W1037 ne_Cn_ew
        have f1062 := j641_10.keep Kq1028 (ninS (Ne.symm n_ADn) (ninS (Ne.symm n_BDn) (nin0)))
        have f1063 := f1062.other W1032 ne_Dn_ec
        have f1064 := f1063.other W1037 ne_Dn_ew
        exact ⟨_, _, _, x0, x1, (FP.i2d ((p5 &&& (1048575 : Int32)) + (1 : Int32))), w0, w1, (FP.i2d p6), X1037, e1037, N1037, K1037, f1041, f1044, f1047, f1050, f1053, f1055, f1057, f1058, V1037, f1061, f1064, ⟨cw0, cw1, own_cw_i2d p5 p6⟩, pre1038⟩
  obtain ⟨cz0, cz1, cz2⟩ := hj951
  obtain ⟨_, T1065, L1065, X1065, ⟨so, kso, rfl, Nq1065, Kq1065, gso, zso, vso1065⟩, st1065⟩ := own_virt (y := own_mn6) (b := q) X951 hx hZ hown (own_W42 hw) (own_W43 hw) (own_W45 hw) (own_W44 hw) (by decide) (rmS l Z a0 hw [] q A B Cn Dn kA kB kC kD y0 y1 y2 z0 z1 z2 h951 n0 (Nat.le_trans Z0 K951.1) j951_0 j951_1 j951_2 j951_3 j951_4 j951_5 j951_6 j951_9 j951_10 n_aA n_aB n_aCn n_aDn n_AB n_ACn n_ADn n_BCn n_BDn n_CnDn cz0 cz1 cz2) (own_W46 hw) (own_W2 hw) 0 (by decide) (by decide) j951_0 e951 (mkF m 204 #[.val (.int p1), .val (.int p2), .val (.int p3), .val (.int p4), .val (.int p5), .val (.int p6), .val (.ref q), .val (.ref ec), .val (.ref ew), .val (.int st1), .val (.double (FP.i2d ((p2 &&& (1048575 : Int32)) + (1 : Int32)))), .second, .val (.double (FP.i2d p3)), .second, .val (.int sc), .val (.int st2), .val (.double (FP.i2d ((p5 &&& (1048575 : Int32)) + (1 : Int32)))), .second, .val (.double (FP.i2d p6)), .second, .unset] [(.ref q)]) rfl (by rw [hml]; rfl) [] [] rfl (lenOf own_pd____D rfl) rfl (Nat.le_refl _) (Jvm.hb hby at_204) (by decide) (by decide)
  have N1065 := Fr.app N951 Nq1065
  have K1065 : Keep h0 T1065.heap [] := K951.trans Kq1065 (all0)
  have pre1066 := fun (τ : State) kt => pre951 τ (by
    show Steps p.tables e below (T951.setTop (mkF m 202 #[.val (.int p1), .val (.int p2), .val (.int p3), .val (.int p4), .val (.int p5), .val (.int p6), .val (.ref q), .val (.ref ec), .val (.ref ew), .val (.int st1), .val (.double (FP.i2d ((p2 &&& (1048575 : Int32)) + (1 : Int32)))), .second, .val (.double (FP.i2d p3)), .second, .val (.int sc), .val (.int st2), .val (.double (FP.i2d ((p5 &&& (1048575 : Int32)) + (1 : Int32)))), .second, .val (.double (FP.i2d p6)), .second, .unset] [])) τ
    refine XS.aload X951.here hx rfl (Jvm.hb hby at_202) rfl rfl ?_
    exact st1065 τ kt)
  obtain ⟨cl1067, Ar1067, q1067, S1067, M1067, H1067, U1067⟩ := id vso1065
  have pre1068 := fun (τ : State) kt => pre1066 τ (by
    show Steps p.tables e below (T1065.setTop (mkF m 207 #[.val (.int p1), .val (.int p2), .val (.int p3), .val (.int p4), .val (.int p5), .val (.int p6), .val (.ref q), .val (.ref ec), .val (.ref ew), .val (.int st1), .val (.double (FP.i2d ((p2 &&& (1048575 : Int32)) + (1 : Int32)))), .second, .val (.double (FP.i2d p3)), .second, .val (.int sc), .val (.int st2), .val (.double (FP.i2d ((p5 &&& (1048575 : Int32)) + (1 : Int32)))), .second, .val (.double (FP.i2d p6)), .second, .unset] [(.ref so)])) τ
    refine XS.astore X1065.here hx rfl (Jvm.hb hby at_207) rfl rfl (l' := #[.val (.int p1), .val (.int p2), .val (.int p3), .val (.int p4), .val (.int p5), .val (.int p6), .val (.ref q), .val (.ref ec), .val (.ref ew), .val (.int st1), .val (.double (FP.i2d ((p2 &&& (1048575 : Int32)) + (1 : Int32)))), .second, .val (.double (FP.i2d p3)), .second, .val (.int sc), .val (.int st2), .val (.double (FP.i2d ((p5 &&& (1048575 : Int32)) + (1 : Int32)))), .second, .val (.double (FP.i2d p6)), .second, .val (.ref so)]) rfl ?_
    refine XS.aload X1065.here hx rfl (Jvm.hb hby at_209) rfl rfl ?_
    refine XS.ifnullNo X1065.here hx rfl (Jvm.hb hby at_211) rfl ?_
    refine XS.aload X1065.here hx rfl (Jvm.hb hby at_214) rfl rfl ?_
    refine X1065.arraylength hx ((congrArg (fun (HH : Heap) => HH[so]?) (rfl : T1065.heap = T1065.heap)).trans Ar1067.1) (State.isArrayOf_alike hZ.alike Ar1067.2.1) (g := (mkF m 216 #[.val (.int p1), .val (.int p2), .val (.int p3), .val (.int p4), .val (.int p5), .val (.int p6), .val (.ref q), .val (.ref ec), .val (.ref ew), .val (.int st1), .val (.double (FP.i2d ((p2 &&& (1048575 : Int32)) + (1 : Int32)))), .second, .val (.double (FP.i2d p3)), .second, .val (.int sc), .val (.int st2), .val (.double (FP.i2d ((p5 &&& (1048575 : Int32)) + (1 : Int32)))), .second, .val (.double (FP.i2d p6)), .second, .val (.ref so)] [(.ref so)])) rfl rfl (Jvm.hb hby at_216) _ ?_
    exact kt)
  have pre1069 : ∀ τ, Steps p.tables e below (T1065.setTop (mkF m 217 #[.val (.int p1), .val (.int p2), .val (.int p3), .val (.int p4), .val (.int p5), .val (.int p6), .val (.ref q), .val (.ref ec), .val (.ref ew), .val (.int st1), .val (.double (FP.i2d ((p2 &&& (1048575 : Int32)) + (1 : Int32)))), .second, .val (.double (FP.i2d p3)), .second, .val (.int sc), .val (.int st2), .val (.double (FP.i2d ((p5 &&& (1048575 : Int32)) + (1 : Int32)))), .second, .val (.double (FP.i2d p6)), .second, .val (.ref so)] [(.int (3 : Int32))])) τ → PS τ := by rw [← len_of S1067 M1067]; exact pre1068
  obtain ⟨cl1070, Ar1070, q1070, S1070, M1070, H1070, U1070⟩ := id vso1065
  have in1070 : ¬ ((0 : Int32) < 0 ∨ cl1070.slots.size ≤ ((0 : Int32)).toNatClampNeg) := inb_of S1070 ⟨by decide, by decide⟩
  have f1071 := j951_8.keep Kq1065 (nin0)
  obtain ⟨cl1072, Ar1072, q1072, S1072, M1072, H1072, U1072⟩ := id f1071
  have in1072 : ¬ ((0 : Int32) < 0 ∨ cl1072.slots.size ≤ ((0 : Int32)).toNatClampNeg) := inb_of S1072 ⟨by decide, by decide⟩
  have f1073 := j951_7.keep Kq1065 (nin0)
  obtain ⟨cl1074, Ar1074, q1074, S1074, M1074, H1074, U1074⟩ := id f1073
  have in1074 : ¬ ((0 : Int32) < 0 ∨ cl1074.slots.size ≤ ((0 : Int32)).toNatClampNeg) := inb_of S1074 ⟨by decide, by decide⟩
  obtain ⟨cl1075, Ar1075, q1075, S1075, M1075, H1075, U1075⟩ := id vso1065
  have in1075 : ¬ ((1 : Int32) < 0 ∨ cl1075.slots.size ≤ ((1 : Int32)).toNatClampNeg) := inb_of S1075 ⟨by decide, by decide⟩
  obtain ⟨cl1076, Ar1076, q1076, S1076, M1076, H1076, U1076⟩ := id f1071
  have in1076 : ¬ ((1 : Int32) < 0 ∨ cl1076.slots.size ≤ ((1 : Int32)).toNatClampNeg) := inb_of S1076 ⟨by decide, by decide⟩
  obtain ⟨cl1077, Ar1077, q1077, S1077, M1077, H1077, U1077⟩ := id f1073
  have in1077 : ¬ ((1 : Int32) < 0 ∨ cl1077.slots.size ≤ ((1 : Int32)).toNatClampNeg) := inb_of S1077 ⟨by decide, by decide⟩
  obtain ⟨cl1078, Ar1078, q1078, S1078, M1078, H1078, U1078⟩ := id vso1065
  have in1078 : ¬ ((2 : Int32) < 0 ∨ cl1078.slots.size ≤ ((2 : Int32)).toNatClampNeg) := inb_of S1078 ⟨by decide, by decide⟩
  obtain ⟨cl1079, Ar1079, q1079, S1079, M1079, H1079, U1079⟩ := id f1071
  have in1079 : ¬ ((2 : Int32) < 0 ∨ cl1079.slots.size ≤ ((2 : Int32)).toNatClampNeg) := inb_of S1079 ⟨by decide, by decide⟩
  obtain ⟨cl1080, Ar1080, q1080, S1080, M1080, H1080, U1080⟩ := id f1073
  have in1080 : ¬ ((2 : Int32) < 0 ∨ cl1080.slots.size ≤ ((2 : Int32)).toNatClampNeg) := inb_of S1080 ⟨by decide, by decide⟩
  have pre1081 := fun (τ : State) kt => pre1069 τ (by
    show Steps p.tables e below (T1065.setTop (mkF m 217 #[.val (.int p1), .val (.int p2), .val (.int p3), .val (.int p4), .val (.int p5), .val (.int p6), .val (.ref q), .val (.ref ec), .val (.ref ew), .val (.int st1), .val (.double (FP.i2d ((p2 &&& (1048575 : Int32)) + (1 : Int32)))), .second, .val (.double (FP.i2d p3)), .second, .val (.int sc), .val (.int st2), .val (.double (FP.i2d ((p5 &&& (1048575 : Int32)) + (1 : Int32)))), .second, .val (.double (FP.i2d p6)), .second, .val (.ref so)] [(.int (3 : Int32))])) τ
    refine XS.iconst X1065.here hx rfl (Jvm.hb hby at_217) ?_
    refine XS.icmpYes X1065.here hx rfl (pc0 := 218) (pc' := 223) rfl (Jvm.hb hby at_218) rfl (teq rfl).1 (by decide) (by decide) ?_
    refine XS.aload X1065.here hx rfl (Jvm.hb hby at_223) rfl rfl ?_
    refine XS.iconst X1065.here hx rfl (Jvm.hb hby at_225) ?_
    refine X1065.daload hx ((congrArg (fun (HH : Heap) => HH[so]?) (rfl : T1065.heap = T1065.heap)).trans Ar1070.1) (State.isArrayOf_alike hZ.alike Ar1070.2.1) Ar1070.2.2 in1070 (H1070.at in1070 rfl) (g := (mkF m 226 #[.val (.int p1), .val (.int p2), .val (.int p3), .val (.int p4), .val (.int p5), .val (.int p6), .val (.ref q), .val (.ref ec), .val (.ref ew), .val (.int st1), .val (.double (FP.i2d ((p2 &&& (1048575 : Int32)) + (1 : Int32)))), .second, .val (.double (FP.i2d p3)), .second, .val (.int sc), .val (.int st2), .val (.double (FP.i2d ((p5 &&& (1048575 : Int32)) + (1 : Int32)))), .second, .val (.double (FP.i2d p6)), .second, .val (.ref so)] [(.int (0 : Int32)), (.ref so)])) rfl rfl (Jvm.hb hby at_226) _ ?_
    refine XS.aload X1065.here hx rfl (Jvm.hb hby at_227) rfl rfl ?_
    refine XS.iconst X1065.here hx rfl (Jvm.hb hby at_229) ?_
    refine X1065.daload hx ((congrArg (fun (HH : Heap) => HH[ew]?) (rfl : T1065.heap = T1065.heap)).trans Ar1072.1) (State.isArrayOf_alike hZ.alike Ar1072.2.1) Ar1072.2.2 in1072 (H1072.at in1072 rfl) (g := (mkF m 230 #[.val (.int p1), .val (.int p2), .val (.int p3), .val (.int p4), .val (.int p5), .val (.int p6), .val (.ref q), .val (.ref ec), .val (.ref ew), .val (.int st1), .val (.double (FP.i2d ((p2 &&& (1048575 : Int32)) + (1 : Int32)))), .second, .val (.double (FP.i2d p3)), .second, .val (.int sc), .val (.int st2), .val (.double (FP.i2d ((p5 &&& (1048575 : Int32)) + (1 : Int32)))), .second, .val (.double (FP.i2d p6)), .second, .val (.ref so)] [(.int (0 : Int32)), (.ref ew), (.double (FP.ddiv z0 y0))])) rfl rfl (Jvm.hb hby at_230) _ ?_
    refine XS.aload X1065.here hx rfl (Jvm.hb hby at_231) rfl rfl ?_
    refine XS.iconst X1065.here hx rfl (Jvm.hb hby at_233) ?_
    refine X1065.daload hx ((congrArg (fun (HH : Heap) => HH[ec]?) (rfl : T1065.heap = T1065.heap)).trans Ar1074.1) (State.isArrayOf_alike hZ.alike Ar1074.2.1) Ar1074.2.2 in1074 (H1074.at in1074 rfl) (g := (mkF m 234 #[.val (.int p1), .val (.int p2), .val (.int p3), .val (.int p4), .val (.int p5), .val (.int p6), .val (.ref q), .val (.ref ec), .val (.ref ew), .val (.int st1), .val (.double (FP.i2d ((p2 &&& (1048575 : Int32)) + (1 : Int32)))), .second, .val (.double (FP.i2d p3)), .second, .val (.int sc), .val (.int st2), .val (.double (FP.i2d ((p5 &&& (1048575 : Int32)) + (1 : Int32)))), .second, .val (.double (FP.i2d p6)), .second, .val (.ref so)] [(.int (0 : Int32)), (.ref ec), (.double z0), (.double (FP.ddiv z0 y0))])) rfl rfl (Jvm.hb hby at_234) _ ?_
    refine own_ddiv X1065.here hx rfl (Jvm.hb hby at_235) rfl (cz0.2.2) ?_
    refine own_dcmp X1065.here hx rfl (Jvm.hb hby at_236) rfl ?_
    refine XS.ifNo X1065.here hx rfl (Jvm.hb hby at_237) rfl ((if0 _ _).trans (teq (own_deq cz0.2.2)).2) ?_
    refine XS.aload X1065.here hx rfl (Jvm.hb hby at_240) rfl rfl ?_
    refine XS.iconst X1065.here hx rfl (Jvm.hb hby at_242) ?_
    refine X1065.daload hx ((congrArg (fun (HH : Heap) => HH[so]?) (rfl : T1065.heap = T1065.heap)).trans Ar1075.1) (State.isArrayOf_alike hZ.alike Ar1075.2.1) Ar1075.2.2 in1075 (H1075.at in1075 rfl) (g := (mkF m 243 #[.val (.int p1), .val (.int p2), .val (.int p3), .val (.int p4), .val (.int p5), .val (.int p6), .val (.ref q), .val (.ref ec), .val (.ref ew), .val (.int st1), .val (.double (FP.i2d ((p2 &&& (1048575 : Int32)) + (1 : Int32)))), .second, .val (.double (FP.i2d p3)), .second, .val (.int sc), .val (.int st2), .val (.double (FP.i2d ((p5 &&& (1048575 : Int32)) + (1 : Int32)))), .second, .val (.double (FP.i2d p6)), .second, .val (.ref so)] [(.int (1 : Int32)), (.ref so)])) rfl rfl (Jvm.hb hby at_243) _ ?_
    refine XS.aload X1065.here hx rfl (Jvm.hb hby at_244) rfl rfl ?_
    refine XS.iconst X1065.here hx rfl (Jvm.hb hby at_246) ?_
    refine X1065.daload hx ((congrArg (fun (HH : Heap) => HH[ew]?) (rfl : T1065.heap = T1065.heap)).trans Ar1076.1) (State.isArrayOf_alike hZ.alike Ar1076.2.1) Ar1076.2.2 in1076 (H1076.at in1076 rfl) (g := (mkF m 247 #[.val (.int p1), .val (.int p2), .val (.int p3), .val (.int p4), .val (.int p5), .val (.int p6), .val (.ref q), .val (.ref ec), .val (.ref ew), .val (.int st1), .val (.double (FP.i2d ((p2 &&& (1048575 : Int32)) + (1 : Int32)))), .second, .val (.double (FP.i2d p3)), .second, .val (.int sc), .val (.int st2), .val (.double (FP.i2d ((p5 &&& (1048575 : Int32)) + (1 : Int32)))), .second, .val (.double (FP.i2d p6)), .second, .val (.ref so)] [(.int (1 : Int32)), (.ref ew), (.double (FP.ddiv z1 y1))])) rfl rfl (Jvm.hb hby at_247) _ ?_
    refine XS.aload X1065.here hx rfl (Jvm.hb hby at_248) rfl rfl ?_
    refine XS.iconst X1065.here hx rfl (Jvm.hb hby at_250) ?_
    refine X1065.daload hx ((congrArg (fun (HH : Heap) => HH[ec]?) (rfl : T1065.heap = T1065.heap)).trans Ar1077.1) (State.isArrayOf_alike hZ.alike Ar1077.2.1) Ar1077.2.2 in1077 (H1077.at in1077 rfl) (g := (mkF m 251 #[.val (.int p1), .val (.int p2), .val (.int p3), .val (.int p4), .val (.int p5), .val (.int p6), .val (.ref q), .val (.ref ec), .val (.ref ew), .val (.int st1), .val (.double (FP.i2d ((p2 &&& (1048575 : Int32)) + (1 : Int32)))), .second, .val (.double (FP.i2d p3)), .second, .val (.int sc), .val (.int st2), .val (.double (FP.i2d ((p5 &&& (1048575 : Int32)) + (1 : Int32)))), .second, .val (.double (FP.i2d p6)), .second, .val (.ref so)] [(.int (1 : Int32)), (.ref ec), (.double z1), (.double (FP.ddiv z1 y1))])) rfl rfl (Jvm.hb hby at_251) _ ?_
    refine own_ddiv X1065.here hx rfl (Jvm.hb hby at_252) rfl (cz1.2.2) ?_
    refine own_dcmp X1065.here hx rfl (Jvm.hb hby at_253) rfl ?_
    refine XS.ifNo X1065.here hx rfl (Jvm.hb hby at_254) rfl ((if0 _ _).trans (teq (own_deq cz1.2.2)).2) ?_
    refine XS.aload X1065.here hx rfl (Jvm.hb hby at_257) rfl rfl ?_
    refine XS.iconst X1065.here hx rfl (Jvm.hb hby at_259) ?_
    refine X1065.daload hx ((congrArg (fun (HH : Heap) => HH[so]?) (rfl : T1065.heap = T1065.heap)).trans Ar1078.1) (State.isArrayOf_alike hZ.alike Ar1078.2.1) Ar1078.2.2 in1078 (H1078.at in1078 rfl) (g := (mkF m 260 #[.val (.int p1), .val (.int p2), .val (.int p3), .val (.int p4), .val (.int p5), .val (.int p6), .val (.ref q), .val (.ref ec), .val (.ref ew), .val (.int st1), .val (.double (FP.i2d ((p2 &&& (1048575 : Int32)) + (1 : Int32)))), .second, .val (.double (FP.i2d p3)), .second, .val (.int sc), .val (.int st2), .val (.double (FP.i2d ((p5 &&& (1048575 : Int32)) + (1 : Int32)))), .second, .val (.double (FP.i2d p6)), .second, .val (.ref so)] [(.int (2 : Int32)), (.ref so)])) rfl rfl (Jvm.hb hby at_260) _ ?_
    refine XS.aload X1065.here hx rfl (Jvm.hb hby at_261) rfl rfl ?_
    refine XS.iconst X1065.here hx rfl (Jvm.hb hby at_263) ?_
    refine X1065.daload hx ((congrArg (fun (HH : Heap) => HH[ew]?) (rfl : T1065.heap = T1065.heap)).trans Ar1079.1) (State.isArrayOf_alike hZ.alike Ar1079.2.1) Ar1079.2.2 in1079 (H1079.at in1079 rfl) (g := (mkF m 264 #[.val (.int p1), .val (.int p2), .val (.int p3), .val (.int p4), .val (.int p5), .val (.int p6), .val (.ref q), .val (.ref ec), .val (.ref ew), .val (.int st1), .val (.double (FP.i2d ((p2 &&& (1048575 : Int32)) + (1 : Int32)))), .second, .val (.double (FP.i2d p3)), .second, .val (.int sc), .val (.int st2), .val (.double (FP.i2d ((p5 &&& (1048575 : Int32)) + (1 : Int32)))), .second, .val (.double (FP.i2d p6)), .second, .val (.ref so)] [(.int (2 : Int32)), (.ref ew), (.double (FP.ddiv z2 y2))])) rfl rfl (Jvm.hb hby at_264) _ ?_
    refine XS.aload X1065.here hx rfl (Jvm.hb hby at_265) rfl rfl ?_
    refine XS.iconst X1065.here hx rfl (Jvm.hb hby at_267) ?_
    refine X1065.daload hx ((congrArg (fun (HH : Heap) => HH[ec]?) (rfl : T1065.heap = T1065.heap)).trans Ar1080.1) (State.isArrayOf_alike hZ.alike Ar1080.2.1) Ar1080.2.2 in1080 (H1080.at in1080 rfl) (g := (mkF m 268 #[.val (.int p1), .val (.int p2), .val (.int p3), .val (.int p4), .val (.int p5), .val (.int p6), .val (.ref q), .val (.ref ec), .val (.ref ew), .val (.int st1), .val (.double (FP.i2d ((p2 &&& (1048575 : Int32)) + (1 : Int32)))), .second, .val (.double (FP.i2d p3)), .second, .val (.int sc), .val (.int st2), .val (.double (FP.i2d ((p5 &&& (1048575 : Int32)) + (1 : Int32)))), .second, .val (.double (FP.i2d p6)), .second, .val (.ref so)] [(.int (2 : Int32)), (.ref ec), (.double z2), (.double (FP.ddiv z2 y2))])) rfl rfl (Jvm.hb hby at_268) _ ?_
    refine own_ddiv X1065.here hx rfl (Jvm.hb hby at_269) rfl (cz2.2.2) ?_
    refine own_dcmp X1065.here hx rfl (Jvm.hb hby at_270) rfl ?_
    refine XS.ifNo X1065.here hx rfl (Jvm.hb hby at_271) rfl ((if0 _ _).trans (teq (own_deq cz2.2.2)).2) ?_
    refine XS.iconst X1065.here hx rfl (Jvm.hb hby at_274) ?_
    refine XS.goto X1065.here hx rfl (pc0 := 275) (pc' := 279) rfl (Jvm.hb hby at_275) (by decide) (by decide) ?_
    exact kt)
  obtain ⟨fs, hrL, hrun, hended, hW, hsame⟩ := X1065.leave (v := some (.int (1 : Int32))) (fun h => by rw [Bd.returns] at h; cases h)
  refine ⟨_, _, cast (congrFun hPS _) (pre1081 _ ?_), hrun, hended, _, _, rfl, ?_, ⟨_, rfl⟩, hW, hsame.mono (by decide) (by decide)⟩
  · show Steps p.tables e below (T1065.setTop (mkF m 279 #[.val (.int p1), .val (.int p2), .val (.int p3), .val (.int p4), .val (.int p5), .val (.int p6), .val (.ref q), .val (.ref ec), .val (.ref ew), .val (.int st1), .val (.double (FP.i2d ((p2 &&& (1048575 : Int32)) + (1 : Int32)))), .second, .val (.double (FP.i2d p3)), .second, .val (.int sc), .val (.int st2), .val (.double (FP.i2d ((p5 &&& (1048575 : Int32)) + (1 : Int32)))), .second, .val (.double (FP.i2d p6)), .second, .val (.ref so)] [(.int (1 : Int32))])) _
    exact retN X1065 hx (t := .boolean) Bd.returns (by simp) (Jvm.hb hby at_279) hrL
  · show Q0 n0 _ T1065.heap _
    exact ⟨rfl, N1065⟩
set_option maxRecDepth 65536 in
set_option maxHeartbeats 40000000 in
theorem comes_1 {Post : Tables → Env → Array Value → State → Outcome → State → Prop} (hpost : ∀ tb e args s v u, (limb_1_1.after args s (.returned v) u = true ∧ limb_1_2.after args s (.returned v) u = true ∧ True) → FrameEnd s (.returned v) u (Jvm.fieldLocs frame_1_writes args s ++ Jvm.arrayLocs frame_1_arrays args s ++ Jvm.staticLocs frame_1_statics s) 64 192 → Post tb e args s (.returned v) u) :
    ArmFor flags0 classFile x code maxLocals ret World_1 tables_1 room_1 Calls_1 rest_1 Pre_1 Post := by
  intro l hfl _ _ p e ha hc hk s m args below hf hA hF happ hP
  obtain ⟨hcalls, hrest, hpre⟩ := hP
  obtain ⟨-, -, -, hnamed, -, -, -, hat⟩ := (Spec.applies_iff hf).mp happ
  obtain ⟨hg, hn⟩ := and_e (Cond.before_iff.mp (show (Jvm.Cond.and given_1 narrow_1).before args s = true from hpre))
  obtain ⟨g1, g2⟩ := and_e hg
  obtain ⟨g3, g4⟩ := and_e g2
  obtain ⟨g5, g6⟩ := and_e g4
  obtain ⟨g7, g8⟩ := and_e g6
  obtain ⟨g9, g10⟩ := and_e g8
  obtain ⟨g11, g12⟩ := and_e g10
  obtain ⟨w0, w1, w2, w3, w4, w5, rfl⟩ : ∃ w0 w1 w2 w3 w4 w5 : Value, args = #[w0, w1, w2, w3, w4, w5] := by
    have hs : args.size = 6 := by simpa [Cond.value, given_1] using g1
    obtain ⟨L⟩ := args
    match L, hs with
    | [w0, w1, w2, w3, w4, w5], _ => exact ⟨w0, w1, w2, w3, w4, w5, rfl⟩
  have hw := fun d (hd : d ∈ tables_1) => atoms_spec (ws := Jvm.Cond.code x code maxLocals ret :: tables_1) hat d (List.mem_cons_of_mem _ hd)
  obtain ⟨i0, ei0⟩ := is_v g3
  obtain rfl : w0 = (.int i0) := Option.some.inj ei0
  obtain ⟨i1, ei1⟩ := is_v g5
  obtain rfl : w1 = (.int i1) := Option.some.inj ei1
  obtain ⟨i2, ei2⟩ := is_v g7
  obtain rfl : w2 = (.int i2) := Option.some.inj ei2
  obtain ⟨i3, ei3⟩ := is_v g9
  obtain rfl : w3 = (.int i3) := Option.some.inj ei3
  obtain ⟨i4, ei4⟩ := is_v g11
  obtain rfl : w4 = (.int i4) := Option.some.inj ei4
  obtain ⟨i5, ei5⟩ := is_v g12
  obtain rfl : w5 = (.int i5) := Option.some.inj ei5
  obtain ⟨n, o, h1, h2, h3, _, L, rfl, ⟨rfl, N⟩, hq⟩ := rm0 l s _ hw tables_1 i0 i1 i2 i3 i4 i5 s.heap s.heap.size (Nat.le_refl _) p e ha hc hk s m _ below hf ((Spec.applies_iff_loose hf).mp happ).1 ⟨rfl, State.Warmed39.refl s, rfl⟩ trivial
  refine ⟨n, _, h1, h2, h3, hpost _ _ _ _ _ _ ⟨Cond.after_iff.mpr rfl, Cond.after_iff.mpr (eq_i res_at (Term.int_eval (1)) rfl), trivial⟩ ⟨hq.1, hq.2.1, (hq.2.2.sift fun y hy => Or.inr (N y hy)).mono (by decide) (by decide)⟩⟩
theorem main_1_1 : Claimed_1_1 := comes_1 fun _ _ _ _ _ _ h hF => ⟨h.1, hF⟩
theorem main_1_2 : Claimed_1_2 := comes_1 fun _ _ _ _ _ _ h hF => ⟨h.2.1, hF⟩
end Jvm.Pilot.@@N@@
namespace Jvm.Pilot.@@N@@
open Jvm Jvm.ClassFile Sem Op Lib Jvm.Free Jvm.Stand Jvm.Pilot.@@N@@.Jvm.D
/-! MADE BY PROGRAM (witnessworld.py) out of the Statement's table words and the real class files: 15 classes; the members and pool entries that the words name. The judged class is class 1, her method 1. -/
namespace start1
open Jvm.ClassFile
def u (s : String) : CpInfo := .utf8 (stringToUtf16 s)
/-- a pool by its gaps: so many unusable entries, then the entry; so many at the end -/
def gap : Nat → List CpInfo → List CpInfo
  | 0, r => r
  | n + 1, r => .unusable :: gap n r
def poolList (es : List (Nat × CpInfo)) (last : Nat) : List CpInfo := es.foldr (fun e r => gap e.1 (e.2 :: r)) (gap last [])
def pool (es : List (Nat × CpInfo)) (last : Nat) : Array CpInfo := ⟨poolList es last⟩
def fileOf (pool : Array CpInfo) (this : Nat) (attrs : Array Attribute := #[]) (ms : Array MethodInfo := #[]) (fl : Nat := 33) (sup : Nat := 0) (ifs : Array Nat := #[]) (fds : Array FieldInfo := #[]) : ClassFile where
  minorVersion := 0
  majorVersion := 65
  constantPool := pool
  accessFlags := fl
  thisClass := this
  superClass := sup
  interfaces := ifs
  fields := fds
  methods := ms
  attributes := attrs
def plain (name : String) (sup : Option ClassId) : Class where
  name := name
  kind := .ordinary
  loader := none
  accessFlags := 33
  super := sup
  interfaces := #[]
  cf := none
  fields := #[]
  methods := #[]
  instanceTypes := #[]
  staticTypes := #[]
  resolved := #[]
  callSites := []
  init := .initialized
  statics := none
  mirror := none

def pool0 : Array CpInfo := pool [(5, u "<init>"), (0, u "()V"), (1, .class_ 10), (1, u "java/lang/Object")] 113

def k0c0 : Code := { maxStack := 0, maxLocals := 1, code := object_method_1_code, exceptionTable := #[], attributes := #[] }
def k0m0 : Method := { name := "<init>", desc := "()V", sig := { parameters := [], returnType := none }, accessFlags := 1, code := some k0c0 }
/-- java/lang/Object -/
def k0 : Class := { plain "java/lang/Object" none with
  accessFlags := 33
  interfaces := #[]
  cf := some (fileOf pool0 8 #[] #[{ accessFlags := 1, nameIndex := 5, descriptorIndex := 6, attributes := #[] }] 33 0 #[] #[])
  fields := #[]
  methods := #[k0m0]
  instanceTypes := #[]
  staticTypes := #[]
  resolved := Array.replicate 124 none
  statics := none }

def pool1 : Array CpInfo := pool [(2, .class_ 4), (1, u "java/lang/Object"), (0, u "<init>"), (0, u "()V"), (0, .class_ 8), (0, u "com/example/meticulous_ballot/meticulousballot/AbsorbingChain"), (0, .methodref 7 10), (0, .nameAndType 5 11), (0, u "(I)V"), (0, .double 4621819117588971520), (1, .methodref 7 15), (0, .nameAndType 16 17), (0, u "leave"), (0, u "(IDD)V"), (0, .double 4611686018427387904), (1, .double 4626322717216342016), (1, .double 4616189618054758400), (1, .double 4630826316843712512), (1, .integer 2147483647), (0, .integer 1048575), (0, .integer 1073741823), (0, .methodref 7 30), (0, .nameAndType 31 32), (0, u "solve"), (0, u "()[D"), (0, .class_ 34), (0, u "com/example/meticulous_ballot/meticulousballot/AbsorbingChainLeavePinLaw"), (2, u "law"), (0, u "(IIIIII)Z")] 5

def k1m0 : Method := { name := "<init>", desc := "()V", sig := { parameters := [], returnType := none }, accessFlags := 1, code := none }
def k1c1 : Code := { maxStack := 6, maxLocals := 21, code := code, exceptionTable := #[], attributes := #[] }
def k1m1 : Method := { name := "law", desc := "(IIIIII)Z", sig := { parameters := [.int, .int, .int, .int, .int, .int], returnType := some .boolean }, accessFlags := 9, code := some k1c1 }
/-- com/example/meticulous_ballot/meticulousballot/AbsorbingChainLeavePinLaw -/
def k1 : Class := { plain "com/example/meticulous_ballot/meticulousballot/AbsorbingChainLeavePinLaw" (some 0) with
  accessFlags := 49
  interfaces := #[]
  cf := some (fileOf pool1 33 #[] #[{ accessFlags := 1, nameIndex := 5, descriptorIndex := 6, attributes := #[] }, { accessFlags := 9, nameIndex := 37, descriptorIndex := 38, attributes := #[] }] 49 2 #[] #[])
  fields := #[]
  methods := #[k1m0, k1m1]
  instanceTypes := #[]
  staticTypes := #[]
  resolved := Array.replicate 44 none
  statics := none }

def pool2 : Array CpInfo := pool [(1, .methodref 2 3), (0, .class_ 4), (0, .nameAndType 5 6), (0, u "java/lang/Object"), (0, u "<init>"), (0, u "()V"), (0, .fieldref 8 9), (0, .class_ 10), (0, .nameAndType 11 12), (0, u "com/example/meticulous_ballot/meticulousballot/AbsorbingChain"), (0, u "leaving"), (0, u "[D"), (0, .fieldref 8 14), (0, .nameAndType 15 12), (0, u "worths"), (0, .class_ 17), (0, u "[[I"), (0, .fieldref 8 19), (0, .nameAndType 20 17), (0, u "links"), (0, .class_ 22), (0, u "[[D"), (0, .fieldref 8 24), (0, .nameAndType 25 22), (0, u "chances"), (0, .fieldref 8 27), (0, .nameAndType 28 29), (0, u "linkCounts"), (0, u "[I"), (0, .fieldref 8 31), (0, .nameAndType 32 17), (0, u "linkedFrom"), (0, .fieldref 8 34), (0, .nameAndType 35 29), (0, u "linkedFromCounts"), (4, .methodref 41 42), (0, .class_ 43), (0, .nameAndType 44 45), (0, u "java/util/Arrays"), (0, u "fill"), (0, u "([II)V"), (0, .class_ 47), (0, u "com/example/meticulous_ballot/meticulousballot/CompensatedSum"), (0, .methodref 46 3), (0, .methodref 46 50), (0, .nameAndType 51 52), (0, u "add"), (0, u "(D)V"), (0, .methodref 46 54), (0, .nameAndType 55 56), (0, u "value"), (0, u "()D"), (17, u "(I)V"), (2, u "leave"), (0, u "(IDD)V"), (1, u "solve"), (0, u "()[D")] 5

def k2c0 : Code := { maxStack := 3, maxLocals := 2, code := prog_1_method_1_code, exceptionTable := #[], attributes := #[] }
def k2m0 : Method := { name := "<init>", desc := "(I)V", sig := { parameters := [.int], returnType := none }, accessFlags := 0, code := some k2c0 }
def k2c1 : Code := { maxStack := 4, maxLocals := 6, code := prog_1_method_2_code, exceptionTable := #[], attributes := #[] }
def k2m1 : Method := { name := "leave", desc := "(IDD)V", sig := { parameters := [.int, .double, .double], returnType := none }, accessFlags := 0, code := some k2c1 }
def k2c2 : Code := { maxStack := 6, maxLocals := 8, code := prog_1_method_4_code, exceptionTable := #[], attributes := #[] }
def k2m2 : Method := { name := "solve", desc := "()[D", sig := { parameters := [], returnType := some (.array .double) }, accessFlags := 0, code := some k2c2 }
/-- com/example/meticulous_ballot/meticulousballot/AbsorbingChain -/
def k2 : Class := { plain "com/example/meticulous_ballot/meticulousballot/AbsorbingChain" (some 0) with
  accessFlags := 48
  interfaces := #[]
  cf := some (fileOf pool2 8 #[] #[{ accessFlags := 0, nameIndex := 5, descriptorIndex := 74, attributes := #[] }, { accessFlags := 0, nameIndex := 77, descriptorIndex := 78, attributes := #[] }, { accessFlags := 0, nameIndex := 80, descriptorIndex := 81, attributes := #[] }] 48 2 #[] #[{ accessFlags := 18, nameIndex := 11, descriptorIndex := 12, attributes := #[] }, { accessFlags := 18, nameIndex := 15, descriptorIndex := 12, attributes := #[] }, { accessFlags := 18, nameIndex := 20, descriptorIndex := 17, attributes := #[] }, { accessFlags := 18, nameIndex := 25, descriptorIndex := 22, attributes := #[] }, { accessFlags := 18, nameIndex := 28, descriptorIndex := 29, attributes := #[] }, { accessFlags := 18, nameIndex := 32, descriptorIndex := 17, attributes := #[] }, { accessFlags := 18, nameIndex := 35, descriptorIndex := 29, attributes := #[] }])
  fields := #[{ name := "leaving", type := (.array .double), accessFlags := 18, slot := 0, constantValue := 0 }, { name := "worths", type := (.array .double), accessFlags := 18, slot := 1, constantValue := 0 }, { name := "links", type := (.array (.array .int)), accessFlags := 18, slot := 2, constantValue := 0 }, { name := "chances", type := (.array (.array .double)), accessFlags := 18, slot := 3, constantValue := 0 }, { name := "linkCounts", type := (.array .int), accessFlags := 18, slot := 4, constantValue := 0 }, { name := "linkedFrom", type := (.array (.array .int)), accessFlags := 18, slot := 5, constantValue := 0 }, { name := "linkedFromCounts", type := (.array .int), accessFlags := 18, slot := 6, constantValue := 0 }]
  methods := #[k2m0, k2m1, k2m2]
  instanceTypes := #[(.array .double), (.array .double), (.array (.array .int)), (.array (.array .double)), (.array .int), (.array (.array .int)), (.array .int)]
  staticTypes := #[]
  resolved := Array.replicate 87 none
  statics := none }

def pool3 : Array CpInfo := pool [(2, .class_ 4), (1, u "java/lang/Object"), (0, u "<init>"), (0, u "()V"), (7, .class_ 16), (1, u "java/util/Arrays"), (57, .class_ 76), (1, u "java/util/Arrays$NaturalOrder"), (36, .class_ 115), (1, u "java/util/Arrays$LegacyMergeSort"), (1, u "Z"), (257, .class_ 376), (0, u "java/util/Arrays$ArrayList"), (68, u "$assertionsDisabled"), (269, u "MIN_ARRAY_SORT_GRAN"), (0, u "I"), (2, u "INSERTIONSORT_THRESHOLD"), (120, u "fill"), (4, u "([II)V"), (129, .class_ 976), (0, u "java/util/Arrays$ArrayItr")] 52

def k3m0 : Method := { name := "<init>", desc := "()V", sig := { parameters := [], returnType := none }, accessFlags := 2, code := none }
def k3c1 : Code := { maxStack := 3, maxLocals := 4, code := jdk_65_method_103_code, exceptionTable := #[], attributes := #[] }
def k3m1 : Method := { name := "fill", desc := "([II)V", sig := { parameters := [(.array .int), .int], returnType := none }, accessFlags := 9, code := some k3c1 }
/-- java/util/Arrays -/
def k3 : Class := { plain "java/util/Arrays" (some 0) with
  accessFlags := 49
  interfaces := #[]
  cf := some (fileOf pool3 14 #[.nestMembers #[975, 375, 113, 74]] #[{ accessFlags := 2, nameIndex := 5, descriptorIndex := 6, attributes := #[] }, { accessFlags := 9, nameIndex := 840, descriptorIndex := 845, attributes := #[] }] 49 2 #[] #[{ accessFlags := 26, nameIndex := 715, descriptorIndex := 716, attributes := #[] }, { accessFlags := 26, nameIndex := 719, descriptorIndex := 716, attributes := #[] }, { accessFlags := 4120, nameIndex := 445, descriptorIndex := 117, attributes := #[] }])
  fields := #[{ name := "MIN_ARRAY_SORT_GRAN", type := .int, accessFlags := 26, slot := 0, constantValue := 0 }, { name := "INSERTIONSORT_THRESHOLD", type := .int, accessFlags := 26, slot := 1, constantValue := 0 }, { name := "$assertionsDisabled", type := .boolean, accessFlags := 4120, slot := 2, constantValue := 0 }]
  methods := #[k3m0, k3m1]
  instanceTypes := #[]
  staticTypes := #[.int, .int, .boolean]
  resolved := Array.replicate 1029 none
  statics := none }

def pool4 : Array CpInfo := pool [(1, .methodref 2 3), (0, .class_ 4), (0, .nameAndType 5 6), (0, u "java/lang/Object"), (0, u "<init>"), (0, u "()V"), (0, .fieldref 8 9), (0, .class_ 10), (0, .nameAndType 11 12), (0, u "com/example/meticulous_ballot/meticulousballot/CompensatedSum"), (0, u "excess"), (0, u "D"), (0, .fieldref 8 14), (0, .nameAndType 15 12), (0, u "sum"), (2, u "add"), (0, u "(D)V"), (0, u "value"), (0, u "()D")] 2

def k4c0 : Code := { maxStack := 1, maxLocals := 1, code := prog_12_method_1_code, exceptionTable := #[], attributes := #[] }
def k4m0 : Method := { name := "<init>", desc := "()V", sig := { parameters := [], returnType := none }, accessFlags := 0, code := some k4c0 }
def k4c1 : Code := { maxStack := 5, maxLocals := 7, code := prog_12_method_2_code, exceptionTable := #[], attributes := #[] }
def k4m1 : Method := { name := "add", desc := "(D)V", sig := { parameters := [.double], returnType := none }, accessFlags := 0, code := some k4c1 }
def k4c2 : Code := { maxStack := 2, maxLocals := 1, code := prog_12_method_3_code, exceptionTable := #[], attributes := #[] }
def k4m2 : Method := { name := "value", desc := "()D", sig := { parameters := [], returnType := some .double }, accessFlags := 0, code := some k4c2 }
/-- com/example/meticulous_ballot/meticulousballot/CompensatedSum -/
def k4 : Class := { plain "com/example/meticulous_ballot/meticulousballot/CompensatedSum" (some 0) with
  accessFlags := 48
  interfaces := #[]
  cf := some (fileOf pool4 8 #[] #[{ accessFlags := 0, nameIndex := 5, descriptorIndex := 6, attributes := #[] }, { accessFlags := 0, nameIndex := 18, descriptorIndex := 19, attributes := #[] }, { accessFlags := 0, nameIndex := 20, descriptorIndex := 21, attributes := #[] }] 48 2 #[] #[{ accessFlags := 2, nameIndex := 15, descriptorIndex := 12, attributes := #[] }, { accessFlags := 2, nameIndex := 11, descriptorIndex := 12, attributes := #[] }])
  fields := #[{ name := "sum", type := .double, accessFlags := 2, slot := 0, constantValue := 0 }, { name := "excess", type := .double, accessFlags := 2, slot := 1, constantValue := 0 }]
  methods := #[k4m0, k4m1, k4m2]
  instanceTypes := #[.double, .double]
  staticTypes := #[]
  resolved := Array.replicate 24 none
  statics := none }

def pool5 : Array CpInfo := pool [(1, u "java/lang/Cloneable"), (0, .class_ 1), (0, u "java/lang/Object"), (0, .class_ 3)] 3

/-- java/lang/Cloneable -/
def k5 : Class := { plain "java/lang/Cloneable" (some 0) with
  accessFlags := 1537
  interfaces := #[]
  cf := some (fileOf pool5 2 #[] #[] 1537 4 #[] #[])
  fields := #[]
  methods := #[]
  instanceTypes := #[]
  staticTypes := #[]
  resolved := Array.replicate 8 none
  statics := none }

def pool6 : Array CpInfo := pool [(1, u "java/io/Serializable"), (0, .class_ 1), (0, u "java/lang/Object"), (0, .class_ 3)] 3

/-- java/io/Serializable -/
def k6 : Class := { plain "java/io/Serializable" (some 0) with
  accessFlags := 1537
  interfaces := #[]
  cf := some (fileOf pool6 2 #[] #[] 1537 4 #[] #[])
  fields := #[]
  methods := #[]
  instanceTypes := #[]
  staticTypes := #[]
  resolved := Array.replicate 8 none
  statics := none }

/-- the primitive byte -/
def k7 : Class := { plain "byte" none with kind := .primitive 'B', accessFlags := 0x411 }
/-- [B -/
def k8 : Class := { plain "[B" (some 0) with kind := .array 7 .byte, interfaces := #[5, 6], accessFlags := 1041 }

/-- the primitive double -/
def k9 : Class := { plain "double" none with kind := .primitive 'D', accessFlags := 0x411 }
/-- [D -/
def k10 : Class := { plain "[D" (some 0) with kind := .array 9 .double, interfaces := #[5, 6], accessFlags := 1041 }

/-- the primitive int -/
def k11 : Class := { plain "int" none with kind := .primitive 'I', accessFlags := 0x411 }
/-- [I -/
def k12 : Class := { plain "[I" (some 0) with kind := .array 11 .int, interfaces := #[5, 6], accessFlags := 1041 }

/-- [[D -/
def k13 : Class := { plain "[[D" (some 0) with kind := .array 10 (.array .double), interfaces := #[5, 6], accessFlags := 1041 }

/-- [[I -/
def k14 : Class := { plain "[[I" (some 0) with kind := .array 12 (.array .int), interfaces := #[5, 6], accessFlags := 1041 }

def heap : Heap := #[]
def classes : Array Class := #[k0, k1, k2, k3, k4, k5, k6, k7, k8, k9, k10, k11, k12, k13, k14]
def interned : List (Array UInt16 × Addr) := []
def slotsUsed : Nat := 0
def theMethod : MethodId := ⟨1, 1⟩
def args0 : Array Value := #[.int 5, .int 7, .int 9, .int 1, .int 2, .int 3]
def aboutOver (below : List Frame) : State where
  vm := { classes := classes, interned := interned.toArray }
  heap := heap
  slotsUsed := slotsUsed
  threads := #[{ frames := .invoking theMethod args0 :: below }]
def below0 : List Frame := [.native { method := ⟨0, 0⟩, args := #[] }]
def about1 : State := aboutOver below0
def p0 : Program := .bare "" "" ""
def e0 : Env := launch0.env 0 0 0
theorem w_frames : about1.frames = Frame.invoking theMethod args0 :: below0 := rfl
set_option maxRecDepth 65536 in
theorem w_args : argsFit about1.vm theMethod args0 = true := by decide +kernel
set_option maxRecDepth 65536 in
theorem w_heap : heapFits about1 = true := by decide +kernel
set_option maxRecDepth 65536 in
theorem w_runnable : about1.curStatus? = some .runnable := by decide +kernel
set_option maxRecDepth 65536 in
theorem w_alone : about1.alone = true := by decide +kernel
set_option maxRecDepth 65536 in
theorem w_named : about1.methodNamed? x = some theMethod := by decide +kernel
set_option maxRecDepth 65536 in
theorem w_hears : about1.hears theMethod below0 = true := by decide +kernel
set_option maxRecDepth 65536 in
theorem w_ripe : about1.ripe theMethod args0 below0 = true := by decide +kernel
theorem w_running : about1.status = .running := rfl
set_option maxRecDepth 65536 in
theorem w_room : about1.hasRoom e0.platform room_1 = true :=
  launch0.hasRoom_least _ room_1 (by decide +kernel) (by decide +kernel) (by decide +kernel) (by decide +kernel) (by decide +kernel) (by decide +kernel)
theorem allAtoms_all (ts : List Jvm.Cond) (a : Array Jvm.Value) (st : Jvm.State) : (allAtoms ts).before a st = ts.all (fun c => c.before a st) := by
  induction ts with
  | nil => rfl
  | cons c t ih =>
    show (Jvm.Cond.and c (allAtoms t)).before a st = _
    rw [Jvm.Cond.before_and, ih, List.all_cons]
def words1 : List Jvm.Cond := Jvm.Cond.code x code maxLocals ret :: tables_1
/-- a 'code' word, met by the world's own term for the bytes: nothing is compared byte by byte -/
theorem code_word {y : MethodName} {bytes : ByteArray} {mx : Nat} {rt : Option FieldType} {a : Array Value} {s : State} {m : MethodId} {meth : Method} {c : Code} (h1 : s.methodNamed? y = some m) (h2 : s.vm.method? m = some meth) (h3 : meth.code = some c) (h4 : c.code = bytes)
    (h5 : (c.maxLocals == mx && c.exceptionTable.isEmpty && decide (c.maxStack ≤ mostOperands) && decide (meth.sig.returnType = rt) && !meth.locks && decide (parseMethodDescriptor y.desc = some meth.sig)) = true) : (Jvm.Cond.code y bytes mx rt).before a s = true := by
  simp only [Bool.and_eq_true, beq_iff_eq, Bool.not_eq_true', decide_eq_true_eq] at h5
  obtain ⟨⟨⟨⟨⟨g1, g2⟩, g3⟩, g4⟩, g5⟩, g6⟩ := h5
  simp [Cond.before, Cond.holds, Cond.value, h1, h2, h3, h4, g1, g2, g3, g4, g5, g6]
def isCode : Jvm.Cond → Bool
  | .code _ _ _ _ => true
  | _ => false
theorem all_split {L : List Jvm.Cond} {P : Jvm.Cond → Bool} (h1 : L.all (fun c => isCode c || P c) = true) (h2 : ∀ c ∈ L.filter isCode, P c = true) : L.all P = true := by
  refine List.all_eq_true.mpr fun c hc => ?_
  have h := List.all_eq_true.mp h1 c hc
  rcases Bool.eq_false_or_eq_true (isCode c) with hi | hi
  · exact h2 c (List.mem_filter.mpr ⟨hc, hi⟩)
  · simpa [hi] using h
set_option maxRecDepth 65536 in
theorem w_c0 : (Jvm.Cond.code x code maxLocals ret).before args0 about1 = true := code_word (m := ⟨1, 1⟩) (meth := k1m1) (c := k1c1) (by decide +kernel) rfl rfl rfl (by decide +kernel)
set_option maxRecDepth 65536 in
theorem w_c1 : (Jvm.Cond.code ({ cls := "com/example/meticulous_ballot/meticulousballot/AbsorbingChain", name := "<init>", desc := "(I)V" } : Jvm.MethodName) prog_1_method_1_code (2 : Nat) (Option.none : Option Jvm.ClassFile.FieldType)).before args0 about1 = true := code_word (m := ⟨2, 0⟩) (meth := k2m0) (c := k2c0) (by decide +kernel) rfl rfl rfl (by decide +kernel)
set_option maxRecDepth 65536 in
theorem w_c2 : (Jvm.Cond.code ({ cls := "java/lang/Object", name := "<init>", desc := "()V" } : Jvm.MethodName) object_method_1_code (1 : Nat) (Option.none : Option Jvm.ClassFile.FieldType)).before args0 about1 = true := code_word (m := ⟨0, 0⟩) (meth := k0m0) (c := k0c0) (by decide +kernel) rfl rfl rfl (by decide +kernel)
set_option maxRecDepth 65536 in
theorem w_c3 : (Jvm.Cond.code ({ cls := "com/example/meticulous_ballot/meticulousballot/AbsorbingChain", name := "leave", desc := "(IDD)V" } : Jvm.MethodName) prog_1_method_2_code (6 : Nat) (Option.none : Option Jvm.ClassFile.FieldType)).before args0 about1 = true := code_word (m := ⟨2, 1⟩) (meth := k2m1) (c := k2c1) (by decide +kernel) rfl rfl rfl (by decide +kernel)
set_option maxRecDepth 65536 in
theorem w_c4 : (Jvm.Cond.code ({ cls := "com/example/meticulous_ballot/meticulousballot/AbsorbingChain", name := "solve", desc := "()[D" } : Jvm.MethodName) prog_1_method_4_code (8 : Nat) (Option.some (Jvm.ClassFile.FieldType.array Jvm.ClassFile.FieldType.double))).before args0 about1 = true := code_word (m := ⟨2, 2⟩) (meth := k2m2) (c := k2c2) (by decide +kernel) rfl rfl rfl (by decide +kernel)
set_option maxRecDepth 65536 in
theorem w_c5 : (Jvm.Cond.code ({ cls := "java/util/Arrays", name := "fill", desc := "([II)V" } : Jvm.MethodName) jdk_65_method_103_code (4 : Nat) (Option.none : Option Jvm.ClassFile.FieldType)).before args0 about1 = true := code_word (m := ⟨3, 1⟩) (meth := k3m1) (c := k3c1) (by decide +kernel) rfl rfl rfl (by decide +kernel)
set_option maxRecDepth 65536 in
theorem w_c6 : (Jvm.Cond.code ({ cls := "com/example/meticulous_ballot/meticulousballot/CompensatedSum", name := "<init>", desc := "()V" } : Jvm.MethodName) prog_12_method_1_code (1 : Nat) (Option.none : Option Jvm.ClassFile.FieldType)).before args0 about1 = true := code_word (m := ⟨4, 0⟩) (meth := k4m0) (c := k4c0) (by decide +kernel) rfl rfl rfl (by decide +kernel)
set_option maxRecDepth 65536 in
theorem w_c7 : (Jvm.Cond.code ({ cls := "com/example/meticulous_ballot/meticulousballot/CompensatedSum", name := "add", desc := "(D)V" } : Jvm.MethodName) prog_12_method_2_code (7 : Nat) (Option.none : Option Jvm.ClassFile.FieldType)).before args0 about1 = true := code_word (m := ⟨4, 1⟩) (meth := k4m1) (c := k4c1) (by decide +kernel) rfl rfl rfl (by decide +kernel)
set_option maxRecDepth 65536 in
theorem w_c8 : (Jvm.Cond.code ({ cls := "com/example/meticulous_ballot/meticulousballot/CompensatedSum", name := "value", desc := "()D" } : Jvm.MethodName) prog_12_method_3_code (1 : Nat) (Option.some Jvm.ClassFile.FieldType.double)).before args0 about1 = true := code_word (m := ⟨4, 2⟩) (meth := k4m2) (c := k4c2) (by decide +kernel) rfl rfl rfl (by decide +kernel)
def codes1 : List Jvm.Cond := [Jvm.Cond.code x code maxLocals ret, Jvm.Cond.code ({ cls := "com/example/meticulous_ballot/meticulousballot/AbsorbingChain", name := "<init>", desc := "(I)V" } : Jvm.MethodName) prog_1_method_1_code (2 : Nat) (Option.none : Option Jvm.ClassFile.FieldType), Jvm.Cond.code ({ cls := "java/lang/Object", name := "<init>", desc := "()V" } : Jvm.MethodName) object_method_1_code (1 : Nat) (Option.none : Option Jvm.ClassFile.FieldType), Jvm.Cond.code ({ cls := "com/example/meticulous_ballot/meticulousballot/AbsorbingChain", name := "leave", desc := "(IDD)V" } : Jvm.MethodName) prog_1_method_2_code (6 : Nat) (Option.none : Option Jvm.ClassFile.FieldType), Jvm.Cond.code ({ cls := "com/example/meticulous_ballot/meticulousballot/AbsorbingChain", name := "solve", desc := "()[D" } : Jvm.MethodName) prog_1_method_4_code (8 : Nat) (Option.some (Jvm.ClassFile.FieldType.array Jvm.ClassFile.FieldType.double)), Jvm.Cond.code ({ cls := "java/util/Arrays", name := "fill", desc := "([II)V" } : Jvm.MethodName) jdk_65_method_103_code (4 : Nat) (Option.none : Option Jvm.ClassFile.FieldType), Jvm.Cond.code ({ cls := "com/example/meticulous_ballot/meticulousballot/CompensatedSum", name := "<init>", desc := "()V" } : Jvm.MethodName) prog_12_method_1_code (1 : Nat) (Option.none : Option Jvm.ClassFile.FieldType), Jvm.Cond.code ({ cls := "com/example/meticulous_ballot/meticulousballot/CompensatedSum", name := "add", desc := "(D)V" } : Jvm.MethodName) prog_12_method_2_code (7 : Nat) (Option.none : Option Jvm.ClassFile.FieldType), Jvm.Cond.code ({ cls := "com/example/meticulous_ballot/meticulousballot/CompensatedSum", name := "value", desc := "()D" } : Jvm.MethodName) prog_12_method_3_code (1 : Nat) (Option.some Jvm.ClassFile.FieldType.double)]
set_option maxRecDepth 65536 in
theorem codes_eq : words1.filter isCode = codes1 := rfl
theorem w_codes : ∀ c ∈ words1.filter isCode, c.before args0 about1 = true := by
  rw [codes_eq]
  intro c hc
  simp only [codes1, List.mem_cons, List.not_mem_nil, or_false] at hc
  rcases hc with rfl | rfl | rfl | rfl | rfl | rfl | rfl | rfl | rfl
  · exact w_c0
  · exact w_c1
  · exact w_c2
  · exact w_c3
  · exact w_c4
  · exact w_c5
  · exact w_c6
  · exact w_c7
  · exact w_c8
set_option maxRecDepth 65536 in
theorem w_t1 : (words1.take 24).all (fun c => isCode c || c.before args0 about1) = true := by decide +kernel
set_option maxRecDepth 65536 in
theorem w_t2 : ((words1.drop 24).take 24).all (fun c => isCode c || c.before args0 about1) = true := by decide +kernel
set_option maxRecDepth 65536 in
theorem w_t3 : (((words1.drop 24).drop 24).take 24).all (fun c => isCode c || c.before args0 about1) = true := by decide +kernel
set_option maxRecDepth 65536 in
theorem w_t4 : (((words1.drop 24).drop 24).drop 24).all (fun c => isCode c || c.before args0 about1) = true := by decide +kernel
theorem w_tables : (allAtoms (Jvm.Cond.code x code maxLocals ret :: tables_1)).before args0 about1 = true := by
  rw [allAtoms_all]
  show words1.all (fun c => c.before args0 about1) = true
  refine all_split ?_ w_codes
  rw [← List.take_append_drop 24 words1, List.all_append, w_t1, ← List.take_append_drop 24 (words1.drop 24), List.all_append, w_t2, ← List.take_append_drop 24 ((words1.drop 24).drop 24), List.all_append, w_t3, w_t4]
  rfl
set_option maxRecDepth 65536 in
theorem w_case : (Jvm.Cond.and given_1 narrow_1).before args0 about1 = true := by decide +kernel
theorem w_applies : (headSpec (Jvm.Cond.code x code maxLocals ret :: tables_1) room_1).applies x e0.platform about1 = true :=
  (Spec.applies_iff w_frames).mpr ⟨w_running, w_runnable, w_alone, w_named, w_hears, w_ripe, w_room, w_tables⟩
theorem atStart : AtStart classFile x code maxLocals ret World_1 tables_1 room_1 Calls_1 rest_1 Pre_1 launch0 p0 e0 about1 theMethod args0 below0 :=
  ⟨lists_1, trivial, launch0.admits_env _ _ _, launch0.least_env, fairChoices_fair.cas, fairChoices_fair.clock, w_frames, w_args, w_heap, w_applies, trivial, trivial, w_case⟩
end start1
theorem witness_1 : WitnessClaimed_1 := ⟨start1.p0, start1.e0, start1.about1, start1.theMethod, start1.args0, start1.below0, start1.atStart⟩
end Jvm.Pilot.@@N@@
