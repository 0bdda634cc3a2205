import JvmDerived
import JvmDerived.Pilot.@@N@@Statement
import JvmDerived.Pilot.@@N@@Code
set_option linter.unusedVariables false
set_option linter.unusedSimpArgs false
namespace Jvm.RoadKit
open Sem ClassFile Op Lib Jvm.Stand Jvm.Free Jvm.LawKit
section New
variable {p : Program} {l : Launch} {e : Env} {R : Room} {s : State} {m : MethodId} {args : Array Value} {below : List Frame} {meth : Method} {c : Code} {T : State} {locs : List Loc} {cells slots : Nat}
theorem retI (X : Stand p l e R s m args below meth c T locs cells slots) (hx : p.tables.exec = Jvm.exec) {pc : Nat} {Ls : Array Slot} {z : Int32} {rest : List Value} (hret : meth.sig.returnType = some .int) (hd : decode c.code pc = .ok (.ireturn, 1)) {fs : List Frame}
    (hl : ∀ (f : JFrame) (acts : List Action), f.method = m → f.locked = none → f.entered = [] → (doReturn e (T.setTop f) acts (some (.int z))).1 = T.setFrames fs) : Steps p.tables e below (T.setTop (mkF m pc Ls (.int z :: rest))) (T.setFrames fs) :=
  retOut X hx hret rfl (Or.inl ⟨rfl, Or.inl rfl, z, rfl⟩) hd hl
end New
end Jvm.RoadKit
namespace Jvm.Pilot.@@N@@
open Jvm Jvm.ClassFile Sem Op Lib Jvm.Free Jvm.Stand Jvm.LawKit Jvm.RoadKit Bundle Jvm.Pilot.@@N@@.Jvm.D
theorem own_dloadN {tb : Tables} [Ours tb] {e : Env} {below : List Frame} {T target : State} {m : MethodId} {c : Code} {g : JFrame} (h : At T m c below) (hx : tb.exec = Jvm.exec) (hg : g.method = m) {k : Fin 4} {v : UInt64} (hd : decode c.code g.pc = .ok (.dload_n k, 1)) (hl : g.locals[k.val]? = some (.val (.double v)))
    (hr : Steps tb e below (T.setTop { g with pc := g.pc + 1, stack := .double v :: g.stack }) target) : Steps tb e below (T.setTop g) target := by
  subst hg
  jvm_step h [h.top, hx, hd, hl]
  exact hr
theorem own_dload {tb : Tables} [Ours tb] {e : Env} {below : List Frame} {T target : State} {m : MethodId} {c : Code} {g : JFrame} (h : At T m c below) (hx : tb.exec = Jvm.exec) (hg : g.method = m) {k : Nat} {v : UInt64} (hd : decode c.code g.pc = .ok (.dload k, 2)) (hl : g.locals[k]? = some (.val (.double v)))
    (hr : Steps tb e below (T.setTop { g with pc := g.pc + 2, stack := .double v :: g.stack }) target) : Steps tb e below (T.setTop g) target := by
  subst hg
  jvm_step h [h.top, hx, hd, hl]
  exact hr
theorem own_dstoreN {tb : Tables} [Ours tb] {e : Env} {below : List Frame} {T target : State} {m : MethodId} {c : Code} {g : JFrame} (h : At T m c below) (hx : tb.exec = Jvm.exec) (hg : g.method = m) {k : Fin 4} {x : UInt64} {rest : List Value} {l' : Array Slot} (hd : decode c.code g.pc = .ok (.dstore_n k, 1)) (hs : g.stack = .double x :: rest) (hl : storeLocals g.locals k.val (.double x) = some l')
    (hr : Steps tb e below (T.setTop { g with pc := g.pc + 1, stack := rest, locals := l' }) target) : Steps tb e below (T.setTop g) target := by
  subst hg
  jvm_step h [h.top, hx, hd, hs, hl]
  exact hr
theorem own_dstore {tb : Tables} [Ours tb] {e : Env} {below : List Frame} {T target : State} {m : MethodId} {c : Code} {g : JFrame} (h : At T m c below) (hx : tb.exec = Jvm.exec) (hg : g.method = m) {k : Nat} {x : UInt64} {rest : List Value} {l' : Array Slot} (hd : decode c.code g.pc = .ok (.dstore k, 2)) (hs : g.stack = .double x :: rest) (hl : storeLocals g.locals k (.double x) = some l')
    (hr : Steps tb e below (T.setTop { g with pc := g.pc + 2, stack := rest, locals := l' }) target) : Steps tb e below (T.setTop g) target := by
  subst hg
  jvm_step h [h.top, hx, hd, hs, hl]
  exact hr
theorem own_dconst0 {tb : Tables} [Ours tb] {e : Env} {below : List Frame} {T target : State} {m : MethodId} {c : Code} {g : JFrame} (h : At T m c below) (hx : tb.exec = Jvm.exec) (hg : g.method = m) (hd : decode c.code g.pc = .ok (.dconst 0, 1))
    (hr : Steps tb e below (T.setTop { g with pc := g.pc + 1, stack := .double FP.dconst0 :: g.stack }) target) : Steps tb e below (T.setTop g) target := by
  subst hg
  jvm_step h [h.top, hx, hd]
  exact hr
theorem own_dconst1 {tb : Tables} [Ours tb] {e : Env} {below : List Frame} {T target : State} {m : MethodId} {c : Code} {g : JFrame} (h : At T m c below) (hx : tb.exec = Jvm.exec) (hg : g.method = m) (hd : decode c.code g.pc = .ok (.dconst 1, 1))
    (hr : Steps tb e below (T.setTop { g with pc := g.pc + 1, stack := .double FP.dconst1 :: g.stack }) target) : Steps tb e below (T.setTop g) target := by
  subst hg
  jvm_step h [h.top, hx, hd]
  exact hr
theorem own_i2d {tb : Tables} [Ours tb] {e : Env} {below : List Frame} {T target : State} {m : MethodId} {c : Code} {g : JFrame} (h : At T m c below) (hx : tb.exec = Jvm.exec) (hg : g.method = m) {x : Int32} {rest : List Value} (hd : decode c.code g.pc = .ok (.i2d, 1)) (hs : g.stack = .int x :: rest)
    (hr : Steps tb e below (T.setTop { g with pc := g.pc + 1, stack := .double (FP.i2d x) :: rest }) target) : Steps tb e below (T.setTop g) target := by
  subst hg
  jvm_step h [h.top, hx, hd, hs]
  exact hr
theorem own_l2d {tb : Tables} [Ours tb] {e : Env} {below : List Frame} {T target : State} {m : MethodId} {c : Code} {g : JFrame} (h : At T m c below) (hx : tb.exec = Jvm.exec) (hg : g.method = m) {x : Int64} {rest : List Value} (hd : decode c.code g.pc = .ok (.l2d, 1)) (hs : g.stack = .long x :: rest)
    (hr : Steps tb e below (T.setTop { g with pc := g.pc + 1, stack := .double (FP.l2d x) :: rest }) target) : Steps tb e below (T.setTop g) target := by
  subst hg
  jvm_step h [h.top, hx, hd, hs]
  exact hr
theorem own_d2l {tb : Tables} [Ours tb] {e : Env} {below : List Frame} {T target : State} {m : MethodId} {c : Code} {g : JFrame} (h : At T m c below) (hx : tb.exec = Jvm.exec) (hg : g.method = m) {x : UInt64} {rest : List Value} (hd : decode c.code g.pc = .ok (.d2l, 1)) (hs : g.stack = .double x :: rest)
    (hr : Steps tb e below (T.setTop { g with pc := g.pc + 1, stack := .long (FP.d2l x) :: rest }) target) : Steps tb e below (T.setTop g) target := by
  subst hg
  jvm_step h [h.top, hx, hd, hs]
  exact hr
theorem own_d2i {tb : Tables} [Ours tb] {e : Env} {below : List Frame} {T target : State} {m : MethodId} {c : Code} {g : JFrame} (h : At T m c below) (hx : tb.exec = Jvm.exec) (hg : g.method = m) {x : UInt64} {rest : List Value} (hd : decode c.code g.pc = .ok (.d2i, 1)) (hs : g.stack = .double x :: rest)
    (hr : Steps tb e below (T.setTop { g with pc := g.pc + 1, stack := .int (FP.d2i x) :: rest }) target) : Steps tb e below (T.setTop g) target := by
  subst hg
  jvm_step h [h.top, hx, hd, hs]
  exact hr
theorem own_dneg {tb : Tables} [Ours tb] {e : Env} {below : List Frame} {T target : State} {m : MethodId} {c : Code} {g : JFrame} (h : At T m c below) (hx : tb.exec = Jvm.exec) (hg : g.method = m) {x : UInt64} {rest : List Value} (hd : decode c.code g.pc = .ok (.dneg, 1)) (hs : g.stack = .double x :: rest)
    (hr : Steps tb e below (T.setTop { g with pc := g.pc + 1, stack := .double (FP.dneg x) :: rest }) target) : Steps tb e below (T.setTop g) target := by
  subst hg
  jvm_step h [h.top, hx, hd, hs]
  exact hr
theorem own_dcmp {tb : Tables} [Ours tb] {e : Env} {below : List Frame} {T target : State} {m : MethodId} {c : Code} {g : JFrame} (h : At T m c below) (hx : tb.exec = Jvm.exec) (hg : g.method = m) {op : CmpOp} {x y : UInt64} {rest : List Value} (hd : decode c.code g.pc = .ok (.dcmp op, 1)) (hs : g.stack = .double y :: .double x :: rest)
    (hr : Steps tb e below (T.setTop { g with pc := g.pc + 1, stack := .int (cmpValue (FP.dcmp x y) op) :: rest }) target) : Steps tb e below (T.setTop g) target := by
  subst hg
  jvm_step h [h.top, hx, hd, hs]
  exact hr
theorem own_dadd {tb : Tables} [Ours tb] {e : Env} {below : List Frame} {T target : State} {m : MethodId} {c : Code} {g : JFrame} (h : At T m c below) (hx : tb.exec = Jvm.exec) (hg : g.method = m) {x y : UInt64} {rest : List Value} (hd : decode c.code g.pc = .ok (.dadd, 1)) (hs : g.stack = .double y :: .double x :: rest) (hn : Jvm.Free.Fl.NoNaN64 (FP.dadd x y))
    (hr : Steps tb e below (T.setTop { g with pc := g.pc + 1, stack := .double (FP.dadd x y) :: rest }) target) : Steps tb e below (T.setTop g) target := by
  obtain ⟨gm, gpc, gl, gs, glk, gen, gmr⟩ := g
  subst hg
  dsimp only at hs
  subst hs
  jvm_step h [hx, hd, Op.dadd.at_number h.top hn]
  exact hr
theorem own_dsub {tb : Tables} [Ours tb] {e : Env} {below : List Frame} {T target : State} {m : MethodId} {c : Code} {g : JFrame} (h : At T m c below) (hx : tb.exec = Jvm.exec) (hg : g.method = m) {x y : UInt64} {rest : List Value} (hd : decode c.code g.pc = .ok (.dsub, 1)) (hs : g.stack = .double y :: .double x :: rest) (hn : Jvm.Free.Fl.NoNaN64 (FP.dsub x y))
    (hr : Steps tb e below (T.setTop { g with pc := g.pc + 1, stack := .double (FP.dsub x y) :: rest }) target) : Steps tb e below (T.setTop g) target := by
  obtain ⟨gm, gpc, gl, gs, glk, gen, gmr⟩ := g
  subst hg
  dsimp only at hs
  subst hs
  jvm_step h [hx, hd, Op.dsub.at_number h.top hn]
  exact hr
theorem own_dmul {tb : Tables} [Ours tb] {e : Env} {below : List Frame} {T target : State} {m : MethodId} {c : Code} {g : JFrame} (h : At T m c below) (hx : tb.exec = Jvm.exec) (hg : g.method = m) {x y : UInt64} {rest : List Value} (hd : decode c.code g.pc = .ok (.dmul, 1)) (hs : g.stack = .double y :: .double x :: rest) (hn : Jvm.Free.Fl.NoNaN64 (FP.dmul x y))
    (hr : Steps tb e below (T.setTop { g with pc := g.pc + 1, stack := .double (FP.dmul x y) :: rest }) target) : Steps tb e below (T.setTop g) target := by
  obtain ⟨gm, gpc, gl, gs, glk, gen, gmr⟩ := g
  subst hg
  dsimp only at hs
  subst hs
  jvm_step h [hx, hd, Op.dmul.at_number h.top hn]
  exact hr
theorem own_ddiv {tb : Tables} [Ours tb] {e : Env} {below : List Frame} {T target : State} {m : MethodId} {c : Code} {g : JFrame} (h : At T m c below) (hx : tb.exec = Jvm.exec) (hg : g.method = m) {x y : UInt64} {rest : List Value} (hd : decode c.code g.pc = .ok (.ddiv, 1)) (hs : g.stack = .double y :: .double x :: rest) (hn : Jvm.Free.Fl.NoNaN64 (FP.ddiv x y))
    (hr : Steps tb e below (T.setTop { g with pc := g.pc + 1, stack := .double (FP.ddiv x y) :: rest }) target) : Steps tb e below (T.setTop g) target := by
  obtain ⟨gm, gpc, gl, gs, glk, gen, gmr⟩ := g
  subst hg
  dsimp only at hs
  subst hs
  jvm_step h [hx, hd, Op.ddiv.at_number h.top hn]
  exact hr
theorem own_dup2D {tb : Tables} [Ours tb] {e : Env} {below : List Frame} {T target : State} {m : MethodId} {c : Code} {g : JFrame} (h : At T m c below) (hx : tb.exec = Jvm.exec) (hg : g.method = m) {x : UInt64} {rest : List Value} (hd : decode c.code g.pc = .ok (.dup2, 1)) (hs : g.stack = .double x :: rest)
    (hr : Steps tb e below (T.setTop { g with pc := g.pc + 1, stack := .double x :: .double x :: rest }) target) : Steps tb e below (T.setTop g) target := by
  subst hg
  jvm_step h [h.top, hx, hd, hs, Value.category]
  exact hr
theorem own_retD {p : Program} {l : Launch} {e : Env} {R : Room} {s : State} {m : MethodId} {args : Array Value} {below : List Frame} {meth : Method} {c : Code} {T : State} {locs : List Loc} {cells slots : Nat} (Y : Stand p l e R s m args below meth c T locs cells slots) (hexec : p.tables.exec = Jvm.exec) {pc : Nat} {Ls : Array Slot} {w : UInt64} {rest : List Value} (hret : meth.sig.returnType = some .double)
    (hdg : decode c.code pc = .ok (.dreturn, 1)) {fs : List Frame} (hleave : ∀ (f : JFrame) (acts : List Action), f.method = m → f.locked = none → f.entered = [] → (doReturn e (T.setTop f) acts (some (.double w))).1 = T.setFrames fs) :
    Steps p.tables e below (T.setTop (mkF m pc Ls (.double w :: rest))) (T.setFrames fs) :=
  retOut Y hexec hret rfl (Or.inr (Or.inr (Or.inl ⟨rfl, rfl, w, rfl⟩))) hdg hleave
theorem own_stD {p : Program} {l : Launch} {e : Env} {R : Room} {s : State} {m : MethodId} {args : Array Value} {below : List Frame} {meth : Method} {c : Code} {T : State} {locs : List Loc} {cells slots : Nat} {Z : State} {h : Heap}
    (X : Stand p l e R s m args below meth c T locs cells slots) (hx : p.tables.exec = Jvm.exec) (hZ : Z.Warmed39 s.vm) (eT : T.heap = h) {a : Addr} {cl : Cell} (A : Arr Z h a cl .double) {j : Int32} {x : UInt64} (hj : ¬ (j < 0 ∨ cl.slots.size ≤ j.toNatClampNeg)) {g : JFrame} (hg : g.method = m) {rest : List Value} (hs : g.stack = .double x :: .int j :: .ref a :: rest) (hd : decode c.code g.pc = .ok (.dastore, 1)) :
    ∃ T' h', Stand p l e R s m args below meth c T' (locs ++ [⟨a, j.toNatClampNeg⟩]) cells slots ∧ T'.heap = h' ∧ Wr h h' a j.toNatClampNeg (.double x) ∧ ∀ target, Steps p.tables e below (T'.setTop { g with pc := g.pc + 1, stack := rest }) target → Steps p.tables e below (T.setTop g) target := by
  obtain ⟨X', st⟩ := X.dastore hx (by rw [eT]; exact A.1) (State.isArrayOf_alike hZ.alike A.2.1) A.2.2 hj hg hs hd
  exact ⟨_, _, X', rfl, ⟨cl, A.1, A.plain, Nat.lt_of_not_le fun q => hj (Or.inr q), by rw [← eT]; rfl⟩, st⟩
section OwnDy
open Jvm.FP Jvm.FP.Core
/-- the datum's exponent moved by j -/
def own_sh (j : Int) : Datum → Datum
  | .fin s c q => .fin s c (q + j)
  | d => d
/-- the datum is n * 2^k -/
def own_Dy (n k : Int) (d : Datum) : Prop := Whole n (own_sh (-k) d)
theorem own_dy0 {n : Int} {d : Datum} : own_Dy n 0 d ↔ Whole n d := by
  cases d with
  | nan => exact Iff.rfl
  | inf => exact Iff.rfl
  | fin s c q =>
    show Whole n (.fin s c (q + -0)) ↔ _
    rw [show q + -0 = q by omega]
theorem own_sh_sum (j : Int) (x y : Datum) : exactSum (own_sh j x) (own_sh j y) = own_sh j (exactSum x y) := by
  cases x <;> cases y <;> try rfl
  · simp only [own_sh, exactSum]; split <;> rfl
  · rename_i s c q t d r
    have hm : min (q + j) (r + j) = min q r + j := by omega
    have hu : sumUnits s c (q + j) t d (r + j) (min q r + j) = sumUnits s c q t d r (min q r) := by
      unfold sumUnits inUnits
      rw [show q + j - (min q r + j) = q - min q r by omega, show r + j - (min q r + j) = r - min q r by omega]
    simp only [own_sh, exactSum, hm, hu]
theorem own_sh_prod (i j : Int) (x y : Datum) : exactProduct (own_sh i x) (own_sh j y) = own_sh (i + j) (exactProduct x y) := by
  cases x <;> cases y <;> try rfl
  · simp only [own_sh, exactProduct]; split <;> rfl
  · simp only [own_sh, exactProduct]; split <;> rfl
  · simp only [own_sh, exactProduct, Datum.fin.injEq, true_and]; omega
theorem own_sh_order (j : Int) (x y : Datum) : order (own_sh j x) (own_sh j y) = order x y := by
  cases x <;> cases y <;> try rfl
  rename_i s c q t d r
  simp only [own_sh, order]
  unfold inUnits
  rw [show q + j - min (q + j) (r + j) = q - min q r by omega, show r + j - min (q + j) (r + j) = r - min q r by omega]
theorem own_sh_neg (j : Int) (x : Datum) : negate (own_sh j x) = own_sh j (negate x) := by cases x <;> rfl
theorem own_dy_sum {n m k : Int} {x y : Datum} (hx : own_Dy n k x) (hy : own_Dy m k y) : own_Dy (n + m) k (exactSum x y) := by
  unfold own_Dy; rw [← own_sh_sum]; exact whole_sum hx hy
theorem own_dy_neg {n k : Int} {x : Datum} (hx : own_Dy n k x) : own_Dy (-n) k (negate x) := by
  unfold own_Dy; rw [← own_sh_neg]; exact whole_negate hx
theorem own_dy_prod {n m k l : Int} {x y : Datum} (hx : own_Dy n k x) (hy : own_Dy m l y) : own_Dy (n * m) (k + l) (exactProduct x y) := by
  unfold own_Dy; rw [show -(k + l) = -k + -l by omega, ← own_sh_prod]; exact whole_product hx hy
theorem own_dy_order {n m k : Int} {x y : Datum} (hx : own_Dy n k x) (hy : own_Dy m k y) : order x y = some (compare n m) := by
  rw [← own_sh_order (-k)]; exact order_whole hx hy
theorem own_dy_fin {n k : Int} {x : Datum} (h : own_Dy n k x) : ∃ s c q, x = .fin s c q := by
  cases x with
  | nan => exact h.elim
  | inf => exact h.elim
  | fin s c q => exact ⟨s, c, q, rfl⟩
theorem own_dy_abs {n k q : Int} {s : Bool} {c : Nat} (h : own_Dy n k (.fin s c q)) : c * 2 ^ (q - k).toNat = n.natAbs * 2 ^ (k - q).toNat := by
  have := whole_natAbs (q := q + -k) h
  rw [show q + -k = q - k by omega, show -(q - k) = k - q by omega] at this
  exact this
theorem own_dy_sign {n k q : Int} {s : Bool} {c : Nat} (h : own_Dy n k (.fin s c q)) (hn : n ≠ 0) : s = decide (n < 0) := whole_sign (q := q + -k) h hn
theorem own_dy_mk {n k q : Int} {s : Bool} {c : Nat} (h : c * 2 ^ (q - k).toNat = n.natAbs * 2 ^ (k - q).toNat) (hs : n ≠ 0 → s = decide (n < 0)) : own_Dy n k (.fin s c q) := by
  show signed s (c * 2 ^ (q + -k).toNat) = n * ((2 ^ (-(q + -k)).toNat : Nat) : Int)
  rw [show q + -k = q - k by omega, show -(q - k) = k - q by omega, h]
  by_cases h0 : n = 0
  · subst h0; simp [signed]
  · rw [hs h0, signed_mul]
    congr 1
    unfold signed
    by_cases h : n < 0 <;> simp [h] <;> omega
/-- the same number in smaller units -/
theorem own_dy_scale {n k : Int} {x : Datum} (h : own_Dy n k x) (j : Nat) : own_Dy (n * ((2 ^ j : Nat) : Int)) (k - j) x := by
  obtain ⟨s, c, q, rfl⟩ := own_dy_fin h
  have p : 0 < 2 ^ j := Nat.two_pow_pos j
  refine own_dy_mk ?_ fun hn => ?_
  · have ha := own_dy_abs h
    rw [Int.natAbs_mul, Int.natAbs_natCast]
    have e1 : (q - (k - (j : Int))).toNat + (k - q).toNat = (q - k).toNat + j + (k - (j : Int) - q).toNat := by omega
    refine Nat.eq_of_mul_eq_mul_right (Nat.two_pow_pos (k - q).toNat) ?_
    calc c * 2 ^ (q - (k - (j : Int))).toNat * 2 ^ (k - q).toNat = c * 2 ^ ((q - (k - (j : Int))).toNat + (k - q).toNat) := by rw [Nat.pow_add, Nat.mul_assoc]
      _ = (c * 2 ^ (q - k).toNat) * 2 ^ j * 2 ^ (k - (j : Int) - q).toNat := by rw [e1, Nat.pow_add, Nat.pow_add]; simp only [Nat.mul_assoc]
      _ = n.natAbs * 2 ^ j * 2 ^ (k - (j : Int) - q).toNat * 2 ^ (k - q).toNat := by rw [ha]; ac_rfl
  · have p' : (0 : Int) < ((2 ^ j : Nat) : Int) := by omega
    have h0 : n ≠ 0 := fun h => hn (by rw [h, Int.zero_mul])
    rw [own_dy_sign h h0, decide_eq_decide]
    constructor
    · intro hl; exact Int.mul_neg_of_neg_of_pos hl p'
    · intro hl; exact Int.lt_of_not_ge fun hg => by have := Int.mul_nonneg hg (Int.le_of_lt p'); omega
/-- whole multiples of 2^k of at most 53 digits are doubles -/
theorem own_fit {n : Nat} {k : Int} (s : Bool) (hn : n ≤ 2 ^ 53) (h1 : -1074 ≤ k) (h2 : k ≤ 971) (h3 : n = 2 ^ 53 → k ≤ 970) : ∃ c q, Core.fits b64 (.fin s c q) ∧ n * 2 ^ (k - q).toNat = c * 1 * 2 ^ (q - k).toNat := by
  have ht : b64.tails = 2 ^ 52 := by decide
  have hp : b64.p = 53 := rfl
  have hm : b64.qmin = -1074 := by decide
  have hM : b64.qmax = 971 := by decide
  by_cases h0 : n = 0
  · subst h0
    exact ⟨0, b64.qmin, zero_fits good_b64 s, by simp⟩
  by_cases hp2 : n = 2 ^ 53
  · have h3 := h3 hp2
    refine ⟨2 ^ 52, k + 1, ⟨by rw [hp]; decide, by omega, by omega, .inr (by omega)⟩, ?_⟩
    rw [hp2, show (k - (k + 1)).toNat = 0 by omega, show (k + 1 - k).toNat = 1 by omega]
  · have l1 : 2 ^ n.log2 ≤ n := Nat.log2_self_le h0
    have l2 : n < 2 ^ (n.log2 + 1) := Nat.lt_log2_self
    have l3 : n.log2 < 53 := (Nat.pow_lt_pow_iff_right (by decide : 1 < 2)).mp (Nat.lt_of_le_of_lt l1 (by omega))
    generalize n.log2 = L at l1 l2 l3
    have hq : ∃ q : Int, q = max (-1074) ((L : Int) + k - 52) := ⟨_, rfl⟩
    obtain ⟨q, hq⟩ := hq
    have q1 : q ≤ k := by omega
    refine ⟨n * 2 ^ (k - q).toNat, q, ⟨?_, by omega, by omega, ?_⟩, ?_⟩
    · rw [hp]
      calc n * 2 ^ (k - q).toNat < 2 ^ (L + 1) * 2 ^ (k - q).toNat := Nat.mul_lt_mul_of_pos_right l2 (Nat.two_pow_pos _)
        _ = 2 ^ (L + 1 + (k - q).toNat) := by rw [← Nat.pow_add]
        _ ≤ 2 ^ 53 := Nat.pow_le_pow_right (by decide) (by omega)
    · by_cases hm2 : q = -1074
      · left; rw [hm]; exact hm2
      · right
        rw [ht]
        calc 2 ^ 52 = 2 ^ L * 2 ^ (k - q).toNat := by rw [← Nat.pow_add]; congr 1; omega
          _ ≤ n * 2 ^ (k - q).toNat := Nat.mul_le_mul_right _ l1
    · rw [show (q - k).toNat = 0 by omega]; simp
theorem own_dy_roundRatio {n k e : Int} {A B : Nat} {s : Bool} (hB : 0 < B) (hn : n.natAbs ≤ 2 ^ 53) (h1 : -1074 ≤ k) (h2 : k ≤ 970) (hA : A * 2 ^ (e - k).toNat = n.natAbs * B * 2 ^ (k - e).toNat) (hs : n ≠ 0 → s = decide (n < 0)) : own_Dy n k (roundRatio b64 s A B e) := by
  obtain ⟨c, q, hf, hv⟩ := own_fit (n := n.natAbs) s hn h1 (by omega) (fun _ => h2)
  have : roundRatio b64 s A B e = .fin s c q := by
    rw [roundRatio_congr (A' := n.natAbs) (B' := 1) (e' := k) hB (by decide) (by rw [Nat.mul_one]; exact hA)]
    exact roundRatio_exact good_b64 (by decide) hf hv
  rw [this]
  refine own_dy_mk ?_ hs
  rw [Nat.mul_one] at hv
  exact hv.symm
theorem own_dy_round {n k : Int} {d : Datum} (hn : n.natAbs ≤ 2 ^ 53) (h1 : -1074 ≤ k) (h2 : k ≤ 970) (h : own_Dy n k d) : own_Dy n k (round b64 d) := by
  obtain ⟨s, c, q, rfl⟩ := own_dy_fin h
  refine own_dy_roundRatio (by decide) hn h1 h2 ?_ (own_dy_sign h)
  rw [Nat.mul_one]; exact own_dy_abs h
theorem own_pow_cancel {a b x y : Nat} {u : Int} (h : a * 2 ^ x = b * 2 ^ y) (hu : u = (x : Int) - y) : a * 2 ^ u.toNat = b * 2 ^ (-u).toNat := by
  have hx : x = u.toNat + min x y := by omega
  have hy : y = (-u).toNat + min x y := by omega
  generalize u.toNat = v at *
  generalize (-u).toNat = w at *
  generalize min x y = t at hx hy
  subst hx hy
  rw [Nat.pow_add, Nat.pow_add, ← Nat.mul_assoc, ← Nat.mul_assoc] at h
  exact Nat.eq_of_mul_eq_mul_right (Nat.two_pow_pos t) h
/-- an exact quotient -/
theorem own_dy_quot {r m k l : Int} {x y : Datum} (hm : m ≠ 0) (hn : r.natAbs ≤ 2 ^ 53) (h1 : -1074 ≤ k) (h2 : k ≤ 970) (hx : own_Dy (r * m) (k + l) x) (hy : own_Dy m l y) : own_Dy r k (quotient b64 x y) := by
  obtain ⟨s, c, q, rfl⟩ := own_dy_fin hx
  obtain ⟨t, d, q', rfl⟩ := own_dy_fin hy
  have ha := own_dy_abs hx
  have hb := own_dy_abs hy
  have hd : d ≠ 0 := by
    rintro rfl
    rw [Nat.zero_mul] at hb
    rcases Nat.mul_eq_zero.mp hb.symm with h | h
    · exact hm (Int.natAbs_eq_zero.mp h)
    · have := Nat.two_pow_pos (l - q').toNat; omega
  show own_Dy r k (if d = 0 then _ else _)
  rw [if_neg hd]
  refine own_dy_roundRatio (Nat.pos_of_ne_zero hd) hn h1 h2 ?_ fun h0 => ?_
  · rw [Int.natAbs_mul] at ha
    have e1 : (q - q' - k) = (((q - (k + l)).toNat + (l - q').toNat : Nat) : Int) - (((k + l - q).toNat + (q' - l).toNat : Nat) : Int) := by omega
    have e2 : k - (q - q') = -(q - q' - k) := by omega
    rw [e2]
    refine own_pow_cancel (x := (q - (k + l)).toNat + (l - q').toNat) (y := (k + l - q).toNat + (q' - l).toNat) ?_ e1
    calc c * 2 ^ ((q - (k + l)).toNat + (l - q').toNat) = (c * 2 ^ (q - (k + l)).toNat) * 2 ^ (l - q').toNat := by rw [Nat.pow_add, Nat.mul_assoc]
      _ = r.natAbs * (m.natAbs * 2 ^ (l - q').toNat) * 2 ^ (k + l - q).toNat := by rw [ha]; ac_rfl
      _ = r.natAbs * d * 2 ^ ((k + l - q).toNat + (q' - l).toNat) := by rw [← hb, Nat.pow_add]; ac_rfl
  · have h3 : r * m ≠ 0 := fun h => (Int.mul_eq_zero.mp h).elim h0 hm
    rw [own_dy_sign hx h3, own_dy_sign hy hm]
    rcases Int.lt_or_gt_of_ne h0 with a | a <;> rcases Int.lt_or_gt_of_ne hm with b | b
    · have := Int.mul_pos_of_neg_of_neg a b; simp [a, b]; omega
    · have := Int.mul_neg_of_neg_of_pos a b; simp [a, this]; omega
    · have := Int.mul_neg_of_pos_of_neg a b; simp [b, this]; omega
    · have := Int.mul_pos a b; simp [show ¬ r < 0 by omega, show ¬ m < 0 by omega]; omega
theorem own_dy_unscale {n k : Int} {x : Datum} (j : Nat) (h : own_Dy (n * ((2 ^ j : Nat) : Int)) k x) : own_Dy n (k + j) x := by
  obtain ⟨s, c, q, rfl⟩ := own_dy_fin h
  have p : 0 < 2 ^ j := Nat.two_pow_pos j
  have p' : (0 : Int) < ((2 ^ j : Nat) : Int) := by omega
  refine own_dy_mk ?_ fun h0 => ?_
  · have ha := own_dy_abs h
    rw [Int.natAbs_mul, Int.natAbs_natCast] at ha
    have e1 : (q - (k + (j : Int))) = (((q - k).toNat : Nat) : Int) - (((k - q).toNat + j : Nat) : Int) := by omega
    have e2 : k + (j : Int) - q = -(q - (k + (j : Int))) := by omega
    rw [e2]
    refine own_pow_cancel (x := (q - k).toNat) (y := (k - q).toNat + j) ?_ e1
    rw [ha, Nat.pow_add]; ac_rfl
  · have hn : n * ((2 ^ j : Nat) : Int) ≠ 0 := fun h => (Int.mul_eq_zero.mp h).elim h0 (by omega)
    rw [own_dy_sign h hn, decide_eq_decide]
    constructor
    · intro hl; exact Int.lt_of_not_ge fun hg => by have := Int.mul_nonneg hg (Int.le_of_lt p'); omega
    · intro hl; exact Int.mul_neg_of_neg_of_pos hl p'
/-- the number in units of 2^e -/
theorem own_dy_units {n k q e : Int} {s : Bool} {c : Nat} (h : own_Dy n k (.fin s c q)) (h1 : e ≤ k) (h2 : e ≤ q) : signed s (inUnits c q e) = n * ((2 ^ (k - e).toNat : Nat) : Int) := by
  have ha := own_dy_abs h
  have e1 : inUnits c q e = n.natAbs * 2 ^ (k - e).toNat := by
    unfold inUnits
    refine Nat.eq_of_mul_eq_mul_right (Nat.two_pow_pos (k - q).toNat) ?_
    calc c * 2 ^ (q - e).toNat * 2 ^ (k - q).toNat = (c * 2 ^ (q - k).toNat) * 2 ^ (k - e).toNat := by
          rw [Nat.mul_assoc, ← Nat.pow_add, Nat.mul_assoc, ← Nat.pow_add]; congr 2; omega
      _ = n.natAbs * 2 ^ (k - e).toNat * 2 ^ (k - q).toNat := by rw [ha]; ac_rfl
  rw [e1, signed_mul]
  congr 1
  by_cases h0 : n = 0
  · subst h0; simp [signed]
  · rw [own_dy_sign h h0]
    unfold signed
    by_cases hl : n < 0 <;> simp [hl] <;> omega
theorem own_pow_split (n : Int) {k e : Int} (h1 : -1074 ≤ k) (h2 : e ≤ -1074) : n * ((2 ^ (k - e).toNat : Nat) : Int) = n * ((2 ^ (k + 1074).toNat : Nat) : Int) * ((2 ^ (b64.qmin - e).toNat : Nat) : Int) := by
  have hm : b64.qmin = -1074 := by decide
  rw [hm, Int.mul_assoc, ← Int.natCast_mul, ← Nat.pow_add]
  congr 4
  omega
/-- rounding is monotone -/
theorem own_round_le {n k w : Int} {d V : Datum} (h : own_Dy n k d) (h1 : -1074 ≤ k) (hV : Core.fits b64 V) (hn : V ≠ .nan) (hz : zval b64 V = w) (hw : n * ((2 ^ (k + 1074).toNat : Nat) : Int) ≤ w) : zval b64 (round b64 d) ≤ w := by
  obtain ⟨s, c, q, rfl⟩ := own_dy_fin h
  have hm : b64.qmin = -1074 := by decide
  have p := Nat.two_pow_pos (b64.qmin - min (-1074) q).toNat
  rw [← hz]
  refine zval_round_le good_b64 hV hn (e0 := min (-1074) q) (by omega) (by omega) ?_
  rw [own_dy_units h (by omega) (by omega), own_pow_split n h1 (by omega), hz]
  exact Int.mul_le_mul_of_nonneg_right hw (by omega)
theorem own_round_ge {n k w : Int} {d V : Datum} (h : own_Dy n k d) (h1 : -1074 ≤ k) (hV : Core.fits b64 V) (hn : V ≠ .nan) (hz : zval b64 V = w) (hw : w ≤ n * ((2 ^ (k + 1074).toNat : Nat) : Int)) : w ≤ zval b64 (round b64 d) := by
  obtain ⟨s, c, q, rfl⟩ := own_dy_fin h
  have hm : b64.qmin = -1074 := by decide
  have p := Nat.two_pow_pos (b64.qmin - min (-1074) q).toNat
  rw [← hz]
  refine zval_round_ge good_b64 hV hn (e0 := min (-1074) q) (by omega) (by omega) ?_
  rw [own_dy_units h (by omega) (by omega), own_pow_split n h1 (by omega), hz]
  exact Int.mul_le_mul_of_nonneg_right hw (by omega)
/-! ### on doubles -/
def own_D (n k : Int) (a : UInt64) : Prop := own_Dy n k (val64 a)
theorem own_d_int {n : Int} {a : UInt64} : own_D n 0 a ↔ DInt n a := own_dy0
theorem own_d_ne {n k : Int} {a : UInt64} (h : own_D n k a) : val64 a ≠ .nan := by
  obtain ⟨s, c, q, e⟩ := own_dy_fin h; rw [e]; exact Datum.noConfusion
theorem own_d_no {n k : Int} {a : UInt64} (h : own_D n k a) : Jvm.Free.Fl.NoNaN64 a := Jvm.Free.Fl.val64_no.mpr (own_d_ne h)
theorem own_d_scale {n k : Int} {a : UInt64} (h : own_D n k a) (j : Nat) : own_D (n * ((2 ^ j : Nat) : Int)) (k - j) a := own_dy_scale h j
theorem own_d_add {n m k : Int} {a b : UInt64} (ha : own_D n k a) (hb : own_D m k b) (hn : (n + m).natAbs ≤ 2 ^ 53) (h1 : -1074 ≤ k) (h2 : k ≤ 970) : own_D (n + m) k (FP.dadd a b) := by
  unfold own_D; rw [show FP.dadd a b = Core.dadd a b from rfl, val64_dadd]; exact own_dy_round hn h1 h2 (own_dy_sum ha hb)
theorem own_d_sub {n m k : Int} {a b : UInt64} (ha : own_D n k a) (hb : own_D m k b) (hn : (n - m).natAbs ≤ 2 ^ 53) (h1 : -1074 ≤ k) (h2 : k ≤ 970) : own_D (n - m) k (FP.dsub a b) := by
  unfold own_D; rw [show FP.dsub a b = Core.dsub a b from rfl, val64_dsub]; exact own_dy_round hn h1 h2 (own_dy_sum ha (own_dy_neg hb))
theorem own_d_mul {n m k l : Int} {a b : UInt64} (ha : own_D n k a) (hb : own_D m l b) (hn : (n * m).natAbs ≤ 2 ^ 53) (h1 : -1074 ≤ k + l) (h2 : k + l ≤ 970) : own_D (n * m) (k + l) (FP.dmul a b) := by
  unfold own_D; rw [show FP.dmul a b = Core.dmul a b from rfl, val64_dmul]; exact own_dy_round hn h1 h2 (own_dy_prod ha hb)
theorem own_d_div {r m k l : Int} {a b : UInt64} (hm : m ≠ 0) (ha : own_D (r * m) (k + l) a) (hb : own_D m l b) (hn : r.natAbs ≤ 2 ^ 53) (h1 : -1074 ≤ k) (h2 : k ≤ 970) : own_D r k (FP.ddiv a b) := by
  unfold own_D; rw [show FP.ddiv a b = Core.ddiv a b from rfl, val64_ddiv]; exact own_dy_quot hm hn h1 h2 ha hb
theorem own_d_neg {n k : Int} {a : UInt64} (ha : own_D n k a) : own_D (-n) k (FP.dneg a) := by
  unfold own_D; rw [FP.val64_dneg]; exact own_dy_neg ha
theorem own_d_cmp {n m k : Int} {a b : UInt64} (ha : own_D n k a) (hb : own_D m k b) : FP.dcmp a b = some (compare n m) := own_dy_order ha hb
theorem own_d_i2d (x : Int32) : own_D x.toInt 0 (FP.i2d x) := own_d_int.mpr (i2d_int x)
theorem own_d_l2d {x : Int64} (h : x.toInt.natAbs ≤ 2 ^ 53) : own_D x.toInt 0 (FP.l2d x) := own_d_int.mpr (l2d_int h)
theorem own_d_unscale {n k : Int} {a : UInt64} (j : Nat) (h : own_D (n * ((2 ^ j : Nat) : Int)) k a) : own_D n (k + j) a := own_dy_unscale j h
theorem own_d_zv {n k : Int} {a : UInt64} (h : own_D n k a) (h1 : -1074 ≤ k) : zval b64 (val64 a) = n * ((2 ^ (k + 1074).toNat : Nat) : Int) := by
  obtain ⟨s, c, q, e⟩ := own_dy_fin h
  have hf := val64_fits a
  unfold own_D at h
  rw [e] at h hf ⊢
  have hm : b64.qmin = -1074 := by decide
  have := own_dy_units h (e := b64.qmin) (by omega) (by have := hf.2.1; omega)
  show signed s (inUnits c q b64.qmin) = _
  rw [this, hm]
  congr 4
theorem own_cmp_eq (n : Int) : compare n n = .eq := by simp [compare, compareOfLessAndEq]
theorem own_cmp0 {r : Option Ordering} {op : CmpOp} : cmpValue r op = 0 ↔ r = some .eq := by
  rcases r with _ | o
  · cases op <;> simp [cmpValue] <;> decide
  · cases o <;> simp [cmpValue]
theorem own_d_of {n k q : Int} {s : Bool} {c : Nat} {a : UInt64} (h : val64 a = .fin s c q) (h' : c * 2 ^ (q - k).toNat = n.natAbs * 2 ^ (k - q).toNat) (hs : n = 0 ∨ s = decide (n < 0)) : own_D n k a := by
  unfold own_D; rw [h]; exact own_dy_mk h' fun h0 => hs.resolve_left h0
theorem own_d_0 {k l : Int} {a : UInt64} (h : own_D 0 k a) : own_D 0 l a := by
  obtain ⟨s, c, q, e⟩ := own_dy_fin h
  unfold own_D at h ⊢
  rw [e] at h ⊢
  have := own_dy_abs h
  refine own_dy_mk ?_ fun h0 => absurd rfl h0
  have p := Nat.two_pow_pos (q - k).toNat
  rw [show (0 : Int).natAbs = 0 from rfl, Nat.zero_mul] at this
  rcases Nat.mul_eq_zero.mp this with h | h
  · rw [h]; simp
  · omega
theorem own_d_zero : own_D 0 0 FP.dconst0 := own_d_of (s := false) (c := 0) (q := -1074) (by decide +kernel) (by decide +kernel) (Or.inl rfl)
theorem own_d_one : own_D 1 0 FP.dconst1 := own_d_of (s := false) (c := 4503599627370496) (q := -52) (by decide +kernel) (by decide +kernel) (Or.inr rfl)
end OwnDy
section OwnRint
open Jvm.FP Jvm.FP.Core
theorem own_dy_zv {n k : Int} {V : Datum} (h : own_Dy n k V) (hf : Core.fits b64 V) (h1 : -1074 ≤ k) : zval b64 V = n * ((2 ^ (k + 1074).toNat : Nat) : Int) := by
  obtain ⟨s, c, q, rfl⟩ := own_dy_fin h
  have hm : b64.qmin = -1074 := by decide
  have := own_dy_units h (e := b64.qmin) (by omega) (by have := hf.2.1; omega)
  show signed s (inUnits c q b64.qmin) = _
  rw [this, hm]
  congr 4
theorem own_dy_ex (n k : Int) (hn : n.natAbs ≤ 2 ^ 53) (h1 : -1074 ≤ k) (h2 : k ≤ 970) : ∃ V, own_Dy n k V ∧ Core.fits b64 V ∧ V ≠ .nan := by
  obtain ⟨c, q, hf, hv⟩ := own_fit (n := n.natAbs) (k := k) (decide (n < 0)) hn h1 (by omega) (fun _ => h2)
  refine ⟨.fin (decide (n < 0)) c q, own_dy_mk ?_ (fun _ => rfl), hf, Datum.noConfusion⟩
  rw [Nat.mul_one] at hv
  exact hv.symm
theorem own_big_whole {d : Datum} (hf : Core.fits b64 d) (hn : d ≠ .nan) (h1 : ((2 ^ 53 : Nat) : Int) * ((2 ^ 1074 : Nat) : Int) ≤ (zval b64 d).natAbs) (h2 : ((zval b64 d).natAbs : Int) < ((2 ^ 2098 : Nat) : Int)) : ∃ N : Int, Whole N d ∧ zval b64 d = N * ((2 ^ 1074 : Nat) : Int) := by
  cases d with
  | nan => exact absurd rfl hn
  | inf s =>
    exfalso
    have e : (zval b64 (.inf s)).natAbs = 2 ^ 2098 := by cases s <;> decide +kernel
    rw [e] at h2
    exact Int.lt_irrefl _ h2
  | fin s c q =>
    have hz : zval b64 (.fin s c q) = signed s (c * 2 ^ (q + 1074).toNat) := by
      show signed s (inUnits c q b64.qmin) = _
      unfold inUnits
      rw [show b64.qmin = -1074 by decide, show q - -1074 = q + 1074 by omega]
    rw [hz, natAbs_signed] at h1
    have hc : c < 2 ^ 53 := hf.1
    have hq1 : -1074 ≤ q := by have := hf.2.1; rw [show b64.qmin = -1074 by decide] at this; exact this
    have hq : 0 ≤ q := by
      refine Int.not_lt.mp fun hlt => ?_
      have hp : (2 ^ (q + 1074).toNat : Nat) ≤ 2 ^ 1074 := Nat.pow_le_pow_right (by decide) (by omega)
      have p0 : 0 < (2 ^ 1074 : Nat) := Nat.two_pow_pos _
      have h3 : c * 2 ^ (q + 1074).toNat ≤ c * 2 ^ 1074 := Nat.mul_le_mul_left _ hp
      have h4 : c * 2 ^ 1074 < 2 ^ 53 * 2 ^ 1074 := Nat.mul_lt_mul_of_pos_right hc p0
      have h5 : 2 ^ 53 * 2 ^ 1074 ≤ c * 2 ^ (q + 1074).toNat := by
        have := h1
        rw [← Int.natCast_mul] at this
        exact Int.ofNat_le.mp this
      exact absurd (Nat.lt_of_le_of_lt (Nat.le_trans h5 h3) h4) (Nat.lt_irrefl _)
    refine ⟨signed s (c * 2 ^ q.toNat), ?_, ?_⟩
    · show signed s (c * 2 ^ q.toNat) = signed s (c * 2 ^ q.toNat) * ((2 ^ (-q).toNat : Nat) : Int)
      rw [show (-q).toNat = 0 by omega]; simp
    · rw [hz, ← signed_mul, Nat.mul_assoc, ← Nat.pow_add]
      congr 3
      omega
theorem own_pow_1086 : ((2 ^ 1086 : Nat) : Int) = 4096 * ((2 ^ 1074 : Nat) : Int) := by
  rw [show (4096 : Int) = ((2 ^ 12 : Nat) : Int) by decide, ← Int.natCast_mul, ← Nat.pow_add]
/-- a whole number of up to 64 digits rounds to a whole number near it; the same whatever its datum -/
theorem own_round_int (n : Int) (hn : n.natAbs ≤ 2 ^ 64) : ∃ N : Int, (N - n).natAbs ≤ 4096 ∧ (n.natAbs ≤ 2 ^ 53 → N = n) ∧ ∀ d, Whole n d → Whole N (round b64 d) := by
  by_cases hs : n.natAbs ≤ 2 ^ 53
  · exact ⟨n, by simp, fun _ => rfl, fun d h => whole_round good_b64 wide_b64 hs h⟩
  have p0 : (0 : Int) < ((2 ^ 1074 : Nat) : Int) := by have := Nat.two_pow_pos 1074; omega
  have h0 : own_Dy n 0 (ofInt n) := own_dy0.mpr (whole_ofInt n)
  have hval : n * ((2 ^ ((0 : Int) + 1074).toNat : Nat) : Int) = n * ((2 ^ 1074 : Nat) : Int) := rfl
  -- the bounds
  have lo : (n / 4096) * 4096 * ((2 ^ 1074 : Nat) : Int) ≤ zval b64 (round b64 (ofInt n)) := by
    obtain ⟨V, hV, hVf, hVn⟩ := own_dy_ex (n / 4096) 12 (by omega) (by decide) (by decide)
    have hz := own_dy_zv hV hVf (by decide)
    rw [show ((12 : Int) + 1074).toNat = 1086 from rfl, own_pow_1086, ← Int.mul_assoc] at hz
    refine own_round_ge h0 (by decide) hVf hVn hz ?_
    rw [hval]
    exact Int.mul_le_mul_of_nonneg_right (by omega) (by omega)
  have hi : zval b64 (round b64 (ofInt n)) ≤ (n / 4096 + 1) * 4096 * ((2 ^ 1074 : Nat) : Int) := by
    obtain ⟨V, hV, hVf, hVn⟩ := own_dy_ex (n / 4096 + 1) 12 (by omega) (by decide) (by decide)
    have hz := own_dy_zv hV hVf (by decide)
    rw [show ((12 : Int) + 1074).toNat = 1086 from rfl, own_pow_1086, ← Int.mul_assoc] at hz
    refine own_round_le h0 (by decide) hVf hVn hz ?_
    rw [hval]
    exact Int.mul_le_mul_of_nonneg_right (by omega) (by omega)
  have hfar : ((2 ^ 53 : Nat) : Int) * ((2 ^ 1074 : Nat) : Int) ≤ (zval b64 (round b64 (ofInt n))).natAbs := by
    by_cases hp : 0 ≤ n
    · have : ((2 ^ 53 : Nat) : Int) * ((2 ^ 1074 : Nat) : Int) ≤ (n / 4096) * 4096 * ((2 ^ 1074 : Nat) : Int) := Int.mul_le_mul_of_nonneg_right (by omega) (by omega)
      omega
    · have : (n / 4096 + 1) * 4096 * ((2 ^ 1074 : Nat) : Int) ≤ -((2 ^ 53 : Nat) : Int) * ((2 ^ 1074 : Nat) : Int) := Int.mul_le_mul_of_nonneg_right (by omega) (by omega)
      rw [Int.neg_mul] at this
      omega
  have hnear : ((zval b64 (round b64 (ofInt n))).natAbs : Int) < ((2 ^ 2098 : Nat) : Int) := by
    have e : (36893488147419103232 : Int) * ((2 ^ 1074 : Nat) : Int) < ((2 ^ 2098 : Nat) : Int) := by decide +kernel
    have l1 : -36893488147419103232 * ((2 ^ 1074 : Nat) : Int) ≤ (n / 4096) * 4096 * ((2 ^ 1074 : Nat) : Int) := Int.mul_le_mul_of_nonneg_right (by omega) (by omega)
    have l2 : (n / 4096 + 1) * 4096 * ((2 ^ 1074 : Nat) : Int) ≤ 36893488147419103232 * ((2 ^ 1074 : Nat) : Int) := Int.mul_le_mul_of_nonneg_right (by omega) (by omega)
    rw [Int.neg_mul] at l1
    generalize ((2 ^ 2098 : Nat) : Int) = Q at *
    omega
  have hne : round b64 (ofInt n) ≠ .nan := roundRatio_ne_nan _ _ _ _ _
  obtain ⟨N, hN, hNz⟩ := own_big_whole (round_fits good_b64 _) hne hfar hnear
  rw [hNz] at lo hi
  have l1 := Int.le_of_mul_le_mul_right lo p0
  have l2 := Int.le_of_mul_le_mul_right hi p0
  refine ⟨N, by omega, fun h => absurd h hs, fun d hd => ?_⟩
  have hn0 : n ≠ 0 := by rintro rfl; exact hs (by decide)
  cases d with
  | nan => exact hd.elim
  | inf => exact hd.elim
  | fin s c q =>
    rw [round_whole hd, whole_sign hd hn0]
    have : round b64 (ofInt n) = roundRatio b64 (decide (n < 0)) n.natAbs 1 0 := rfl
    rw [← this]
    exact hN
theorem own_whole_inj {i j : Int} {d : Datum} (h1 : Whole i d) (h2 : Whole j d) : i = j := by
  have := order_whole h1 h2
  have h3 := order_whole h1 h1
  rw [this, own_cmp_eq] at h3
  exact Int.compare_eq_eq.mp (Option.some.inj h3)
/-- where the number is a double already -/
theorem own_round_rep {n : Int} {a : UInt64} (h : DInt n a) {d : Datum} (hd : Whole n d) (hn : n.natAbs ≤ 2 ^ 64) : Whole n (round b64 d) := by
  obtain ⟨N, -, -, hN⟩ := own_round_int n hn
  have h1 := hN _ h
  rw [round_of_fits good_b64 (val64_fits a)] at h1
  have := own_whole_inj h h1
  subst this
  exact hN _ hd
theorem own_dint_no {n : Int} {a : UInt64} (h : DInt n a) : Jvm.Free.Fl.NoNaN64 a := own_d_no (own_d_int.mpr h)
theorem own_sub_rep {i j : Int} {a b r : UInt64} (ha : DInt i a) (hb : DInt j b) (hr : DInt (i - j) r) (hn : (i - j).natAbs ≤ 2 ^ 64) : DInt (i - j) (FP.dsub a b) := by
  unfold DInt
  rw [show FP.dsub a b = Core.dsub a b from rfl, val64_dsub]
  exact own_round_rep hr (whole_sum ha (whole_negate hb)) hn
theorem own_add_near {i j : Int} {a b : UInt64} (ha : DInt i a) (hb : DInt j b) (hn : (i + j).natAbs ≤ 2 ^ 64) : ∃ N : Int, (N - (i + j)).natAbs ≤ 4096 ∧ ((i + j).natAbs ≤ 2 ^ 53 → N = i + j) ∧ DInt N (FP.dadd a b) ∧ ∀ x : Int64, x.toInt = i + j → DInt N (FP.l2d x) := by
  obtain ⟨N, h1, h2, h3⟩ := own_round_int (i + j) hn
  refine ⟨N, h1, h2, ?_, fun x hx => ?_⟩
  · unfold DInt
    rw [show FP.dadd a b = Core.dadd a b from rfl, val64_dadd]
    exact h3 _ (whole_sum ha hb)
  · unfold DInt
    rw [show FP.l2d x = Core.l2d x from rfl, val64_l2d, hx]
    exact h3 _ (whole_ofInt _)
theorem own_sub_near {i j : Int} {a b : UInt64} (ha : DInt i a) (hb : DInt j b) (hn : (i - j).natAbs ≤ 2 ^ 64) : ∃ N : Int, (N - (i - j)).natAbs ≤ 4096 ∧ ((i - j).natAbs ≤ 2 ^ 53 → N = i - j) ∧ DInt N (FP.dsub a b) := by
  obtain ⟨N, h1, h2, h3⟩ := own_round_int (i - j) hn
  refine ⟨N, h1, h2, ?_⟩
  unfold DInt
  rw [show FP.dsub a b = Core.dsub a b from rfl, val64_dsub]
  exact h3 _ (whole_sum ha (whole_negate hb))
end OwnRint
section OwnTwo
open Jvm.FP Jvm.FP.Core
def own_ra (a b r : UInt64) : UInt64 := FP.dadd (FP.dsub a (FP.dsub r (FP.dsub r a))) (FP.dsub b (FP.dsub r a))
def own_raOK (a b r : UInt64) : Prop := Jvm.Free.Fl.NoNaN64 (FP.dsub r a) ∧ Jvm.Free.Fl.NoNaN64 (FP.dsub r (FP.dsub r a)) ∧ Jvm.Free.Fl.NoNaN64 (FP.dsub a (FP.dsub r (FP.dsub r a))) ∧ Jvm.Free.Fl.NoNaN64 (FP.dsub b (FP.dsub r a)) ∧ Jvm.Free.Fl.NoNaN64 (own_ra a b r)
theorem own_near_rep {n N : Int} (h : ∀ d, Whole n d → Whole N (round b64 d)) {r : UInt64} (hr : DInt n r) : N = n := by
  have h1 := h _ hr
  rw [round_of_fits good_b64 (val64_fits r)] at h1
  exact own_whole_inj h1 hr
theorem own_add_near' {i j : Int} {a b : UInt64} (ha : DInt i a) (hb : DInt j b) (hn : (i + j).natAbs ≤ 2 ^ 64) : ∃ N : Int, (N - (i + j)).natAbs ≤ 4096 ∧ ((i + j).natAbs ≤ 2 ^ 53 → N = i + j) ∧ DInt N (FP.dadd a b) ∧ ∀ r, DInt (i + j) r → N = i + j := by
  obtain ⟨N, h1, h2, h3⟩ := own_round_int (i + j) hn
  refine ⟨N, h1, h2, ?_, fun r hr => own_near_rep h3 hr⟩
  unfold DInt
  rw [show FP.dadd a b = Core.dadd a b from rfl, val64_dadd]
  exact h3 _ (whole_sum ha hb)
set_option maxHeartbeats 4000000 in
theorem own_two {S T : Int} {s t : UInt64} (hs : DInt S s) (ht : DInt T t) (bS : S.natAbs ≤ 9223372045444710400) (bT : T.natAbs ≤ 9223372045444710400) (hc : S.natAbs ≤ 8589934592 ∨ T.natAbs ≤ 8589934592 ∨ (S + T).natAbs ≤ 9007199254740992) :
    ∃ N : Int, DInt N (FP.dadd s t) ∧ (N - (S + T)).natAbs ≤ 4096 ∧ ((S + T).natAbs ≤ 2 ^ 53 → N = S + T) ∧ (∀ r, DInt (S + T) r → N = S + T) ∧ own_raOK s t (FP.dadd s t) ∧ DInt (S + T - N) (own_ra s t (FP.dadd s t)) := by
  have hst : (S + T).natAbs ≤ 2 ^ 64 := by rcases hc with h | h | h <;> omega
  obtain ⟨N, n1, n2, n3, n4⟩ := own_add_near' hs ht hst
  refine ⟨N, n3, n1, n2, n4, ?_⟩
  unfold own_raOK own_ra
  generalize FP.dadd s t = n at *
  rcases hc with hc | hc | hc
  · obtain ⟨F, f1, -, f2⟩ := own_sub_near n3 hs (by omega)
    generalize FP.dsub n s = f at *
    have h1 : DInt (N - F) (FP.dsub n f) := dsub_int n3 f2 (by omega)
    have h2 : DInt (S - (N - F)) (FP.dsub s (FP.dsub n f)) := dsub_int hs h1 (by omega)
    have h3 : DInt (T - F) (FP.dsub t f) := dsub_int ht f2 (by omega)
    have h4 : DInt (S - (N - F) + (T - F)) (FP.dadd (FP.dsub s (FP.dsub n f)) (FP.dsub t f)) := dadd_int h2 h3 (by omega)
    rw [show S - (N - F) + (T - F) = S + T - N by omega] at h4
    exact ⟨⟨own_dint_no f2, own_dint_no h1, own_dint_no h2, own_dint_no h3, own_dint_no h4⟩, h4⟩
  · have f2 : DInt (N - S) (FP.dsub n s) := dsub_int n3 hs (by omega)
    generalize FP.dsub n s = f at *
    have h1 : DInt (N - (N - S)) (FP.dsub n f) := own_sub_rep n3 f2 (r := s) (by rw [show N - (N - S) = S by omega]; exact hs) (by omega)
    have h2 : DInt (S - (N - (N - S))) (FP.dsub s (FP.dsub n f)) := dsub_int hs h1 (by omega)
    have h3 : DInt (T - (N - S)) (FP.dsub t f) := dsub_int ht f2 (by omega)
    have h4 : DInt (S - (N - (N - S)) + (T - (N - S))) (FP.dadd (FP.dsub s (FP.dsub n f)) (FP.dsub t f)) := dadd_int h2 h3 (by omega)
    rw [show S - (N - (N - S)) + (T - (N - S)) = S + T - N by omega] at h4
    exact ⟨⟨own_dint_no f2, own_dint_no h1, own_dint_no h2, own_dint_no h3, own_dint_no h4⟩, h4⟩
  · have e := n2 (by omega)
    subst e
    have f2 : DInt (S + T - S) (FP.dsub n s) := own_sub_rep n3 hs (r := t) (by rw [show S + T - S = T by omega]; exact ht) (by omega)
    generalize FP.dsub n s = f at *
    have h1 : DInt (S + T - (S + T - S)) (FP.dsub n f) := own_sub_rep n3 f2 (r := s) (by rw [show S + T - (S + T - S) = S by omega]; exact hs) (by omega)
    have h2 : DInt (S - (S + T - (S + T - S))) (FP.dsub s (FP.dsub n f)) := dsub_int hs h1 (by omega)
    have h3 : DInt (T - (S + T - S)) (FP.dsub t f) := dsub_int ht f2 (by omega)
    have h4 : DInt (S - (S + T - (S + T - S)) + (T - (S + T - S))) (FP.dadd (FP.dsub s (FP.dsub n f)) (FP.dsub t f)) := dadd_int h2 h3 (by omega)
    rw [show S - (S + T - (S + T - S)) + (T - (S + T - S)) = S + T - (S + T) by omega] at h4
    exact ⟨⟨own_dint_no f2, own_dint_no h1, own_dint_no h2, own_dint_no h3, own_dint_no h4⟩, h4⟩
def own_ord (b : Int) (t1 t2 t3 : UInt64) : Prop := ∃ T1 T2 T3 : Int, DInt T1 t1 ∧ DInt T2 t2 ∧ DInt T3 t3 ∧ T1 + T2 + T3 = b ∧ T1.natAbs ≤ 9223372036854779904 ∧ T2.natAbs ≤ 9223372036854779904 ∧ T3.natAbs ≤ 9223372036854779904 ∧ (T1.natAbs ≤ 8589934592 ∨ T2.natAbs ≤ 8589934592 ∨ (T1 + T2).natAbs ≤ 9007199254740992)
theorem own_zero_int : DInt 0 (0 : UInt64) := own_d_int.mp own_d_zero
theorem own_big_int (a : Int64) : ∃ B : Int, DInt B (FP.l2d a) ∧ DInt (-B) (FP.dneg (FP.l2d a)) ∧ B.natAbs ≤ 9223372036854779904 := by
  have r := rng64 a
  obtain ⟨N, h1, -, h3⟩ := own_round_int a.toInt (by omega)
  have h : DInt N (FP.l2d a) := by
    unfold DInt
    rw [show FP.l2d a = Core.l2d a from rfl, val64_l2d]
    exact h3 _ (whole_ofInt _)
  exact ⟨N, h, own_d_int.mp (own_d_neg (own_d_int.mpr h)), by omega⟩
set_option maxHeartbeats 4000000 in
theorem own_dd {b : Int} {t1 t2 t3 : UInt64} (hb : b.natAbs ≤ 2147483648) (h : own_ord b t1 t2 t3) :
    ∃ n1 e1 n2 e2 n3 e3 : UInt64, (n1 = FP.dadd 0 t1 ∧ e1 = FP.dadd 0 (own_ra 0 t1 n1) ∧ Jvm.Free.Fl.NoNaN64 n1 ∧ own_raOK 0 t1 n1 ∧ Jvm.Free.Fl.NoNaN64 e1) ∧
      (n2 = FP.dadd n1 t2 ∧ e2 = FP.dadd e1 (own_ra n1 t2 n2) ∧ Jvm.Free.Fl.NoNaN64 n2 ∧ own_raOK n1 t2 n2 ∧ Jvm.Free.Fl.NoNaN64 e2) ∧
      (n3 = FP.dadd n2 t3 ∧ e3 = FP.dadd e2 (own_ra n2 t3 n3) ∧ Jvm.Free.Fl.NoNaN64 n3 ∧ own_raOK n2 t3 n3 ∧ Jvm.Free.Fl.NoNaN64 e3) ∧ DInt b (FP.dadd n3 e3) := by
  obtain ⟨T1, T2, T3, h1, h2, h3, hs, b1, b2, b3, hc⟩ := h
  obtain ⟨N1, a1, -, -, a4, a5, a6⟩ := own_two own_zero_int h1 (by omega) (by omega) (Or.inl (by decide))
  have e1 := a4 t1 (by rw [Int.zero_add]; exact h1)
  rw [Int.zero_add] at e1 a6
  subst e1
  have c1 : DInt (0 + (N1 - N1)) (FP.dadd 0 (own_ra 0 t1 (FP.dadd 0 t1))) := dadd_int own_zero_int a6 (by omega)
  obtain ⟨N2, p1, p2, -, -, p5, p6⟩ := own_two a1 h2 (by omega) (by omega) hc
  have c2 : DInt (0 + (N1 - N1) + (N1 + T2 - N2)) (FP.dadd (FP.dadd 0 (own_ra 0 t1 (FP.dadd 0 t1))) (own_ra (FP.dadd 0 t1) t2 (FP.dadd (FP.dadd 0 t1) t2))) := dadd_int c1 p6 (by omega)
  obtain ⟨N3, q1, -, q3, -, q5, q6⟩ := own_two p1 h3 (by omega) (by omega) (Or.inr (Or.inr (by omega)))
  have e3 := q3 (by omega)
  have c3 : DInt (0 + (N1 - N1) + (N1 + T2 - N2) + (N2 + T3 - N3)) _ := dadd_int c2 q6 (by omega)
  have c4 := dadd_int q1 c3 (by omega)
  rw [show N3 + (0 + (N1 - N1) + (N1 + T2 - N2) + (N2 + T3 - N3)) = b by omega] at c4
  exact ⟨_, _, _, _, _, _, ⟨rfl, rfl, own_dint_no a1, a5, own_dint_no c1⟩, ⟨rfl, rfl, own_dint_no p1, p5, own_dint_no c2⟩, ⟨rfl, rfl, own_dint_no q1, q5, own_dint_no c3⟩, c4⟩
end OwnTwo
theorem own_pd___V : parseMethodDescriptor "()V" = some ⟨[], none⟩ := by decide +kernel
theorem own_pd__D_V : parseMethodDescriptor "(D)V" = some ⟨[.double], none⟩ := by decide +kernel
theorem own_pd___D : parseMethodDescriptor "()D" = some ⟨[], some .double⟩ := by decide +kernel
theorem own_pd__DDD_D : parseMethodDescriptor "(DDD)D" = some ⟨[.double, .double, .double], some .double⟩ := by decide +kernel
theorem d1_0 : decode prog_13_method_1_code 0 = .ok (.aload_n 0, 1) := by decide +kernel
theorem d1_1 : decode prog_13_method_1_code 1 = .ok (.invokespecial 1, 3) := by decide +kernel
theorem d1_4 : decode prog_13_method_1_code 4 = .ok (.return_, 1) := by decide +kernel
theorem own_pn_com_example_meticulous_ballot_meticulousballot_DoubleDoubleSum : plainName "com/example/meticulous_ballot/meticulousballot/DoubleDoubleSum" = true := by first | (simp [plainName, overriddenIn]; done) | decide +kernel
theorem own_ef1 (m : MethodId) (x0 : Addr) : entryFrame m #[(.ref x0)] 1 = mkF m 0 #[.val (.ref x0)] [] := by first | (simp [entryFrame, mkF, argsToLocals, Value.category]; done) | rfl
def Q2 (h0 : Heap) (n0 : Nat) (v : Option Value) (h : Heap) (L : List Loc) : Prop := v = none ∧ Fr n0 L ∧ h = h0
set_option maxRecDepth 65536 in
set_option maxHeartbeats 40000000 in
theorem rmI (l : Launch) (Z : State) (a0 : Array Value) (hw : ∀ d ∈ tables_1, d.before a0 Z = true) (ws : List Jvm.Cond) (a : Addr)  (h0 : Heap) (n0 : Nat) (Z0 : n0 ≤ h0.size)  :
    MetFree l (⟨"com/example/meticulous_ballot/meticulousballot/DoubleDoubleSum", "<init>", "()V"⟩ : MethodName) (head1 (Jvm.Cond.code (⟨"com/example/meticulous_ballot/meticulousballot/DoubleDoubleSum", "<init>", "()V"⟩ : MethodName) prog_13_method_1_code 1 none :: ws) ({ frames := 1, cells := 0, slots := 0, locals := 12 } : Room)) (fun α U => α = #[(.ref a)] ∧ Z.Warmed39 U.vm ∧ U.heap = h0) (fun _ _ _ _ _ => True) (fun _ U ω U' => ∃ ν Λ, ω = .returned ν ∧ Q2 h0 n0 ν U'.heap Λ ∧ FrameEnd U ω U' Λ ({ frames := 1, cells := 0, slots := 0, locals := 12 } : Room).cells ({ frames := 1, cells := 0, slots := 0, locals := 12 } : Room).slots) := by
  refine MetFree.of_bodySF (plainFor_of_name own_pn_com_example_meticulous_ballot_meticulousballot_DoubleDoubleSum) hisR ?_
  intro p e s m args below meth c s₁ Bd hml0 hP hK
  obtain ⟨rfl, hZ, hh⟩ := hP
  have hx := Bd.exec
  have hby := Bd.bytes
  have hml : c.maxLocals = 1 := hml0
  have hown : s.vm.findClass "com/example/meticulous_ballot/meticulousballot/DoubleDoubleSum" = some m.cls := findClass_of_methodNamed Bd.named
  have hnm := (name_of_methodNamed Bd.named Bd.method).1
  have X0 : Stand p l e ({ frames := 1, cells := 0, slots := 0, locals := 12 } : Room) s m #[(.ref a)] below meth c s₁ [] 0 0 := Stand.of_body Bd
  have e0 : s₁.heap = h0 := by rw [← hh, Bd.state]; rfl
  have N0 := Fr.nil n0
  have KK0 : Keep h0 h0 [] := Keep.refl h0 []
  have pre0 : ∀ τ, Steps p.tables e below (s₁.setTop (mkF m 0 #[.val (.ref a)] [])) τ → Steps p.tables e below (s₁.setTop (entryFrame m #[(.ref a)] 1)) τ := fun τ κ => castTop (own_ef1 m a) κ
  have pre1 : ∀ τ, Steps p.tables e below (s₁.setTop (mkF m 1 #[.val (.ref a)] [(.ref a)])) τ → Steps p.tables e below (s₁.setTop (entryFrame m #[(.ref a)] 1)) τ := fun τ kt => pre0 τ (by
    show Steps p.tables e below (s₁.setTop (mkF m 0 #[.val (.ref a)] [])) τ
    refine XS.aloadN X0.here hx rfl (hb hby d1_0) rfl rfl ?_
    exact kt)
  obtain ⟨T2, X2, e2, st2⟩ := initO X0 hx hZ hown (hw _ (List.mem_of_getElem? (i := 7) rfl)) (hw _ (List.mem_of_getElem? (i := 8) rfl)) (hw _ (List.mem_of_getElem? (i := 9) rfl)) e0 (g := (mkF m 1 #[.val (.ref a)] [(.ref a)])) rfl (by rw [hml]; rfl) rfl (hb hby d1_1) (by decide) (W := 0) (by show 2 * 0 + _ ≤ _; exact Nat.le_of_eq rfl) (by decide)
  have pre3 : ∀ τ, Steps p.tables e below (T2.setTop (mkF m 4 #[.val (.ref a)] [])) τ → Steps p.tables e below (s₁.setTop (entryFrame m #[(.ref a)] 1)) τ := fun τ kt => pre1 τ (st2 τ kt)
  obtain ⟨fs, hrL, hrun, hended, hW, hsame⟩ := X2.leave (v := none) (fun _ => rfl)
  refine ⟨_, _, pre3 _ ?_, hrun, hended, _, _, rfl, ?_, ⟨_, rfl⟩, hW, hsame.mono (by decide) (by decide)⟩
  · show Steps p.tables e below (T2.setTop (mkF m 4 #[.val (.ref a)] [])) _
    exact X2.returnOut hx Bd.returns (hb hby d1_4) hrL
  · show Q2 h0 n0 _ T2.heap _
    rw [e2]
    exact ⟨rfl, N0, rfl⟩
theorem d4_0 : decode prog_13_method_6_code 0 = .ok (.dload 4, 2) := by decide +kernel
theorem d4_2 : decode prog_13_method_6_code 2 = .ok (.dload_n 0, 1) := by decide +kernel
theorem d4_3 : decode prog_13_method_6_code 3 = .ok (.dsub, 1) := by decide +kernel
theorem d4_4 : decode prog_13_method_6_code 4 = .ok (.dstore 6, 2) := by decide +kernel
theorem d4_6 : decode prog_13_method_6_code 6 = .ok (.dload_n 0, 1) := by decide +kernel
theorem d4_7 : decode prog_13_method_6_code 7 = .ok (.dload 4, 2) := by decide +kernel
theorem d4_9 : decode prog_13_method_6_code 9 = .ok (.dload 6, 2) := by decide +kernel
theorem d4_11 : decode prog_13_method_6_code 11 = .ok (.dsub, 1) := by decide +kernel
theorem d4_12 : decode prog_13_method_6_code 12 = .ok (.dsub, 1) := by decide +kernel
theorem d4_13 : decode prog_13_method_6_code 13 = .ok (.dload_n 2, 1) := by decide +kernel
theorem d4_14 : decode prog_13_method_6_code 14 = .ok (.dload 6, 2) := by decide +kernel
theorem d4_16 : decode prog_13_method_6_code 16 = .ok (.dsub, 1) := by decide +kernel
theorem d4_17 : decode prog_13_method_6_code 17 = .ok (.dadd, 1) := by decide +kernel
theorem d4_18 : decode prog_13_method_6_code 18 = .ok (.dreturn, 1) := by decide +kernel
theorem own_ef4 (m : MethodId) (x0 : UInt64) (x1 : UInt64) (x2 : UInt64) : entryFrame m #[(.double x0), (.double x1), (.double x2)] 8 = mkF m 0 #[.val (.double x0), .second, .val (.double x1), .second, .val (.double x2), .second, .unset, .unset] [] := by first | (simp [entryFrame, mkF, argsToLocals, Value.category]; done) | rfl
def QR (z : UInt64) (h0 : Heap) (n0 : Nat) (v : Option Value) (h : Heap) (L : List Loc) : Prop := v = some (.double z) ∧ Fr n0 L ∧ h = h0
set_option maxRecDepth 65536 in
set_option maxHeartbeats 40000000 in
theorem rmR (l : Launch) (Z : State) (a0 : Array Value) (hw : ∀ d ∈ tables_1, d.before a0 Z = true) (ws : List Jvm.Cond) (a : UInt64) (b : UInt64) (r : UInt64)  (h0 : Heap) (n0 : Nat) (Z0 : n0 ≤ h0.size) (hk : own_raOK a b r) :
    MetFree l (⟨"com/example/meticulous_ballot/meticulousballot/DoubleDoubleSum", "roundedAway", "(DDD)D"⟩ : MethodName) (head1 (Jvm.Cond.code (⟨"com/example/meticulous_ballot/meticulousballot/DoubleDoubleSum", "roundedAway", "(DDD)D"⟩ : MethodName) prog_13_method_6_code 8 (some .double) :: ws) ({ frames := 0, cells := 0, slots := 0, locals := 0 } : Room)) (fun α U => α = #[(.double a), (.double b), (.double r)] ∧ Z.Warmed39 U.vm ∧ U.heap = h0) (fun _ _ _ _ _ => True) (fun _ U ω U' => ∃ ν Λ, ω = .returned ν ∧ QR (own_ra a b r) h0 n0 ν U'.heap Λ ∧ FrameEnd U ω U' Λ ({ frames := 0, cells := 0, slots := 0, locals := 0 } : Room).cells ({ frames := 0, cells := 0, slots := 0, locals := 0 } : Room).slots) := by
  refine MetFree.of_bodySF (plainFor_of_name own_pn_com_example_meticulous_ballot_meticulousballot_DoubleDoubleSum) hisR ?_
  intro p e s m args below meth c s₁ Bd hml0 hP hK
  obtain ⟨rfl, hZ, hh⟩ := hP
  have hx := Bd.exec
  have hby := Bd.bytes
  have hml : c.maxLocals = 8 := hml0
  have hown : s.vm.findClass "com/example/meticulous_ballot/meticulousballot/DoubleDoubleSum" = some m.cls := findClass_of_methodNamed Bd.named
  have hnm := (name_of_methodNamed Bd.named Bd.method).1
  have X0 : Stand p l e ({ frames := 0, cells := 0, slots := 0, locals := 0 } : Room) s m #[(.double a), (.double b), (.double r)] below meth c s₁ [] 0 0 := Stand.of_body Bd
  have e0 : s₁.heap = h0 := by rw [← hh, Bd.state]; rfl
  have N0 := Fr.nil n0
  have KK0 : Keep h0 h0 [] := Keep.refl h0 []
  have pre0 : ∀ τ, Steps p.tables e below (s₁.setTop (mkF m 0 #[.val (.double a), .second, .val (.double b), .second, .val (.double r), .second, .unset, .unset] [])) τ → Steps p.tables e below (s₁.setTop (entryFrame m #[(.double a), (.double b), (.double r)] 8)) τ := fun τ κ => castTop (own_ef4 m a b r) κ
  obtain ⟨k1, k2, k3, k4, k5⟩ := hk
  have pre4 : ∀ τ, Steps p.tables e below (s₁.setTop (mkF m 18 #[.val (.double a), .second, .val (.double b), .second, .val (.double r), .second, .val (.double (FP.dsub r a)), .second] [(.double (FP.dadd (FP.dsub a (FP.dsub r (FP.dsub r a))) (FP.dsub b (FP.dsub r a))))])) τ → Steps p.tables e below (s₁.setTop (entryFrame m #[(.double a), (.double b), (.double r)] 8)) τ := fun τ kt => pre0 τ (by
    show Steps p.tables e below (s₁.setTop (mkF m 0 #[.val (.double a), .second, .val (.double b), .second, .val (.double r), .second, .unset, .unset] [])) τ
    refine own_dload X0.here hx rfl (hb hby d4_0) rfl ?_
    show Steps p.tables e below (s₁.setTop (mkF m 2 #[.val (.double a), .second, .val (.double b), .second, .val (.double r), .second, .unset, .unset] [(.double r)])) τ
    refine own_dloadN X0.here hx rfl (hb hby d4_2) rfl ?_
    show Steps p.tables e below (s₁.setTop (mkF m 3 #[.val (.double a), .second, .val (.double b), .second, .val (.double r), .second, .unset, .unset] [(.double a), (.double r)])) τ
    refine own_dsub X0.here hx rfl (hb hby d4_3) rfl (k1) ?_
    show Steps p.tables e below (s₁.setTop (mkF m 4 #[.val (.double a), .second, .val (.double b), .second, .val (.double r), .second, .unset, .unset] [(.double (FP.dsub r a))])) τ
    refine own_dstore X0.here hx rfl (hb hby d4_4) rfl (l' := #[.val (.double a), .second, .val (.double b), .second, .val (.double r), .second, .val (.double (FP.dsub r a)), .second]) rfl ?_
    show Steps p.tables e below (s₁.setTop (mkF m 6 #[.val (.double a), .second, .val (.double b), .second, .val (.double r), .second, .val (.double (FP.dsub r a)), .second] [])) τ
    refine own_dloadN X0.here hx rfl (hb hby d4_6) rfl ?_
    show Steps p.tables e below (s₁.setTop (mkF m 7 #[.val (.double a), .second, .val (.double b), .second, .val (.double r), .second, .val (.double (FP.dsub r a)), .second] [(.double a)])) τ
    refine own_dload X0.here hx rfl (hb hby d4_7) rfl ?_
    show Steps p.tables e below (s₁.setTop (mkF m 9 #[.val (.double a), .second, .val (.double b), .second, .val (.double r), .second, .val (.double (FP.dsub r a)), .second] [(.double r), (.double a)])) τ
    refine own_dload X0.here hx rfl (hb hby d4_9) rfl ?_
    show Steps p.tables e below (s₁.setTop (mkF m 11 #[.val (.double a), .second, .val (.double b), .second, .val (.double r), .second, .val (.double (FP.dsub r a)), .second] [(.double (FP.dsub r a)), (.double r), (.double a)])) τ
    refine own_dsub X0.here hx rfl (hb hby d4_11) rfl (k2) ?_
    show Steps p.tables e below (s₁.setTop (mkF m 12 #[.val (.double a), .second, .val (.double b), .second, .val (.double r), .second, .val (.double (FP.dsub r a)), .second] [(.double (FP.dsub r (FP.dsub r a))), (.double a)])) τ
    refine own_dsub X0.here hx rfl (hb hby d4_12) rfl (k3) ?_
    show Steps p.tables e below (s₁.setTop (mkF m 13 #[.val (.double a), .second, .val (.double b), .second, .val (.double r), .second, .val (.double (FP.dsub r a)), .second] [(.double (FP.dsub a (FP.dsub r (FP.dsub r a))))])) τ
    refine own_dloadN X0.here hx rfl (hb hby d4_13) rfl ?_
    show Steps p.tables e below (s₁.setTop (mkF m 14 #[.val (.double a), .second, .val (.double b), .second, .val (.double r), .second, .val (.double (FP.dsub r a)), .second] [(.double b), (.double (FP.dsub a (FP.dsub r (FP.dsub r a))))])) τ
    refine own_dload X0.here hx rfl (hb hby d4_14) rfl ?_
    show Steps p.tables e below (s₁.setTop (mkF m 16 #[.val (.double a), .second, .val (.double b), .second, .val (.double r), .second, .val (.double (FP.dsub r a)), .second] [(.double (FP.dsub r a)), (.double b), (.double (FP.dsub a (FP.dsub r (FP.dsub r a))))])) τ
    refine own_dsub X0.here hx rfl (hb hby d4_16) rfl (k4) ?_
    show Steps p.tables e below (s₁.setTop (mkF m 17 #[.val (.double a), .second, .val (.double b), .second, .val (.double r), .second, .val (.double (FP.dsub r a)), .second] [(.double (FP.dsub b (FP.dsub r a))), (.double (FP.dsub a (FP.dsub r (FP.dsub r a))))])) τ
    refine own_dadd X0.here hx rfl (hb hby d4_17) rfl (k5) ?_
    exact kt)
  obtain ⟨fs, hrL, hrun, hended, hW, hsame⟩ := X0.leave (v := some (.double (FP.dadd (FP.dsub a (FP.dsub r (FP.dsub r a))) (FP.dsub b (FP.dsub r a))))) (fun h => by rw [Bd.returns] at h; cases h)
  refine ⟨_, _, pre4 _ ?_, hrun, hended, _, _, rfl, ?_, ⟨_, rfl⟩, hW, hsame.mono (by decide) (by decide)⟩
  · show Steps p.tables e below (s₁.setTop (mkF m 18 #[.val (.double a), .second, .val (.double b), .second, .val (.double r), .second, .val (.double (FP.dsub r a)), .second] [(.double (FP.dadd (FP.dsub a (FP.dsub r (FP.dsub r a))) (FP.dsub b (FP.dsub r a))))])) _
    exact own_retD X0 hx Bd.returns (hb hby d4_18) hrL
  · show QR (own_ra a b r) h0 n0 _ s₁.heap _
    rw [e0]
    exact ⟨rfl, N0, rfl⟩
theorem d3_0 : decode prog_13_method_2_code 0 = .ok (.aload_n 0, 1) := by decide +kernel
theorem d3_1 : decode prog_13_method_2_code 1 = .ok (.getfield 7, 3) := by decide +kernel
theorem d3_4 : decode prog_13_method_2_code 4 = .ok (.dload_n 1, 1) := by decide +kernel
theorem d3_5 : decode prog_13_method_2_code 5 = .ok (.dadd, 1) := by decide +kernel
theorem d3_6 : decode prog_13_method_2_code 6 = .ok (.dstore_n 3, 1) := by decide +kernel
theorem d3_7 : decode prog_13_method_2_code 7 = .ok (.aload_n 0, 1) := by decide +kernel
theorem d3_8 : decode prog_13_method_2_code 8 = .ok (.dup, 1) := by decide +kernel
theorem d3_9 : decode prog_13_method_2_code 9 = .ok (.getfield 13, 3) := by decide +kernel
theorem d3_12 : decode prog_13_method_2_code 12 = .ok (.aload_n 0, 1) := by decide +kernel
theorem d3_13 : decode prog_13_method_2_code 13 = .ok (.getfield 7, 3) := by decide +kernel
theorem d3_16 : decode prog_13_method_2_code 16 = .ok (.dload_n 1, 1) := by decide +kernel
theorem d3_17 : decode prog_13_method_2_code 17 = .ok (.dload_n 3, 1) := by decide +kernel
theorem d3_18 : decode prog_13_method_2_code 18 = .ok (.invokestatic 16, 3) := by decide +kernel
theorem d3_21 : decode prog_13_method_2_code 21 = .ok (.dadd, 1) := by decide +kernel
theorem d3_22 : decode prog_13_method_2_code 22 = .ok (.putfield 13, 3) := by decide +kernel
theorem d3_25 : decode prog_13_method_2_code 25 = .ok (.aload_n 0, 1) := by decide +kernel
theorem d3_26 : decode prog_13_method_2_code 26 = .ok (.dload_n 3, 1) := by decide +kernel
theorem d3_27 : decode prog_13_method_2_code 27 = .ok (.putfield 7, 3) := by decide +kernel
theorem d3_30 : decode prog_13_method_2_code 30 = .ok (.return_, 1) := by decide +kernel
theorem own_ef3 (m : MethodId) (x0 : Addr) (x1 : UInt64) : entryFrame m #[(.ref x0), (.double x1)] 5 = mkF m 0 #[.val (.ref x0), .val (.double x1), .second, .unset, .unset] [] := by first | (simp [entryFrame, mkF, argsToLocals, Value.category]; done) | rfl
def QA (Z : State) (a : Addr) (n e : UInt64) (h0 : Heap) (n0 : Nat) (v : Option Value) (h : Heap) (L : List Loc) : Prop := v = none ∧ Fr n0 L ∧ Keep h0 h [a] ∧ Fld Z h a "com/example/meticulous_ballot/meticulousballot/DoubleDoubleSum" "sum" "D" (.double n) ∧ Fld Z h a "com/example/meticulous_ballot/meticulousballot/DoubleDoubleSum" "error" "D" (.double e)
set_option maxRecDepth 65536 in
set_option maxHeartbeats 40000000 in
theorem rmA (l : Launch) (Z : State) (a0 : Array Value) (hw : ∀ d ∈ tables_1, d.before a0 Z = true) (ws : List Jvm.Cond) (a : Addr) (t : UInt64) (s_ e_ : UInt64) (h0 : Heap) (n0 : Nat) (Z0 : n0 ≤ h0.size) (E7 : Exa Z h0 a "com/example/meticulous_ballot/meticulousballot/DoubleDoubleSum") (F1 : Fld Z h0 a "com/example/meticulous_ballot/meticulousballot/DoubleDoubleSum" "sum" "D" (.double s_)) (F2 : Fld Z h0 a "com/example/meticulous_ballot/meticulousballot/DoubleDoubleSum" "error" "D" (.double e_)) (ga : n0 ≤ a) (k1 : Jvm.Free.Fl.NoNaN64 (FP.dadd s_ t)) (k2 : own_raOK s_ t (FP.dadd s_ t)) (k3 : Jvm.Free.Fl.NoNaN64 (FP.dadd e_ (own_ra s_ t (FP.dadd s_ t)))) :
    MetFree l (⟨"com/example/meticulous_ballot/meticulousballot/DoubleDoubleSum", "add", "(D)V"⟩ : MethodName) (head1 (Jvm.Cond.code (⟨"com/example/meticulous_ballot/meticulousballot/DoubleDoubleSum", "add", "(D)V"⟩ : MethodName) prog_13_method_2_code 5 none :: ws) ({ frames := 1, cells := 0, slots := 0, locals := 24 } : Room)) (fun α U => α = #[(.ref a), (.double t)] ∧ Z.Warmed39 U.vm ∧ U.heap = h0) (fun _ _ _ _ _ => True) (fun _ U ω U' => ∃ ν Λ, ω = .returned ν ∧ QA Z a (FP.dadd s_ t) (FP.dadd e_ (own_ra s_ t (FP.dadd s_ t))) h0 n0 ν U'.heap Λ ∧ FrameEnd U ω U' Λ ({ frames := 1, cells := 0, slots := 0, locals := 24 } : Room).cells ({ frames := 1, cells := 0, slots := 0, locals := 24 } : Room).slots) := by
  refine MetFree.of_bodySF (plainFor_of_name own_pn_com_example_meticulous_ballot_meticulousballot_DoubleDoubleSum) hisR ?_
  intro p e s m args below meth c s₁ Bd hml0 hP hK
  obtain ⟨rfl, hZ, hh⟩ := hP
  have hx := Bd.exec
  have hby := Bd.bytes
  have hml : c.maxLocals = 5 := hml0
  have hown : s.vm.findClass "com/example/meticulous_ballot/meticulousballot/DoubleDoubleSum" = some m.cls := findClass_of_methodNamed Bd.named
  have hnm := (name_of_methodNamed Bd.named Bd.method).1
  have X0 : Stand p l e ({ frames := 1, cells := 0, slots := 0, locals := 24 } : Room) s m #[(.ref a), (.double t)] below meth c s₁ [] 0 0 := Stand.of_body Bd
  have e0 : s₁.heap = h0 := by rw [← hh, Bd.state]; rfl
  have N0 := Fr.nil n0
  have KK0 : Keep h0 h0 [a] := Keep.refl h0 [a]
  have pre0 : ∀ τ, Steps p.tables e below (s₁.setTop (mkF m 0 #[.val (.ref a), .val (.double t), .second, .unset, .unset] [])) τ → Steps p.tables e below (s₁.setTop (entryFrame m #[(.ref a), (.double t)] 5)) τ := fun τ κ => castTop (own_ef3 m a t) κ
  have pre5 : ∀ τ, Steps p.tables e below (s₁.setTop (mkF m 1 #[.val (.ref a), .val (.double t), .second, .unset, .unset] [(.ref a)])) τ → Steps p.tables e below (s₁.setTop (entryFrame m #[(.ref a), (.double t)] 5)) τ := fun τ kt => pre0 τ (by
    show Steps p.tables e below (s₁.setTop (mkF m 0 #[.val (.ref a), .val (.double t), .second, .unset, .unset] [])) τ
    refine XS.aloadN X0.here hx rfl (hb hby d3_0) rfl rfl ?_
    exact kt)
  obtain ⟨T6, X6, e6, st6⟩ := getF X0 hx hZ hown (host := "") (Or.inl (hw _ (List.mem_of_getElem? (i := 15) rfl))) Via.refl e0 F1 (g := (mkF m 1 #[.val (.ref a), .val (.double t), .second, .unset, .unset] [(.ref a)])) rfl rfl (hb hby d3_1)
  have pre7 : ∀ τ, Steps p.tables e below (T6.setTop (mkF m 4 #[.val (.ref a), .val (.double t), .second, .unset, .unset] [(.double s_)])) τ → Steps p.tables e below (s₁.setTop (entryFrame m #[(.ref a), (.double t)] 5)) τ := fun τ kt => pre5 τ (st6 τ kt)
  have pre8 : ∀ τ, Steps p.tables e below (T6.setTop (mkF m 9 #[.val (.ref a), .val (.double t), .second, .val (.double (FP.dadd s_ t)), .second] [(.ref a), (.ref a)])) τ → Steps p.tables e below (s₁.setTop (entryFrame m #[(.ref a), (.double t)] 5)) τ := fun τ kt => pre7 τ (by
    show Steps p.tables e below (T6.setTop (mkF m 4 #[.val (.ref a), .val (.double t), .second, .unset, .unset] [(.double s_)])) τ
    refine own_dloadN X6.here hx rfl (hb hby d3_4) rfl ?_
    show Steps p.tables e below (T6.setTop (mkF m 5 #[.val (.ref a), .val (.double t), .second, .unset, .unset] [(.double t), (.double s_)])) τ
    refine own_dadd X6.here hx rfl (hb hby d3_5) rfl (k1) ?_
    show Steps p.tables e below (T6.setTop (mkF m 6 #[.val (.ref a), .val (.double t), .second, .unset, .unset] [(.double (FP.dadd s_ t))])) τ
    refine own_dstoreN X6.here hx rfl (hb hby d3_6) rfl (l' := #[.val (.ref a), .val (.double t), .second, .val (.double (FP.dadd s_ t)), .second]) rfl ?_
    show Steps p.tables e below (T6.setTop (mkF m 7 #[.val (.ref a), .val (.double t), .second, .val (.double (FP.dadd s_ t)), .second] [])) τ
    refine XS.aloadN X6.here hx rfl (hb hby d3_7) rfl rfl ?_
    show Steps p.tables e below (T6.setTop (mkF m 8 #[.val (.ref a), .val (.double t), .second, .val (.double (FP.dadd s_ t)), .second] [(.ref a)])) τ
    refine XS.dup X6.here hx rfl (hb hby d3_8) rfl rfl ?_
    exact kt)
  obtain ⟨T9, X9, e9, st9⟩ := getF X6 hx hZ hown (host := "") (Or.inl (hw _ (List.mem_of_getElem? (i := 17) rfl))) Via.refl e6 F2 (g := (mkF m 9 #[.val (.ref a), .val (.double t), .second, .val (.double (FP.dadd s_ t)), .second] [(.ref a), (.ref a)])) rfl rfl (hb hby d3_9)
  have pre10 : ∀ τ, Steps p.tables e below (T9.setTop (mkF m 12 #[.val (.ref a), .val (.double t), .second, .val (.double (FP.dadd s_ t)), .second] [(.double e_), (.ref a)])) τ → Steps p.tables e below (s₁.setTop (entryFrame m #[(.ref a), (.double t)] 5)) τ := fun τ kt => pre8 τ (st9 τ kt)
  have pre11 : ∀ τ, Steps p.tables e below (T9.setTop (mkF m 13 #[.val (.ref a), .val (.double t), .second, .val (.double (FP.dadd s_ t)), .second] [(.ref a), (.double e_), (.ref a)])) τ → Steps p.tables e below (s₁.setTop (entryFrame m #[(.ref a), (.double t)] 5)) τ := fun τ kt => pre10 τ (by
    show Steps p.tables e below (T9.setTop (mkF m 12 #[.val (.ref a), .val (.double t), .second, .val (.double (FP.dadd s_ t)), .second] [(.double e_), (.ref a)])) τ
    refine XS.aloadN X9.here hx rfl (hb hby d3_12) rfl rfl ?_
    exact kt)
  obtain ⟨T12, X12, e12, st12⟩ := getF X9 hx hZ hown (host := "") (Or.inl (hw _ (List.mem_of_getElem? (i := 15) rfl))) Via.refl e9 F1 (g := (mkF m 13 #[.val (.ref a), .val (.double t), .second, .val (.double (FP.dadd s_ t)), .second] [(.ref a), (.double e_), (.ref a)])) rfl rfl (hb hby d3_13)
  have pre13 : ∀ τ, Steps p.tables e below (T12.setTop (mkF m 16 #[.val (.ref a), .val (.double t), .second, .val (.double (FP.dadd s_ t)), .second] [(.double s_), (.double e_), (.ref a)])) τ → Steps p.tables e below (s₁.setTop (entryFrame m #[(.ref a), (.double t)] 5)) τ := fun τ kt => pre11 τ (st12 τ kt)
  have pre14 : ∀ τ, Steps p.tables e below (T12.setTop (mkF m 18 #[.val (.ref a), .val (.double t), .second, .val (.double (FP.dadd s_ t)), .second] [(.double (FP.dadd s_ t)), (.double t), (.double s_), (.double e_), (.ref a)])) τ → Steps p.tables e below (s₁.setTop (entryFrame m #[(.ref a), (.double t)] 5)) τ := fun τ kt => pre13 τ (by
    show Steps p.tables e below (T12.setTop (mkF m 16 #[.val (.ref a), .val (.double t), .second, .val (.double (FP.dadd s_ t)), .second] [(.double s_), (.double e_), (.ref a)])) τ
    refine own_dloadN X12.here hx rfl (hb hby d3_16) rfl ?_
    show Steps p.tables e below (T12.setTop (mkF m 17 #[.val (.ref a), .val (.double t), .second, .val (.double (FP.dadd s_ t)), .second] [(.double t), (.double s_), (.double e_), (.ref a)])) τ
    refine own_dloadN X12.here hx rfl (hb hby d3_17) rfl ?_
    exact kt)
  obtain ⟨_, _, ⟨T15, L15, k15, n15⟩, -, X15, ⟨Lc15, hQ15, l15, y15, z15⟩, st15⟩ := Jvm.LawKit.callS X12 hx (y := (⟨"com/example/meticulous_ballot/meticulousballot/DoubleDoubleSum", "roundedAway", "(DDD)D"⟩ : MethodName)) hown (mvT hZ (hw _ (List.mem_of_getElem? (i := 19) rfl))) (mvT hZ (hw _ (List.mem_of_getElem? (i := 20) rfl))) (mvT hZ (hw _ (List.mem_of_getElem? (i := 3) rfl))) (mvT hZ (hw _ (List.mem_of_getElem? (i := 21) rfl))) (by decide) (backOf (W := 3) (rmR l Z a0 hw [] s_ t (FP.dadd s_ t) h0 n0 (Nat.le_trans Z0 KK0.1) k2) hZ (hw _ (List.mem_of_getElem? (i := 21) rfl)) (hw _ (List.mem_of_getElem? (i := 3) rfl)) (by decide) (by decide)) (g := (mkF m 18 #[.val (.ref a), .val (.double t), .second, .val (.double (FP.dadd s_ t)), .second] [(.double (FP.dadd s_ t)), (.double t), (.double s_), (.double e_), (.ref a)])) rfl (by rw [hml]; rfl) (argsL := [(.double s_), (.double t), (.double (FP.dadd s_ t))]) (rest := [(.double e_), (.ref a)]) (lenOf own_pd__DDD_D rfl) rfl (by show 2 * 0 + _ ≤ _; exact Nat.le_of_eq rfl) (hb hby d3_18) (fun _ _ => ⟨rfl, e12, (by decide : 0 + 0 ≤ _), (by decide : 0 + 0 ≤ _)⟩)
  dsimp only [Pt.U, Pt.locs, Pt.cells, Pt.slots] at X15 l15 y15 z15 st15 hQ15
  subst l15 y15 z15
  obtain ⟨rfl, Nq15, eq15⟩ := hQ15
  have N15 := Fr.app N0 Nq15
  have pre16 : ∀ τ, Steps p.tables e below (T15.setTop (mkF m 21 #[.val (.ref a), .val (.double t), .second, .val (.double (FP.dadd s_ t)), .second] [(.double (own_ra s_ t (FP.dadd s_ t))), (.double e_), (.ref a)])) τ → Steps p.tables e below (s₁.setTop (entryFrame m #[(.ref a), (.double t)] 5)) τ := fun τ kt => pre14 τ (st15 τ kt)
  have pre17 : ∀ τ, Steps p.tables e below (T15.setTop (mkF m 22 #[.val (.ref a), .val (.double t), .second, .val (.double (FP.dadd s_ t)), .second] [(.double (FP.dadd e_ (own_ra s_ t (FP.dadd s_ t)))), (.ref a)])) τ → Steps p.tables e below (s₁.setTop (entryFrame m #[(.ref a), (.double t)] 5)) τ := fun τ kt => pre16 τ (by
    show Steps p.tables e below (T15.setTop (mkF m 21 #[.val (.ref a), .val (.double t), .second, .val (.double (FP.dadd s_ t)), .second] [(.double (own_ra s_ t (FP.dadd s_ t))), (.double e_), (.ref a)])) τ
    refine own_dadd X15.here hx rfl (hb hby d3_21) rfl (k3) ?_
    exact kt)
  obtain ⟨T18, h18, X18, e18, W18, st18⟩ := putF X15 hx hZ hown (host := "") (Or.inl (hw _ (List.mem_of_getElem? (i := 17) rfl))) Via.refl eq15 F2 E7 (Or.inl (hw _ (List.mem_of_getElem? (i := 18) rfl))) (hw _ (List.mem_of_getElem? (i := 2) rfl)) (ty := .double) (by decide) rfl rfl (g := (mkF m 22 #[.val (.ref a), .val (.double t), .second, .val (.double (FP.dadd s_ t)), .second] [(.double (FP.dadd e_ (own_ra s_ t (FP.dadd s_ t)))), (.ref a)])) rfl rfl (hb hby d3_22)
  have fw18 := Fld.same W18 F2
  have N18 := Fr.snoc X18 N15 ga
  have K18 : Keep h0 h18 [a] := KK0.wr W18 (Or.inl (by simp))
  have pre19 : ∀ τ, Steps p.tables e below (T18.setTop (mkF m 25 #[.val (.ref a), .val (.double t), .second, .val (.double (FP.dadd s_ t)), .second] [])) τ → Steps p.tables e below (s₁.setTop (entryFrame m #[(.ref a), (.double t)] 5)) τ := fun τ kt => pre17 τ (st18 τ kt)
  have pre20 : ∀ τ, Steps p.tables e below (T18.setTop (mkF m 27 #[.val (.ref a), .val (.double t), .second, .val (.double (FP.dadd s_ t)), .second] [(.double (FP.dadd s_ t)), (.ref a)])) τ → Steps p.tables e below (s₁.setTop (entryFrame m #[(.ref a), (.double t)] 5)) τ := fun τ kt => pre19 τ (by
    show Steps p.tables e below (T18.setTop (mkF m 25 #[.val (.ref a), .val (.double t), .second, .val (.double (FP.dadd s_ t)), .second] [])) τ
    refine XS.aloadN X18.here hx rfl (hb hby d3_25) rfl rfl ?_
    show Steps p.tables e below (T18.setTop (mkF m 26 #[.val (.ref a), .val (.double t), .second, .val (.double (FP.dadd s_ t)), .second] [(.ref a)])) τ
    refine own_dloadN X18.here hx rfl (hb hby d3_26) rfl ?_
    exact kt)
  have f22 := (F1.other W18 (Or.inr (slot_ne (Or.inl (hw _ (List.mem_of_getElem? (i := 16) rfl))) (Or.inl (hw _ (List.mem_of_getElem? (i := 18) rfl))) (by decide) (t := .double) (t' := .double) (by decide) (by decide))))
  have f23 := E7.wr W18
  obtain ⟨T21, h21, X21, e21, W21, st21⟩ := putF X18 hx hZ hown (host := "") (Or.inl (hw _ (List.mem_of_getElem? (i := 15) rfl))) Via.refl e18 f22 f23 (Or.inl (hw _ (List.mem_of_getElem? (i := 16) rfl))) (hw _ (List.mem_of_getElem? (i := 2) rfl)) (ty := .double) (by decide) rfl rfl (g := (mkF m 27 #[.val (.ref a), .val (.double t), .second, .val (.double (FP.dadd s_ t)), .second] [(.double (FP.dadd s_ t)), (.ref a)])) rfl rfl (hb hby d3_27)
  have fw21 := Fld.same W21 f22
  have N21 := Fr.snoc X21 N18 ga
  have K21 : Keep h0 h21 [a] := K18.wr W21 (Or.inl (by simp))
  have pre24 : ∀ τ, Steps p.tables e below (T21.setTop (mkF m 30 #[.val (.ref a), .val (.double t), .second, .val (.double (FP.dadd s_ t)), .second] [])) τ → Steps p.tables e below (s₁.setTop (entryFrame m #[(.ref a), (.double t)] 5)) τ := fun τ kt => pre20 τ (st21 τ kt)
  have f25 := (fw18.other W21 (Or.inr (slot_ne (Or.inl (hw _ (List.mem_of_getElem? (i := 18) rfl))) (Or.inl (hw _ (List.mem_of_getElem? (i := 16) rfl))) (by decide) (t := .double) (t' := .double) (by decide) (by decide))))
  obtain ⟨fs, hrL, hrun, hended, hW, hsame⟩ := X21.leave (v := none) (fun _ => rfl)
  refine ⟨_, _, pre24 _ ?_, hrun, hended, _, _, rfl, ?_, ⟨_, rfl⟩, hW, hsame.mono (by decide) (by decide)⟩
  · show Steps p.tables e below (T21.setTop (mkF m 30 #[.val (.ref a), .val (.double t), .second, .val (.double (FP.dadd s_ t)), .second] [])) _
    exact X21.returnOut hx Bd.returns (hb hby d3_30) hrL
  · show QA Z a (FP.dadd s_ t) (FP.dadd e_ (own_ra s_ t (FP.dadd s_ t))) h0 n0 _ T21.heap _
    rw [e21]
    exact ⟨rfl, N21, K21, fw21, f25⟩
theorem d5_0 : decode prog_13_method_5_code 0 = .ok (.aload_n 0, 1) := by decide +kernel
theorem d5_1 : decode prog_13_method_5_code 1 = .ok (.getfield 7, 3) := by decide +kernel
theorem d5_4 : decode prog_13_method_5_code 4 = .ok (.aload_n 0, 1) := by decide +kernel
theorem d5_5 : decode prog_13_method_5_code 5 = .ok (.getfield 13, 3) := by decide +kernel
theorem d5_8 : decode prog_13_method_5_code 8 = .ok (.dadd, 1) := by decide +kernel
theorem d5_9 : decode prog_13_method_5_code 9 = .ok (.dreturn, 1) := by decide +kernel
theorem own_ef5 (m : MethodId) (x0 : Addr) : entryFrame m #[(.ref x0)] 1 = mkF m 0 #[.val (.ref x0)] [] := by first | (simp [entryFrame, mkF, argsToLocals, Value.category]; done) | rfl
set_option maxRecDepth 65536 in
set_option maxHeartbeats 40000000 in
theorem rmV (l : Launch) (Z : State) (a0 : Array Value) (hw : ∀ d ∈ tables_1, d.before a0 Z = true) (ws : List Jvm.Cond) (a : Addr) (s_ e_ : UInt64) (h0 : Heap) (n0 : Nat) (Z0 : n0 ≤ h0.size) (F1 : Fld Z h0 a "com/example/meticulous_ballot/meticulousballot/DoubleDoubleSum" "sum" "D" (.double s_)) (F2 : Fld Z h0 a "com/example/meticulous_ballot/meticulousballot/DoubleDoubleSum" "error" "D" (.double e_)) (k1 : Jvm.Free.Fl.NoNaN64 (FP.dadd s_ e_)) :
    MetFree l (⟨"com/example/meticulous_ballot/meticulousballot/DoubleDoubleSum", "value", "()D"⟩ : MethodName) (head1 (Jvm.Cond.code (⟨"com/example/meticulous_ballot/meticulousballot/DoubleDoubleSum", "value", "()D"⟩ : MethodName) prog_13_method_5_code 1 (some .double) :: ws) ({ frames := 0, cells := 0, slots := 0, locals := 0 } : Room)) (fun α U => α = #[(.ref a)] ∧ Z.Warmed39 U.vm ∧ U.heap = h0) (fun _ _ _ _ _ => True) (fun _ U ω U' => ∃ ν Λ, ω = .returned ν ∧ QR (FP.dadd s_ e_) h0 n0 ν U'.heap Λ ∧ FrameEnd U ω U' Λ ({ frames := 0, cells := 0, slots := 0, locals := 0 } : Room).cells ({ frames := 0, cells := 0, slots := 0, locals := 0 } : Room).slots) := by
  refine MetFree.of_bodySF (plainFor_of_name own_pn_com_example_meticulous_ballot_meticulousballot_DoubleDoubleSum) hisR ?_
  intro p e s m args below meth c s₁ Bd hml0 hP hK
  obtain ⟨rfl, hZ, hh⟩ := hP
  have hx := Bd.exec
  have hby := Bd.bytes
  have hml : c.maxLocals = 1 := hml0
  have hown : s.vm.findClass "com/example/meticulous_ballot/meticulousballot/DoubleDoubleSum" = some m.cls := findClass_of_methodNamed Bd.named
  have hnm := (name_of_methodNamed Bd.named Bd.method).1
  have X0 : Stand p l e ({ frames := 0, cells := 0, slots := 0, locals := 0 } : Room) s m #[(.ref a)] below meth c s₁ [] 0 0 := Stand.of_body Bd
  have e0 : s₁.heap = h0 := by rw [← hh, Bd.state]; rfl
  have N0 := Fr.nil n0
  have KK0 : Keep h0 h0 [] := Keep.refl h0 []
  have pre0 : ∀ τ, Steps p.tables e below (s₁.setTop (mkF m 0 #[.val (.ref a)] [])) τ → Steps p.tables e below (s₁.setTop (entryFrame m #[(.ref a)] 1)) τ := fun τ κ => castTop (own_ef5 m a) κ
  have pre26 : ∀ τ, Steps p.tables e below (s₁.setTop (mkF m 1 #[.val (.ref a)] [(.ref a)])) τ → Steps p.tables e below (s₁.setTop (entryFrame m #[(.ref a)] 1)) τ := fun τ kt => pre0 τ (by
    show Steps p.tables e below (s₁.setTop (mkF m 0 #[.val (.ref a)] [])) τ
    refine XS.aloadN X0.here hx rfl (hb hby d5_0) rfl rfl ?_
    exact kt)
  obtain ⟨T27, X27, e27, st27⟩ := getF X0 hx hZ hown (host := "") (Or.inl (hw _ (List.mem_of_getElem? (i := 15) rfl))) Via.refl e0 F1 (g := (mkF m 1 #[.val (.ref a)] [(.ref a)])) rfl rfl (hb hby d5_1)
  have pre28 : ∀ τ, Steps p.tables e below (T27.setTop (mkF m 4 #[.val (.ref a)] [(.double s_)])) τ → Steps p.tables e below (s₁.setTop (entryFrame m #[(.ref a)] 1)) τ := fun τ kt => pre26 τ (st27 τ kt)
  have pre29 : ∀ τ, Steps p.tables e below (T27.setTop (mkF m 5 #[.val (.ref a)] [(.ref a), (.double s_)])) τ → Steps p.tables e below (s₁.setTop (entryFrame m #[(.ref a)] 1)) τ := fun τ kt => pre28 τ (by
    show Steps p.tables e below (T27.setTop (mkF m 4 #[.val (.ref a)] [(.double s_)])) τ
    refine XS.aloadN X27.here hx rfl (hb hby d5_4) rfl rfl ?_
    exact kt)
  obtain ⟨T30, X30, e30, st30⟩ := getF X27 hx hZ hown (host := "") (Or.inl (hw _ (List.mem_of_getElem? (i := 17) rfl))) Via.refl e27 F2 (g := (mkF m 5 #[.val (.ref a)] [(.ref a), (.double s_)])) rfl rfl (hb hby d5_5)
  have pre31 : ∀ τ, Steps p.tables e below (T30.setTop (mkF m 8 #[.val (.ref a)] [(.double e_), (.double s_)])) τ → Steps p.tables e below (s₁.setTop (entryFrame m #[(.ref a)] 1)) τ := fun τ kt => pre29 τ (st30 τ kt)
  have pre32 : ∀ τ, Steps p.tables e below (T30.setTop (mkF m 9 #[.val (.ref a)] [(.double (FP.dadd s_ e_))])) τ → Steps p.tables e below (s₁.setTop (entryFrame m #[(.ref a)] 1)) τ := fun τ kt => pre31 τ (by
    show Steps p.tables e below (T30.setTop (mkF m 8 #[.val (.ref a)] [(.double e_), (.double s_)])) τ
    refine own_dadd X30.here hx rfl (hb hby d5_8) rfl (k1) ?_
    exact kt)
  obtain ⟨fs, hrL, hrun, hended, hW, hsame⟩ := X30.leave (v := some (.double (FP.dadd s_ e_))) (fun h => by rw [Bd.returns] at h; cases h)
  refine ⟨_, _, pre32 _ ?_, hrun, hended, _, _, rfl, ?_, ⟨_, rfl⟩, hW, hsame.mono (by decide) (by decide)⟩
  · show Steps p.tables e below (T30.setTop (mkF m 9 #[.val (.ref a)] [(.double (FP.dadd s_ e_))])) _
    exact own_retD X30 hx Bd.returns (hb hby d5_9) hrL
  · show QR (FP.dadd s_ e_) h0 n0 _ T30.heap _
    rw [e30]
    exact ⟨rfl, N0, rfl⟩
theorem own_pn_com_example_meticulous_ballot_meticulousballot_DoubleDoubleSumAddPinLaw : plainName "com/example/meticulous_ballot/meticulousballot/DoubleDoubleSumAddPinLaw" = true := by first | (simp [plainName, overriddenIn]; done) | decide +kernel
theorem own_ef0 (m : MethodId) (x0 : Int64) (x1 : Int32) (x2 : Int32) : entryFrame m #[(.long x0), (.int x1), (.int x2)] maxLocals = mkF m 0 #[.val (.long x0), .second, .val (.int x1), .val (.int x2), .unset, .unset, .unset, .unset, .unset, .unset, .unset, .unset, .unset, .unset, .unset, .unset] [] := by first | (simp [entryFrame, mkF, argsToLocals, Value.category, maxLocals]; done) | rfl
def Q0 (n0 : Nat) (v : Option Value) (h : Heap) (L : List Loc) : Prop := v = some (.int 1) ∧ Fr n0 L
set_option maxRecDepth 65536 in
set_option maxHeartbeats 40000000 in
theorem rm0 (l : Launch) (Z : State) (a0 : Array Value) (hw : ∀ d ∈ tables_1, d.before a0 Z = true) (ws : List Jvm.Cond) (pa : Int64) (pb : Int32) (po : Int32)  (h0 : Heap) (n0 : Nat) (Z0 : n0 ≤ h0.size)  :
    MetFree l x (head1 (Jvm.Cond.code x code maxLocals ret :: ws) room_1) (fun α U => α = #[(.long pa), (.int pb), (.int po)] ∧ Z.Warmed39 U.vm ∧ U.heap = h0) (fun _ _ _ _ _ => True) (fun _ U ω U' => ∃ ν Λ, ω = .returned ν ∧ Q0 n0 ν U'.heap Λ ∧ FrameEnd U ω U' Λ room_1.cells room_1.slots) := by
  refine MetFree.of_bodySF (plainFor_of_name own_pn_com_example_meticulous_ballot_meticulousballot_DoubleDoubleSumAddPinLaw) hisR ?_
  intro p e s m args below meth c s₁ Bd hml0 hP hK
  obtain ⟨rfl, hZ, hh⟩ := hP
  have hx := Bd.exec
  have hby := Bd.bytes
  have hml : c.maxLocals = 16 := hml0
  have hown : s.vm.findClass "com/example/meticulous_ballot/meticulousballot/DoubleDoubleSumAddPinLaw" = some m.cls := findClass_of_methodNamed Bd.named
  have hnm := (name_of_methodNamed Bd.named Bd.method).1
  have X0 : Stand p l e room_1 s m #[(.long pa), (.int pb), (.int po)] below meth c s₁ [] 0 0 := Stand.of_body Bd
  have e0 : s₁.heap = h0 := by rw [← hh, Bd.state]; rfl
  have N0 := Fr.nil n0
  have KK0 : Keep h0 h0 [] := Keep.refl h0 []
  have pre0 : ∀ τ, Steps p.tables e below (s₁.setTop (mkF m 0 #[.val (.long pa), .second, .val (.int pb), .val (.int po), .unset, .unset, .unset, .unset, .unset, .unset, .unset, .unset, .unset, .unset, .unset, .unset] [])) τ → Steps p.tables e below (s₁.setTop (entryFrame m #[(.long pa), (.int pb), (.int po)] maxLocals)) τ := fun τ κ => castTop (own_ef0 m pa pb po) κ
  have r1 := pb.toInt_lt
  have r2 := pb.le_toInt
  obtain ⟨B, hB, hB', bB⟩ := own_big_int pa
  have hbd : FP.Core.DInt pb.toInt (FP.i2d pb) := FP.Core.i2d_int pb
  have pre33 : ∀ τ, Steps p.tables e below (s₁.setTop (mkF m 19 #[.val (.long pa), .second, .val (.int pb), .val (.int po), .val (.double (FP.l2d pa)), .second, .val (.double (FP.i2d pb)), .second, .val (.int ((po &&& (2147483647 : Int32)) % (6 : Int32))), .unset, .unset, .unset, .unset, .unset, .unset, .unset] [(.int ((po &&& (2147483647 : Int32)) % (6 : Int32)))])) τ → Steps p.tables e below (s₁.setTop (entryFrame m #[(.long pa), (.int pb), (.int po)] maxLocals)) τ := fun τ kt => pre0 τ (by
    show Steps p.tables e below (s₁.setTop (mkF m 0 #[.val (.long pa), .second, .val (.int pb), .val (.int po), .unset, .unset, .unset, .unset, .unset, .unset, .unset, .unset, .unset, .unset, .unset, .unset] [])) τ
    refine XT.lloadN X0.here hx rfl (hb hby at_0) rfl ?_
    show Steps p.tables e below (s₁.setTop (mkF m 1 #[.val (.long pa), .second, .val (.int pb), .val (.int po), .unset, .unset, .unset, .unset, .unset, .unset, .unset, .unset, .unset, .unset, .unset, .unset] [(.long pa)])) τ
    refine own_l2d X0.here hx rfl (hb hby at_1) rfl ?_
    show Steps p.tables e below (s₁.setTop (mkF m 2 #[.val (.long pa), .second, .val (.int pb), .val (.int po), .unset, .unset, .unset, .unset, .unset, .unset, .unset, .unset, .unset, .unset, .unset, .unset] [(.double (FP.l2d pa))])) τ
    refine own_dstore X0.here hx rfl (hb hby at_2) rfl (l' := #[.val (.long pa), .second, .val (.int pb), .val (.int po), .val (.double (FP.l2d pa)), .second, .unset, .unset, .unset, .unset, .unset, .unset, .unset, .unset, .unset, .unset]) rfl ?_
    show Steps p.tables e below (s₁.setTop (mkF m 4 #[.val (.long pa), .second, .val (.int pb), .val (.int po), .val (.double (FP.l2d pa)), .second, .unset, .unset, .unset, .unset, .unset, .unset, .unset, .unset, .unset, .unset] [])) τ
    refine XS.iloadN X0.here hx rfl (hb hby at_4) rfl ?_
    show Steps p.tables e below (s₁.setTop (mkF m 5 #[.val (.long pa), .second, .val (.int pb), .val (.int po), .val (.double (FP.l2d pa)), .second, .unset, .unset, .unset, .unset, .unset, .unset, .unset, .unset, .unset, .unset] [(.int pb)])) τ
    refine own_i2d X0.here hx rfl (hb hby at_5) rfl ?_
    show Steps p.tables e below (s₁.setTop (mkF m 6 #[.val (.long pa), .second, .val (.int pb), .val (.int po), .val (.double (FP.l2d pa)), .second, .unset, .unset, .unset, .unset, .unset, .unset, .unset, .unset, .unset, .unset] [(.double (FP.i2d pb))])) τ
    refine own_dstore X0.here hx rfl (hb hby at_6) rfl (l' := #[.val (.long pa), .second, .val (.int pb), .val (.int po), .val (.double (FP.l2d pa)), .second, .val (.double (FP.i2d pb)), .second, .unset, .unset, .unset, .unset, .unset, .unset, .unset, .unset]) rfl ?_
    show Steps p.tables e below (s₁.setTop (mkF m 8 #[.val (.long pa), .second, .val (.int pb), .val (.int po), .val (.double (FP.l2d pa)), .second, .val (.double (FP.i2d pb)), .second, .unset, .unset, .unset, .unset, .unset, .unset, .unset, .unset] [])) τ
    refine XS.iloadN X0.here hx rfl (hb hby at_8) rfl ?_
    show Steps p.tables e below (s₁.setTop (mkF m 9 #[.val (.long pa), .second, .val (.int pb), .val (.int po), .val (.double (FP.l2d pa)), .second, .val (.double (FP.i2d pb)), .second, .unset, .unset, .unset, .unset, .unset, .unset, .unset, .unset] [(.int po)])) τ
    refine X0.ldcInt hx hown (mvT hZ (hw _ (List.mem_of_getElem? (i := 0) rfl))) (g := (mkF m 9 #[.val (.long pa), .second, .val (.int pb), .val (.int po), .val (.double (FP.l2d pa)), .second, .val (.double (FP.i2d pb)), .second, .unset, .unset, .unset, .unset, .unset, .unset, .unset, .unset] [(.int po)])) rfl (hb hby at_9) _ ?_
    show Steps p.tables e below (s₁.setTop (mkF m 11 #[.val (.long pa), .second, .val (.int pb), .val (.int po), .val (.double (FP.l2d pa)), .second, .val (.double (FP.i2d pb)), .second, .unset, .unset, .unset, .unset, .unset, .unset, .unset, .unset] [(.int (2147483647 : Int32)), (.int po)])) τ
    refine XS.iand X0.here hx rfl (hb hby at_11) rfl ?_
    show Steps p.tables e below (s₁.setTop (mkF m 12 #[.val (.long pa), .second, .val (.int pb), .val (.int po), .val (.double (FP.l2d pa)), .second, .val (.double (FP.i2d pb)), .second, .unset, .unset, .unset, .unset, .unset, .unset, .unset, .unset] [(.int (po &&& (2147483647 : Int32)))])) τ
    refine XS.bipush X0.here hx rfl (hb hby at_12) ?_
    show Steps p.tables e below (s₁.setTop (mkF m 14 #[.val (.long pa), .second, .val (.int pb), .val (.int po), .val (.double (FP.l2d pa)), .second, .val (.double (FP.i2d pb)), .second, .unset, .unset, .unset, .unset, .unset, .unset, .unset, .unset] [(.int (6 : Int32)), (.int (po &&& (2147483647 : Int32)))])) τ
    refine iremM X0 hx rfl (hb hby at_14) rfl (by decide) ?_
    show Steps p.tables e below (s₁.setTop (mkF m 15 #[.val (.long pa), .second, .val (.int pb), .val (.int po), .val (.double (FP.l2d pa)), .second, .val (.double (FP.i2d pb)), .second, .unset, .unset, .unset, .unset, .unset, .unset, .unset, .unset] [(.int ((po &&& (2147483647 : Int32)) % (6 : Int32)))])) τ
    refine XS.istore X0.here hx rfl (hb hby at_15) rfl (l' := #[.val (.long pa), .second, .val (.int pb), .val (.int po), .val (.double (FP.l2d pa)), .second, .val (.double (FP.i2d pb)), .second, .val (.int ((po &&& (2147483647 : Int32)) % (6 : Int32))), .unset, .unset, .unset, .unset, .unset, .unset, .unset]) rfl ?_
    show Steps p.tables e below (s₁.setTop (mkF m 17 #[.val (.long pa), .second, .val (.int pb), .val (.int po), .val (.double (FP.l2d pa)), .second, .val (.double (FP.i2d pb)), .second, .val (.int ((po &&& (2147483647 : Int32)) % (6 : Int32))), .unset, .unset, .unset, .unset, .unset, .unset, .unset] [])) τ
    refine XS.iload X0.here hx rfl (hb hby at_17) rfl ?_
    exact kt)
  obtain ⟨t1, t2, t3, hj34, pre34⟩ : ∃ (t1 : UInt64) (t2 : UInt64) (t3 : UInt64), (own_ord pb.toInt t1 t2 t3) ∧ ∀ τ, Steps p.tables e below (s₁.setTop (mkF m 139 #[.val (.long pa), .second, .val (.int pb), .val (.int po), .val (.double (FP.l2d pa)), .second, .val (.double (FP.i2d pb)), .second, .val (.int ((po &&& (2147483647 : Int32)) % (6 : Int32))), .val (.double t1), .second, .val (.double t2), .second, .val (.double t3), .second, .unset] [])) τ → Steps p.tables e below (s₁.setTop (entryFrame m #[(.long pa), (.int pb), (.int po)] maxLocals)) τ := by
    by_cases q6 : ((po &&& (2147483647 : Int32)) % (6 : Int32)) = (0 : Int32)
    · skip
      have pre35 : ∀ τ, Steps p.tables e below (s₁.setTop (mkF m 139 #[.val (.long pa), .second, .val (.int pb), .val (.int po), .val (.double (FP.l2d pa)), .second, .val (.double (FP.i2d pb)), .second, .val (.int ((po &&& (2147483647 : Int32)) % (6 : Int32))), .val (.double (FP.l2d pa)), .second, .val (.double (FP.i2d pb)), .second, .val (.double (FP.dneg (FP.l2d pa))), .second, .unset] [])) τ → Steps p.tables e below (s₁.setTop (entryFrame m #[(.long pa), (.int pb), (.int po)] maxLocals)) τ := fun τ kt => pre33 τ (by
        show Steps p.tables e below (s₁.setTop (mkF m 19 #[.val (.long pa), .second, .val (.int pb), .val (.int po), .val (.double (FP.l2d pa)), .second, .val (.double (FP.i2d pb)), .second, .val (.int ((po &&& (2147483647 : Int32)) % (6 : Int32))), .unset, .unset, .unset, .unset, .unset, .unset, .unset] [(.int ((po &&& (2147483647 : Int32)) % (6 : Int32)))])) τ
        refine XS.ifNo X0.here hx rfl (hb hby at_19) rfl ((if0 _ _).trans (teq q6).2) ?_
        show Steps p.tables e below (s₁.setTop (mkF m 22 #[.val (.long pa), .second, .val (.int pb), .val (.int po), .val (.double (FP.l2d pa)), .second, .val (.double (FP.i2d pb)), .second, .val (.int ((po &&& (2147483647 : Int32)) % (6 : Int32))), .unset, .unset, .unset, .unset, .unset, .unset, .unset] [])) τ
        refine own_dload X0.here hx rfl (hb hby at_22) rfl ?_
        show Steps p.tables e below (s₁.setTop (mkF m 24 #[.val (.long pa), .second, .val (.int pb), .val (.int po), .val (.double (FP.l2d pa)), .second, .val (.double (FP.i2d pb)), .second, .val (.int ((po &&& (2147483647 : Int32)) % (6 : Int32))), .unset, .unset, .unset, .unset, .unset, .unset, .unset] [(.double (FP.l2d pa))])) τ
        refine own_dstore X0.here hx rfl (hb hby at_24) rfl (l' := #[.val (.long pa), .second, .val (.int pb), .val (.int po), .val (.double (FP.l2d pa)), .second, .val (.double (FP.i2d pb)), .second, .val (.int ((po &&& (2147483647 : Int32)) % (6 : Int32))), .val (.double (FP.l2d pa)), .second, .unset, .unset, .unset, .unset, .unset]) rfl ?_
        show Steps p.tables e below (s₁.setTop (mkF m 26 #[.val (.long pa), .second, .val (.int pb), .val (.int po), .val (.double (FP.l2d pa)), .second, .val (.double (FP.i2d pb)), .second, .val (.int ((po &&& (2147483647 : Int32)) % (6 : Int32))), .val (.double (FP.l2d pa)), .second, .unset, .unset, .unset, .unset, .unset] [])) τ
        refine own_dload X0.here hx rfl (hb hby at_26) rfl ?_
        show Steps p.tables e below (s₁.setTop (mkF m 28 #[.val (.long pa), .second, .val (.int pb), .val (.int po), .val (.double (FP.l2d pa)), .second, .val (.double (FP.i2d pb)), .second, .val (.int ((po &&& (2147483647 : Int32)) % (6 : Int32))), .val (.double (FP.l2d pa)), .second, .unset, .unset, .unset, .unset, .unset] [(.double (FP.i2d pb))])) τ
        refine own_dstore X0.here hx rfl (hb hby at_28) rfl (l' := #[.val (.long pa), .second, .val (.int pb), .val (.int po), .val (.double (FP.l2d pa)), .second, .val (.double (FP.i2d pb)), .second, .val (.int ((po &&& (2147483647 : Int32)) % (6 : Int32))), .val (.double (FP.l2d pa)), .second, .val (.double (FP.i2d pb)), .second, .unset, .unset, .unset]) rfl ?_
        show Steps p.tables e below (s₁.setTop (mkF m 30 #[.val (.long pa), .second, .val (.int pb), .val (.int po), .val (.double (FP.l2d pa)), .second, .val (.double (FP.i2d pb)), .second, .val (.int ((po &&& (2147483647 : Int32)) % (6 : Int32))), .val (.double (FP.l2d pa)), .second, .val (.double (FP.i2d pb)), .second, .unset, .unset, .unset] [])) τ
        refine own_dload X0.here hx rfl (hb hby at_30) rfl ?_
        show Steps p.tables e below (s₁.setTop (mkF m 32 #[.val (.long pa), .second, .val (.int pb), .val (.int po), .val (.double (FP.l2d pa)), .second, .val (.double (FP.i2d pb)), .second, .val (.int ((po &&& (2147483647 : Int32)) % (6 : Int32))), .val (.double (FP.l2d pa)), .second, .val (.double (FP.i2d pb)), .second, .unset, .unset, .unset] [(.double (FP.l2d pa))])) τ
        refine own_dneg X0.here hx rfl (hb hby at_32) rfl ?_
        show Steps p.tables e below (s₁.setTop (mkF m 33 #[.val (.long pa), .second, .val (.int pb), .val (.int po), .val (.double (FP.l2d pa)), .second, .val (.double (FP.i2d pb)), .second, .val (.int ((po &&& (2147483647 : Int32)) % (6 : Int32))), .val (.double (FP.l2d pa)), .second, .val (.double (FP.i2d pb)), .second, .unset, .unset, .unset] [(.double (FP.dneg (FP.l2d pa)))])) τ
        refine own_dstore X0.here hx rfl (hb hby at_33) rfl (l' := #[.val (.long pa), .second, .val (.int pb), .val (.int po), .val (.double (FP.l2d pa)), .second, .val (.double (FP.i2d pb)), .second, .val (.int ((po &&& (2147483647 : Int32)) % (6 : Int32))), .val (.double (FP.l2d pa)), .second, .val (.double (FP.i2d pb)), .second, .val (.double (FP.dneg (FP.l2d pa))), .second, .unset]) rfl ?_
        show Steps p.tables e below (s₁.setTop (mkF m 35 #[.val (.long pa), .second, .val (.int pb), .val (.int po), .val (.double (FP.l2d pa)), .second, .val (.double (FP.i2d pb)), .second, .val (.int ((po &&& (2147483647 : Int32)) % (6 : Int32))), .val (.double (FP.l2d pa)), .second, .val (.double (FP.i2d pb)), .second, .val (.double (FP.dneg (FP.l2d pa))), .second, .unset] [])) τ
        refine XS.goto X0.here hx rfl (pc0 := 35) (pc' := 139) rfl (hb hby at_35) (by decide) (by decide) ?_
        exact kt)
      exact ⟨(FP.l2d pa), (FP.i2d pb), (FP.dneg (FP.l2d pa)), ⟨B, pb.toInt, -B, hB, hbd, hB', by omega, by omega, by omega, by omega, by omega⟩, pre35⟩
    · skip
      have pre36 : ∀ τ, Steps p.tables e below (s₁.setTop (mkF m 41 #[.val (.long pa), .second, .val (.int pb), .val (.int po), .val (.double (FP.l2d pa)), .second, .val (.double (FP.i2d pb)), .second, .val (.int ((po &&& (2147483647 : Int32)) % (6 : Int32))), .unset, .unset, .unset, .unset, .unset, .unset, .unset] [(.int (1 : Int32)), (.int ((po &&& (2147483647 : Int32)) % (6 : Int32)))])) τ → Steps p.tables e below (s₁.setTop (entryFrame m #[(.long pa), (.int pb), (.int po)] maxLocals)) τ := fun τ kt => pre33 τ (by
        show Steps p.tables e below (s₁.setTop (mkF m 19 #[.val (.long pa), .second, .val (.int pb), .val (.int po), .val (.double (FP.l2d pa)), .second, .val (.double (FP.i2d pb)), .second, .val (.int ((po &&& (2147483647 : Int32)) % (6 : Int32))), .unset, .unset, .unset, .unset, .unset, .unset, .unset] [(.int ((po &&& (2147483647 : Int32)) % (6 : Int32)))])) τ
        refine XS.ifYes X0.here hx rfl (pc0 := 19) (pc' := 38) rfl (hb hby at_19) rfl ((if0 _ _).trans (feq q6).2) (by decide) (by decide) ?_
        show Steps p.tables e below (s₁.setTop (mkF m 38 #[.val (.long pa), .second, .val (.int pb), .val (.int po), .val (.double (FP.l2d pa)), .second, .val (.double (FP.i2d pb)), .second, .val (.int ((po &&& (2147483647 : Int32)) % (6 : Int32))), .unset, .unset, .unset, .unset, .unset, .unset, .unset] [])) τ
        refine XS.iload X0.here hx rfl (hb hby at_38) rfl ?_
        show Steps p.tables e below (s₁.setTop (mkF m 40 #[.val (.long pa), .second, .val (.int pb), .val (.int po), .val (.double (FP.l2d pa)), .second, .val (.double (FP.i2d pb)), .second, .val (.int ((po &&& (2147483647 : Int32)) % (6 : Int32))), .unset, .unset, .unset, .unset, .unset, .unset, .unset] [(.int ((po &&& (2147483647 : Int32)) % (6 : Int32)))])) τ
        refine XS.iconst X0.here hx rfl (hb hby at_40) ?_
        exact kt)
      by_cases q5 : ((po &&& (2147483647 : Int32)) % (6 : Int32)) = (1 : Int32)
      · skip
        have pre37 : ∀ τ, Steps p.tables e below (s₁.setTop (mkF m 139 #[.val (.long pa), .second, .val (.int pb), .val (.int po), .val (.double (FP.l2d pa)), .second, .val (.double (FP.i2d pb)), .second, .val (.int ((po &&& (2147483647 : Int32)) % (6 : Int32))), .val (.double (FP.i2d pb)), .second, .val (.double (FP.l2d pa)), .second, .val (.double (FP.dneg (FP.l2d pa))), .second, .unset] [])) τ → Steps p.tables e below (s₁.setTop (entryFrame m #[(.long pa), (.int pb), (.int po)] maxLocals)) τ := fun τ kt => pre36 τ (by
          show Steps p.tables e below (s₁.setTop (mkF m 41 #[.val (.long pa), .second, .val (.int pb), .val (.int po), .val (.double (FP.l2d pa)), .second, .val (.double (FP.i2d pb)), .second, .val (.int ((po &&& (2147483647 : Int32)) % (6 : Int32))), .unset, .unset, .unset, .unset, .unset, .unset, .unset] [(.int (1 : Int32)), (.int ((po &&& (2147483647 : Int32)) % (6 : Int32)))])) τ
          refine XS.icmpNo X0.here hx rfl (hb hby at_41) rfl (teq q5).2 ?_
          show Steps p.tables e below (s₁.setTop (mkF m 44 #[.val (.long pa), .second, .val (.int pb), .val (.int po), .val (.double (FP.l2d pa)), .second, .val (.double (FP.i2d pb)), .second, .val (.int ((po &&& (2147483647 : Int32)) % (6 : Int32))), .unset, .unset, .unset, .unset, .unset, .unset, .unset] [])) τ
          refine own_dload X0.here hx rfl (hb hby at_44) rfl ?_
          show Steps p.tables e below (s₁.setTop (mkF m 46 #[.val (.long pa), .second, .val (.int pb), .val (.int po), .val (.double (FP.l2d pa)), .second, .val (.double (FP.i2d pb)), .second, .val (.int ((po &&& (2147483647 : Int32)) % (6 : Int32))), .unset, .unset, .unset, .unset, .unset, .unset, .unset] [(.double (FP.i2d pb))])) τ
          refine own_dstore X0.here hx rfl (hb hby at_46) rfl (l' := #[.val (.long pa), .second, .val (.int pb), .val (.int po), .val (.double (FP.l2d pa)), .second, .val (.double (FP.i2d pb)), .second, .val (.int ((po &&& (2147483647 : Int32)) % (6 : Int32))), .val (.double (FP.i2d pb)), .second, .unset, .unset, .unset, .unset, .unset]) rfl ?_
          show Steps p.tables e below (s₁.setTop (mkF m 48 #[.val (.long pa), .second, .val (.int pb), .val (.int po), .val (.double (FP.l2d pa)), .second, .val (.double (FP.i2d pb)), .second, .val (.int ((po &&& (2147483647 : Int32)) % (6 : Int32))), .val (.double (FP.i2d pb)), .second, .unset, .unset, .unset, .unset, .unset] [])) τ
          refine own_dload X0.here hx rfl (hb hby at_48) rfl ?_
          show Steps p.tables e below (s₁.setTop (mkF m 50 #[.val (.long pa), .second, .val (.int pb), .val (.int po), .val (.double (FP.l2d pa)), .second, .val (.double (FP.i2d pb)), .second, .val (.int ((po &&& (2147483647 : Int32)) % (6 : Int32))), .val (.double (FP.i2d pb)), .second, .unset, .unset, .unset, .unset, .unset] [(.double (FP.l2d pa))])) τ
          refine own_dstore X0.here hx rfl (hb hby at_50) rfl (l' := #[.val (.long pa), .second, .val (.int pb), .val (.int po), .val (.double (FP.l2d pa)), .second, .val (.double (FP.i2d pb)), .second, .val (.int ((po &&& (2147483647 : Int32)) % (6 : Int32))), .val (.double (FP.i2d pb)), .second, .val (.double (FP.l2d pa)), .second, .unset, .unset, .unset]) rfl ?_
          show Steps p.tables e below (s₁.setTop (mkF m 52 #[.val (.long pa), .second, .val (.int pb), .val (.int po), .val (.double (FP.l2d pa)), .second, .val (.double (FP.i2d pb)), .second, .val (.int ((po &&& (2147483647 : Int32)) % (6 : Int32))), .val (.double (FP.i2d pb)), .second, .val (.double (FP.l2d pa)), .second, .unset, .unset, .unset] [])) τ
          refine own_dload X0.here hx rfl (hb hby at_52) rfl ?_
          show Steps p.tables e below (s₁.setTop (mkF m 54 #[.val (.long pa), .second, .val (.int pb), .val (.int po), .val (.double (FP.l2d pa)), .second, .val (.double (FP.i2d pb)), .second, .val (.int ((po &&& (2147483647 : Int32)) % (6 : Int32))), .val (.double (FP.i2d pb)), .second, .val (.double (FP.l2d pa)), .second, .unset, .unset, .unset] [(.double (FP.l2d pa))])) τ
          refine own_dneg X0.here hx rfl (hb hby at_54) rfl ?_
          show Steps p.tables e below (s₁.setTop (mkF m 55 #[.val (.long pa), .second, .val (.int pb), .val (.int po), .val (.double (FP.l2d pa)), .second, .val (.double (FP.i2d pb)), .second, .val (.int ((po &&& (2147483647 : Int32)) % (6 : Int32))), .val (.double (FP.i2d pb)), .second, .val (.double (FP.l2d pa)), .second, .unset, .unset, .unset] [(.double (FP.dneg (FP.l2d pa)))])) τ
          refine own_dstore X0.here hx rfl (hb hby at_55) rfl (l' := #[.val (.long pa), .second, .val (.int pb), .val (.int po), .val (.double (FP.l2d pa)), .second, .val (.double (FP.i2d pb)), .second, .val (.int ((po &&& (2147483647 : Int32)) % (6 : Int32))), .val (.double (FP.i2d pb)), .second, .val (.double (FP.l2d pa)), .second, .val (.double (FP.dneg (FP.l2d pa))), .second, .unset]) rfl ?_
          show Steps p.tables e below (s₁.setTop (mkF m 57 #[.val (.long pa), .second, .val (.int pb), .val (.int po), .val (.double (FP.l2d pa)), .second, .val (.double (FP.i2d pb)), .second, .val (.int ((po &&& (2147483647 : Int32)) % (6 : Int32))), .val (.double (FP.i2d pb)), .second, .val (.double (FP.l2d pa)), .second, .val (.double (FP.dneg (FP.l2d pa))), .second, .unset] [])) τ
          refine XS.goto X0.here hx rfl (pc0 := 57) (pc' := 139) rfl (hb hby at_57) (by decide) (by decide) ?_
          exact kt)
        exact ⟨(FP.i2d pb), (FP.l2d pa), (FP.dneg (FP.l2d pa)), ⟨pb.toInt, B, -B, hbd, hB, hB', by omega, by omega, by omega, by omega, by omega⟩, pre37⟩
      · skip
        have pre38 : ∀ τ, Steps p.tables e below (s₁.setTop (mkF m 63 #[.val (.long pa), .second, .val (.int pb), .val (.int po), .val (.double (FP.l2d pa)), .second, .val (.double (FP.i2d pb)), .second, .val (.int ((po &&& (2147483647 : Int32)) % (6 : Int32))), .unset, .unset, .unset, .unset, .unset, .unset, .unset] [(.int (2 : Int32)), (.int ((po &&& (2147483647 : Int32)) % (6 : Int32)))])) τ → Steps p.tables e below (s₁.setTop (entryFrame m #[(.long pa), (.int pb), (.int po)] maxLocals)) τ := fun τ kt => pre36 τ (by
          show Steps p.tables e below (s₁.setTop (mkF m 41 #[.val (.long pa), .second, .val (.int pb), .val (.int po), .val (.double (FP.l2d pa)), .second, .val (.double (FP.i2d pb)), .second, .val (.int ((po &&& (2147483647 : Int32)) % (6 : Int32))), .unset, .unset, .unset, .unset, .unset, .unset, .unset] [(.int (1 : Int32)), (.int ((po &&& (2147483647 : Int32)) % (6 : Int32)))])) τ
          refine XS.icmpYes X0.here hx rfl (pc0 := 41) (pc' := 60) rfl (hb hby at_41) rfl (feq q5).2 (by decide) (by decide) ?_
          show Steps p.tables e below (s₁.setTop (mkF m 60 #[.val (.long pa), .second, .val (.int pb), .val (.int po), .val (.double (FP.l2d pa)), .second, .val (.double (FP.i2d pb)), .second, .val (.int ((po &&& (2147483647 : Int32)) % (6 : Int32))), .unset, .unset, .unset, .unset, .unset, .unset, .unset] [])) τ
          refine XS.iload X0.here hx rfl (hb hby at_60) rfl ?_
          show Steps p.tables e below (s₁.setTop (mkF m 62 #[.val (.long pa), .second, .val (.int pb), .val (.int po), .val (.double (FP.l2d pa)), .second, .val (.double (FP.i2d pb)), .second, .val (.int ((po &&& (2147483647 : Int32)) % (6 : Int32))), .unset, .unset, .unset, .unset, .unset, .unset, .unset] [(.int ((po &&& (2147483647 : Int32)) % (6 : Int32)))])) τ
          refine XS.iconst X0.here hx rfl (hb hby at_62) ?_
          exact kt)
        by_cases q4 : ((po &&& (2147483647 : Int32)) % (6 : Int32)) = (2 : Int32)
        · skip
          have pre39 : ∀ τ, Steps p.tables e below (s₁.setTop (mkF m 139 #[.val (.long pa), .second, .val (.int pb), .val (.int po), .val (.double (FP.l2d pa)), .second, .val (.double (FP.i2d pb)), .second, .val (.int ((po &&& (2147483647 : Int32)) % (6 : Int32))), .val (.double (FP.l2d pa)), .second, .val (.double (FP.dneg (FP.l2d pa))), .second, .val (.double (FP.i2d pb)), .second, .unset] [])) τ → Steps p.tables e below (s₁.setTop (entryFrame m #[(.long pa), (.int pb), (.int po)] maxLocals)) τ := fun τ kt => pre38 τ (by
            show Steps p.tables e below (s₁.setTop (mkF m 63 #[.val (.long pa), .second, .val (.int pb), .val (.int po), .val (.double (FP.l2d pa)), .second, .val (.double (FP.i2d pb)), .second, .val (.int ((po &&& (2147483647 : Int32)) % (6 : Int32))), .unset, .unset, .unset, .unset, .unset, .unset, .unset] [(.int (2 : Int32)), (.int ((po &&& (2147483647 : Int32)) % (6 : Int32)))])) τ
            refine XS.icmpNo X0.here hx rfl (hb hby at_63) rfl (teq q4).2 ?_
            show Steps p.tables e below (s₁.setTop (mkF m 66 #[.val (.long pa), .second, .val (.int pb), .val (.int po), .val (.double (FP.l2d pa)), .second, .val (.double (FP.i2d pb)), .second, .val (.int ((po &&& (2147483647 : Int32)) % (6 : Int32))), .unset, .unset, .unset, .unset, .unset, .unset, .unset] [])) τ
            refine own_dload X0.here hx rfl (hb hby at_66) rfl ?_
            show Steps p.tables e below (s₁.setTop (mkF m 68 #[.val (.long pa), .second, .val (.int pb), .val (.int po), .val (.double (FP.l2d pa)), .second, .val (.double (FP.i2d pb)), .second, .val (.int ((po &&& (2147483647 : Int32)) % (6 : Int32))), .unset, .unset, .unset, .unset, .unset, .unset, .unset] [(.double (FP.l2d pa))])) τ
            refine own_dstore X0.here hx rfl (hb hby at_68) rfl (l' := #[.val (.long pa), .second, .val (.int pb), .val (.int po), .val (.double (FP.l2d pa)), .second, .val (.double (FP.i2d pb)), .second, .val (.int ((po &&& (2147483647 : Int32)) % (6 : Int32))), .val (.double (FP.l2d pa)), .second, .unset, .unset, .unset, .unset, .unset]) rfl ?_
            show Steps p.tables e below (s₁.setTop (mkF m 70 #[.val (.long pa), .second, .val (.int pb), .val (.int po), .val (.double (FP.l2d pa)), .second, .val (.double (FP.i2d pb)), .second, .val (.int ((po &&& (2147483647 : Int32)) % (6 : Int32))), .val (.double (FP.l2d pa)), .second, .unset, .unset, .unset, .unset, .unset] [])) τ
            refine own_dload X0.here hx rfl (hb hby at_70) rfl ?_
            show Steps p.tables e below (s₁.setTop (mkF m 72 #[.val (.long pa), .second, .val (.int pb), .val (.int po), .val (.double (FP.l2d pa)), .second, .val (.double (FP.i2d pb)), .second, .val (.int ((po &&& (2147483647 : Int32)) % (6 : Int32))), .val (.double (FP.l2d pa)), .second, .unset, .unset, .unset, .unset, .unset] [(.double (FP.l2d pa))])) τ
            refine own_dneg X0.here hx rfl (hb hby at_72) rfl ?_
            show Steps p.tables e below (s₁.setTop (mkF m 73 #[.val (.long pa), .second, .val (.int pb), .val (.int po), .val (.double (FP.l2d pa)), .second, .val (.double (FP.i2d pb)), .second, .val (.int ((po &&& (2147483647 : Int32)) % (6 : Int32))), .val (.double (FP.l2d pa)), .second, .unset, .unset, .unset, .unset, .unset] [(.double (FP.dneg (FP.l2d pa)))])) τ
            refine own_dstore X0.here hx rfl (hb hby at_73) rfl (l' := #[.val (.long pa), .second, .val (.int pb), .val (.int po), .val (.double (FP.l2d pa)), .second, .val (.double (FP.i2d pb)), .second, .val (.int ((po &&& (2147483647 : Int32)) % (6 : Int32))), .val (.double (FP.l2d pa)), .second, .val (.double (FP.dneg (FP.l2d pa))), .second, .unset, .unset, .unset]) rfl ?_
            show Steps p.tables e below (s₁.setTop (mkF m 75 #[.val (.long pa), .second, .val (.int pb), .val (.int po), .val (.double (FP.l2d pa)), .second, .val (.double (FP.i2d pb)), .second, .val (.int ((po &&& (2147483647 : Int32)) % (6 : Int32))), .val (.double (FP.l2d pa)), .second, .val (.double (FP.dneg (FP.l2d pa))), .second, .unset, .unset, .unset] [])) τ
            refine own_dload X0.here hx rfl (hb hby at_75) rfl ?_
            show Steps p.tables e below (s₁.setTop (mkF m 77 #[.val (.long pa), .second, .val (.int pb), .val (.int po), .val (.double (FP.l2d pa)), .second, .val (.double (FP.i2d pb)), .second, .val (.int ((po &&& (2147483647 : Int32)) % (6 : Int32))), .val (.double (FP.l2d pa)), .second, .val (.double (FP.dneg (FP.l2d pa))), .second, .unset, .unset, .unset] [(.double (FP.i2d pb))])) τ
            refine own_dstore X0.here hx rfl (hb hby at_77) rfl (l' := #[.val (.long pa), .second, .val (.int pb), .val (.int po), .val (.double (FP.l2d pa)), .second, .val (.double (FP.i2d pb)), .second, .val (.int ((po &&& (2147483647 : Int32)) % (6 : Int32))), .val (.double (FP.l2d pa)), .second, .val (.double (FP.dneg (FP.l2d pa))), .second, .val (.double (FP.i2d pb)), .second, .unset]) rfl ?_
            show Steps p.tables e below (s₁.setTop (mkF m 79 #[.val (.long pa), .second, .val (.int pb), .val (.int po), .val (.double (FP.l2d pa)), .second, .val (.double (FP.i2d pb)), .second, .val (.int ((po &&& (2147483647 : Int32)) % (6 : Int32))), .val (.double (FP.l2d pa)), .second, .val (.double (FP.dneg (FP.l2d pa))), .second, .val (.double (FP.i2d pb)), .second, .unset] [])) τ
            refine XS.goto X0.here hx rfl (pc0 := 79) (pc' := 139) rfl (hb hby at_79) (by decide) (by decide) ?_
            exact kt)
          exact ⟨(FP.l2d pa), (FP.dneg (FP.l2d pa)), (FP.i2d pb), ⟨B, -B, pb.toInt, hB, hB', hbd, by omega, by omega, by omega, by omega, by omega⟩, pre39⟩
        · skip
          have pre40 : ∀ τ, Steps p.tables e below (s₁.setTop (mkF m 85 #[.val (.long pa), .second, .val (.int pb), .val (.int po), .val (.double (FP.l2d pa)), .second, .val (.double (FP.i2d pb)), .second, .val (.int ((po &&& (2147483647 : Int32)) % (6 : Int32))), .unset, .unset, .unset, .unset, .unset, .unset, .unset] [(.int (3 : Int32)), (.int ((po &&& (2147483647 : Int32)) % (6 : Int32)))])) τ → Steps p.tables e below (s₁.setTop (entryFrame m #[(.long pa), (.int pb), (.int po)] maxLocals)) τ := fun τ kt => pre38 τ (by
            show Steps p.tables e below (s₁.setTop (mkF m 63 #[.val (.long pa), .second, .val (.int pb), .val (.int po), .val (.double (FP.l2d pa)), .second, .val (.double (FP.i2d pb)), .second, .val (.int ((po &&& (2147483647 : Int32)) % (6 : Int32))), .unset, .unset, .unset, .unset, .unset, .unset, .unset] [(.int (2 : Int32)), (.int ((po &&& (2147483647 : Int32)) % (6 : Int32)))])) τ
            refine XS.icmpYes X0.here hx rfl (pc0 := 63) (pc' := 82) rfl (hb hby at_63) rfl (feq q4).2 (by decide) (by decide) ?_
            show Steps p.tables e below (s₁.setTop (mkF m 82 #[.val (.long pa), .second, .val (.int pb), .val (.int po), .val (.double (FP.l2d pa)), .second, .val (.double (FP.i2d pb)), .second, .val (.int ((po &&& (2147483647 : Int32)) % (6 : Int32))), .unset, .unset, .unset, .unset, .unset, .unset, .unset] [])) τ
            refine XS.iload X0.here hx rfl (hb hby at_82) rfl ?_
            show Steps p.tables e below (s₁.setTop (mkF m 84 #[.val (.long pa), .second, .val (.int pb), .val (.int po), .val (.double (FP.l2d pa)), .second, .val (.double (FP.i2d pb)), .second, .val (.int ((po &&& (2147483647 : Int32)) % (6 : Int32))), .unset, .unset, .unset, .unset, .unset, .unset, .unset] [(.int ((po &&& (2147483647 : Int32)) % (6 : Int32)))])) τ
            refine XS.iconst X0.here hx rfl (hb hby at_84) ?_
            exact kt)
          by_cases q3 : ((po &&& (2147483647 : Int32)) % (6 : Int32)) = (3 : Int32)
          · skip
            have pre41 : ∀ τ, Steps p.tables e below (s₁.setTop (mkF m 139 #[.val (.long pa), .second, .val (.int pb), .val (.int po), .val (.double (FP.l2d pa)), .second, .val (.double (FP.i2d pb)), .second, .val (.int ((po &&& (2147483647 : Int32)) % (6 : Int32))), .val (.double (FP.dneg (FP.l2d pa))), .second, .val (.double (FP.i2d pb)), .second, .val (.double (FP.l2d pa)), .second, .unset] [])) τ → Steps p.tables e below (s₁.setTop (entryFrame m #[(.long pa), (.int pb), (.int po)] maxLocals)) τ := fun τ kt => pre40 τ (by
              show Steps p.tables e below (s₁.setTop (mkF m 85 #[.val (.long pa), .second, .val (.int pb), .val (.int po), .val (.double (FP.l2d pa)), .second, .val (.double (FP.i2d pb)), .second, .val (.int ((po &&& (2147483647 : Int32)) % (6 : Int32))), .unset, .unset, .unset, .unset, .unset, .unset, .unset] [(.int (3 : Int32)), (.int ((po &&& (2147483647 : Int32)) % (6 : Int32)))])) τ
              refine XS.icmpNo X0.here hx rfl (hb hby at_85) rfl (teq q3).2 ?_
              show Steps p.tables e below (s₁.setTop (mkF m 88 #[.val (.long pa), .second, .val (.int pb), .val (.int po), .val (.double (FP.l2d pa)), .second, .val (.double (FP.i2d pb)), .second, .val (.int ((po &&& (2147483647 : Int32)) % (6 : Int32))), .unset, .unset, .unset, .unset, .unset, .unset, .unset] [])) τ
              refine own_dload X0.here hx rfl (hb hby at_88) rfl ?_
              show Steps p.tables e below (s₁.setTop (mkF m 90 #[.val (.long pa), .second, .val (.int pb), .val (.int po), .val (.double (FP.l2d pa)), .second, .val (.double (FP.i2d pb)), .second, .val (.int ((po &&& (2147483647 : Int32)) % (6 : Int32))), .unset, .unset, .unset, .unset, .unset, .unset, .unset] [(.double (FP.l2d pa))])) τ
              refine own_dneg X0.here hx rfl (hb hby at_90) rfl ?_
              show Steps p.tables e below (s₁.setTop (mkF m 91 #[.val (.long pa), .second, .val (.int pb), .val (.int po), .val (.double (FP.l2d pa)), .second, .val (.double (FP.i2d pb)), .second, .val (.int ((po &&& (2147483647 : Int32)) % (6 : Int32))), .unset, .unset, .unset, .unset, .unset, .unset, .unset] [(.double (FP.dneg (FP.l2d pa)))])) τ
              refine own_dstore X0.here hx rfl (hb hby at_91) rfl (l' := #[.val (.long pa), .second, .val (.int pb), .val (.int po), .val (.double (FP.l2d pa)), .second, .val (.double (FP.i2d pb)), .second, .val (.int ((po &&& (2147483647 : Int32)) % (6 : Int32))), .val (.double (FP.dneg (FP.l2d pa))), .second, .unset, .unset, .unset, .unset, .unset]) rfl ?_
              show Steps p.tables e below (s₁.setTop (mkF m 93 #[.val (.long pa), .second, .val (.int pb), .val (.int po), .val (.double (FP.l2d pa)), .second, .val (.double (FP.i2d pb)), .second, .val (.int ((po &&& (2147483647 : Int32)) % (6 : Int32))), .val (.double (FP.dneg (FP.l2d pa))), .second, .unset, .unset, .unset, .unset, .unset] [])) τ
              refine own_dload X0.here hx rfl (hb hby at_93) rfl ?_
              show Steps p.tables e below (s₁.setTop (mkF m 95 #[.val (.long pa), .second, .val (.int pb), .val (.int po), .val (.double (FP.l2d pa)), .second, .val (.double (FP.i2d pb)), .second, .val (.int ((po &&& (2147483647 : Int32)) % (6 : Int32))), .val (.double (FP.dneg (FP.l2d pa))), .second, .unset, .unset, .unset, .unset, .unset] [(.double (FP.i2d pb))])) τ
              refine own_dstore X0.here hx rfl (hb hby at_95) rfl (l' := #[.val (.long pa), .second, .val (.int pb), .val (.int po), .val (.double (FP.l2d pa)), .second, .val (.double (FP.i2d pb)), .second, .val (.int ((po &&& (2147483647 : Int32)) % (6 : Int32))), .val (.double (FP.dneg (FP.l2d pa))), .second, .val (.double (FP.i2d pb)), .second, .unset, .unset, .unset]) rfl ?_
              show Steps p.tables e below (s₁.setTop (mkF m 97 #[.val (.long pa), .second, .val (.int pb), .val (.int po), .val (.double (FP.l2d pa)), .second, .val (.double (FP.i2d pb)), .second, .val (.int ((po &&& (2147483647 : Int32)) % (6 : Int32))), .val (.double (FP.dneg (FP.l2d pa))), .second, .val (.double (FP.i2d pb)), .second, .unset, .unset, .unset] [])) τ
              refine own_dload X0.here hx rfl (hb hby at_97) rfl ?_
              show Steps p.tables e below (s₁.setTop (mkF m 99 #[.val (.long pa), .second, .val (.int pb), .val (.int po), .val (.double (FP.l2d pa)), .second, .val (.double (FP.i2d pb)), .second, .val (.int ((po &&& (2147483647 : Int32)) % (6 : Int32))), .val (.double (FP.dneg (FP.l2d pa))), .second, .val (.double (FP.i2d pb)), .second, .unset, .unset, .unset] [(.double (FP.l2d pa))])) τ
              refine own_dstore X0.here hx rfl (hb hby at_99) rfl (l' := #[.val (.long pa), .second, .val (.int pb), .val (.int po), .val (.double (FP.l2d pa)), .second, .val (.double (FP.i2d pb)), .second, .val (.int ((po &&& (2147483647 : Int32)) % (6 : Int32))), .val (.double (FP.dneg (FP.l2d pa))), .second, .val (.double (FP.i2d pb)), .second, .val (.double (FP.l2d pa)), .second, .unset]) rfl ?_
              show Steps p.tables e below (s₁.setTop (mkF m 101 #[.val (.long pa), .second, .val (.int pb), .val (.int po), .val (.double (FP.l2d pa)), .second, .val (.double (FP.i2d pb)), .second, .val (.int ((po &&& (2147483647 : Int32)) % (6 : Int32))), .val (.double (FP.dneg (FP.l2d pa))), .second, .val (.double (FP.i2d pb)), .second, .val (.double (FP.l2d pa)), .second, .unset] [])) τ
              refine XS.goto X0.here hx rfl (pc0 := 101) (pc' := 139) rfl (hb hby at_101) (by decide) (by decide) ?_
              exact kt)
            exact ⟨(FP.dneg (FP.l2d pa)), (FP.i2d pb), (FP.l2d pa), ⟨-B, pb.toInt, B, hB', hbd, hB, by omega, by omega, by omega, by omega, by omega⟩, pre41⟩
          · skip
            have pre42 : ∀ τ, Steps p.tables e below (s₁.setTop (mkF m 107 #[.val (.long pa), .second, .val (.int pb), .val (.int po), .val (.double (FP.l2d pa)), .second, .val (.double (FP.i2d pb)), .second, .val (.int ((po &&& (2147483647 : Int32)) % (6 : Int32))), .unset, .unset, .unset, .unset, .unset, .unset, .unset] [(.int (4 : Int32)), (.int ((po &&& (2147483647 : Int32)) % (6 : Int32)))])) τ → Steps p.tables e below (s₁.setTop (entryFrame m #[(.long pa), (.int pb), (.int po)] maxLocals)) τ := fun τ kt => pre40 τ (by
              show Steps p.tables e below (s₁.setTop (mkF m 85 #[.val (.long pa), .second, .val (.int pb), .val (.int po), .val (.double (FP.l2d pa)), .second, .val (.double (FP.i2d pb)), .second, .val (.int ((po &&& (2147483647 : Int32)) % (6 : Int32))), .unset, .unset, .unset, .unset, .unset, .unset, .unset] [(.int (3 : Int32)), (.int ((po &&& (2147483647 : Int32)) % (6 : Int32)))])) τ
              refine XS.icmpYes X0.here hx rfl (pc0 := 85) (pc' := 104) rfl (hb hby at_85) rfl (feq q3).2 (by decide) (by decide) ?_
              show Steps p.tables e below (s₁.setTop (mkF m 104 #[.val (.long pa), .second, .val (.int pb), .val (.int po), .val (.double (FP.l2d pa)), .second, .val (.double (FP.i2d pb)), .second, .val (.int ((po &&& (2147483647 : Int32)) % (6 : Int32))), .unset, .unset, .unset, .unset, .unset, .unset, .unset] [])) τ
              refine XS.iload X0.here hx rfl (hb hby at_104) rfl ?_
              show Steps p.tables e below (s₁.setTop (mkF m 106 #[.val (.long pa), .second, .val (.int pb), .val (.int po), .val (.double (FP.l2d pa)), .second, .val (.double (FP.i2d pb)), .second, .val (.int ((po &&& (2147483647 : Int32)) % (6 : Int32))), .unset, .unset, .unset, .unset, .unset, .unset, .unset] [(.int ((po &&& (2147483647 : Int32)) % (6 : Int32)))])) τ
              refine XS.iconst X0.here hx rfl (hb hby at_106) ?_
              exact kt)
            by_cases q2 : ((po &&& (2147483647 : Int32)) % (6 : Int32)) = (4 : Int32)
            · skip
              have pre43 : ∀ τ, Steps p.tables e below (s₁.setTop (mkF m 139 #[.val (.long pa), .second, .val (.int pb), .val (.int po), .val (.double (FP.l2d pa)), .second, .val (.double (FP.i2d pb)), .second, .val (.int ((po &&& (2147483647 : Int32)) % (6 : Int32))), .val (.double (FP.i2d pb)), .second, .val (.double (FP.dneg (FP.l2d pa))), .second, .val (.double (FP.l2d pa)), .second, .unset] [])) τ → Steps p.tables e below (s₁.setTop (entryFrame m #[(.long pa), (.int pb), (.int po)] maxLocals)) τ := fun τ kt => pre42 τ (by
                show Steps p.tables e below (s₁.setTop (mkF m 107 #[.val (.long pa), .second, .val (.int pb), .val (.int po), .val (.double (FP.l2d pa)), .second, .val (.double (FP.i2d pb)), .second, .val (.int ((po &&& (2147483647 : Int32)) % (6 : Int32))), .unset, .unset, .unset, .unset, .unset, .unset, .unset] [(.int (4 : Int32)), (.int ((po &&& (2147483647 : Int32)) % (6 : Int32)))])) τ
                refine XS.icmpNo X0.here hx rfl (hb hby at_107) rfl (teq q2).2 ?_
                show Steps p.tables e below (s₁.setTop (mkF m 110 #[.val (.long pa), .second, .val (.int pb), .val (.int po), .val (.double (FP.l2d pa)), .second, .val (.double (FP.i2d pb)), .second, .val (.int ((po &&& (2147483647 : Int32)) % (6 : Int32))), .unset, .unset, .unset, .unset, .unset, .unset, .unset] [])) τ
                refine own_dload X0.here hx rfl (hb hby at_110) rfl ?_
                show Steps p.tables e below (s₁.setTop (mkF m 112 #[.val (.long pa), .second, .val (.int pb), .val (.int po), .val (.double (FP.l2d pa)), .second, .val (.double (FP.i2d pb)), .second, .val (.int ((po &&& (2147483647 : Int32)) % (6 : Int32))), .unset, .unset, .unset, .unset, .unset, .unset, .unset] [(.double (FP.i2d pb))])) τ
                refine own_dstore X0.here hx rfl (hb hby at_112) rfl (l' := #[.val (.long pa), .second, .val (.int pb), .val (.int po), .val (.double (FP.l2d pa)), .second, .val (.double (FP.i2d pb)), .second, .val (.int ((po &&& (2147483647 : Int32)) % (6 : Int32))), .val (.double (FP.i2d pb)), .second, .unset, .unset, .unset, .unset, .unset]) rfl ?_
                show Steps p.tables e below (s₁.setTop (mkF m 114 #[.val (.long pa), .second, .val (.int pb), .val (.int po), .val (.double (FP.l2d pa)), .second, .val (.double (FP.i2d pb)), .second, .val (.int ((po &&& (2147483647 : Int32)) % (6 : Int32))), .val (.double (FP.i2d pb)), .second, .unset, .unset, .unset, .unset, .unset] [])) τ
                refine own_dload X0.here hx rfl (hb hby at_114) rfl ?_
                show Steps p.tables e below (s₁.setTop (mkF m 116 #[.val (.long pa), .second, .val (.int pb), .val (.int po), .val (.double (FP.l2d pa)), .second, .val (.double (FP.i2d pb)), .second, .val (.int ((po &&& (2147483647 : Int32)) % (6 : Int32))), .val (.double (FP.i2d pb)), .second, .unset, .unset, .unset, .unset, .unset] [(.double (FP.l2d pa))])) τ
                refine own_dneg X0.here hx rfl (hb hby at_116) rfl ?_
                show Steps p.tables e below (s₁.setTop (mkF m 117 #[.val (.long pa), .second, .val (.int pb), .val (.int po), .val (.double (FP.l2d pa)), .second, .val (.double (FP.i2d pb)), .second, .val (.int ((po &&& (2147483647 : Int32)) % (6 : Int32))), .val (.double (FP.i2d pb)), .second, .unset, .unset, .unset, .unset, .unset] [(.double (FP.dneg (FP.l2d pa)))])) τ
                refine own_dstore X0.here hx rfl (hb hby at_117) rfl (l' := #[.val (.long pa), .second, .val (.int pb), .val (.int po), .val (.double (FP.l2d pa)), .second, .val (.double (FP.i2d pb)), .second, .val (.int ((po &&& (2147483647 : Int32)) % (6 : Int32))), .val (.double (FP.i2d pb)), .second, .val (.double (FP.dneg (FP.l2d pa))), .second, .unset, .unset, .unset]) rfl ?_
                show Steps p.tables e below (s₁.setTop (mkF m 119 #[.val (.long pa), .second, .val (.int pb), .val (.int po), .val (.double (FP.l2d pa)), .second, .val (.double (FP.i2d pb)), .second, .val (.int ((po &&& (2147483647 : Int32)) % (6 : Int32))), .val (.double (FP.i2d pb)), .second, .val (.double (FP.dneg (FP.l2d pa))), .second, .unset, .unset, .unset] [])) τ
                refine own_dload X0.here hx rfl (hb hby at_119) rfl ?_
                show Steps p.tables e below (s₁.setTop (mkF m 121 #[.val (.long pa), .second, .val (.int pb), .val (.int po), .val (.double (FP.l2d pa)), .second, .val (.double (FP.i2d pb)), .second, .val (.int ((po &&& (2147483647 : Int32)) % (6 : Int32))), .val (.double (FP.i2d pb)), .second, .val (.double (FP.dneg (FP.l2d pa))), .second, .unset, .unset, .unset] [(.double (FP.l2d pa))])) τ
                refine own_dstore X0.here hx rfl (hb hby at_121) rfl (l' := #[.val (.long pa), .second, .val (.int pb), .val (.int po), .val (.double (FP.l2d pa)), .second, .val (.double (FP.i2d pb)), .second, .val (.int ((po &&& (2147483647 : Int32)) % (6 : Int32))), .val (.double (FP.i2d pb)), .second, .val (.double (FP.dneg (FP.l2d pa))), .second, .val (.double (FP.l2d pa)), .second, .unset]) rfl ?_
                show Steps p.tables e below (s₁.setTop (mkF m 123 #[.val (.long pa), .second, .val (.int pb), .val (.int po), .val (.double (FP.l2d pa)), .second, .val (.double (FP.i2d pb)), .second, .val (.int ((po &&& (2147483647 : Int32)) % (6 : Int32))), .val (.double (FP.i2d pb)), .second, .val (.double (FP.dneg (FP.l2d pa))), .second, .val (.double (FP.l2d pa)), .second, .unset] [])) τ
                refine XS.goto X0.here hx rfl (pc0 := 123) (pc' := 139) rfl (hb hby at_123) (by decide) (by decide) ?_
                exact kt)
              exact ⟨(FP.i2d pb), (FP.dneg (FP.l2d pa)), (FP.l2d pa), ⟨pb.toInt, -B, B, hbd, hB', hB, by omega, by omega, by omega, by omega, by omega⟩, pre43⟩
            · skip
              have pre44 : ∀ τ, Steps p.tables e below (s₁.setTop (mkF m 139 #[.val (.long pa), .second, .val (.int pb), .val (.int po), .val (.double (FP.l2d pa)), .second, .val (.double (FP.i2d pb)), .second, .val (.int ((po &&& (2147483647 : Int32)) % (6 : Int32))), .val (.double (FP.dneg (FP.l2d pa))), .second, .val (.double (FP.l2d pa)), .second, .val (.double (FP.i2d pb)), .second, .unset] [])) τ → Steps p.tables e below (s₁.setTop (entryFrame m #[(.long pa), (.int pb), (.int po)] maxLocals)) τ := fun τ kt => pre42 τ (by
                show Steps p.tables e below (s₁.setTop (mkF m 107 #[.val (.long pa), .second, .val (.int pb), .val (.int po), .val (.double (FP.l2d pa)), .second, .val (.double (FP.i2d pb)), .second, .val (.int ((po &&& (2147483647 : Int32)) % (6 : Int32))), .unset, .unset, .unset, .unset, .unset, .unset, .unset] [(.int (4 : Int32)), (.int ((po &&& (2147483647 : Int32)) % (6 : Int32)))])) τ
                refine XS.icmpYes X0.here hx rfl (pc0 := 107) (pc' := 126) rfl (hb hby at_107) rfl (feq q2).2 (by decide) (by decide) ?_
                show Steps p.tables e below (s₁.setTop (mkF m 126 #[.val (.long pa), .second, .val (.int pb), .val (.int po), .val (.double (FP.l2d pa)), .second, .val (.double (FP.i2d pb)), .second, .val (.int ((po &&& (2147483647 : Int32)) % (6 : Int32))), .unset, .unset, .unset, .unset, .unset, .unset, .unset] [])) τ
                refine own_dload X0.here hx rfl (hb hby at_126) rfl ?_
                show Steps p.tables e below (s₁.setTop (mkF m 128 #[.val (.long pa), .second, .val (.int pb), .val (.int po), .val (.double (FP.l2d pa)), .second, .val (.double (FP.i2d pb)), .second, .val (.int ((po &&& (2147483647 : Int32)) % (6 : Int32))), .unset, .unset, .unset, .unset, .unset, .unset, .unset] [(.double (FP.l2d pa))])) τ
                refine own_dneg X0.here hx rfl (hb hby at_128) rfl ?_
                show Steps p.tables e below (s₁.setTop (mkF m 129 #[.val (.long pa), .second, .val (.int pb), .val (.int po), .val (.double (FP.l2d pa)), .second, .val (.double (FP.i2d pb)), .second, .val (.int ((po &&& (2147483647 : Int32)) % (6 : Int32))), .unset, .unset, .unset, .unset, .unset, .unset, .unset] [(.double (FP.dneg (FP.l2d pa)))])) τ
                refine own_dstore X0.here hx rfl (hb hby at_129) rfl (l' := #[.val (.long pa), .second, .val (.int pb), .val (.int po), .val (.double (FP.l2d pa)), .second, .val (.double (FP.i2d pb)), .second, .val (.int ((po &&& (2147483647 : Int32)) % (6 : Int32))), .val (.double (FP.dneg (FP.l2d pa))), .second, .unset, .unset, .unset, .unset, .unset]) rfl ?_
                show Steps p.tables e below (s₁.setTop (mkF m 131 #[.val (.long pa), .second, .val (.int pb), .val (.int po), .val (.double (FP.l2d pa)), .second, .val (.double (FP.i2d pb)), .second, .val (.int ((po &&& (2147483647 : Int32)) % (6 : Int32))), .val (.double (FP.dneg (FP.l2d pa))), .second, .unset, .unset, .unset, .unset, .unset] [])) τ
                refine own_dload X0.here hx rfl (hb hby at_131) rfl ?_
                show Steps p.tables e below (s₁.setTop (mkF m 133 #[.val (.long pa), .second, .val (.int pb), .val (.int po), .val (.double (FP.l2d pa)), .second, .val (.double (FP.i2d pb)), .second, .val (.int ((po &&& (2147483647 : Int32)) % (6 : Int32))), .val (.double (FP.dneg (FP.l2d pa))), .second, .unset, .unset, .unset, .unset, .unset] [(.double (FP.l2d pa))])) τ
                refine own_dstore X0.here hx rfl (hb hby at_133) rfl (l' := #[.val (.long pa), .second, .val (.int pb), .val (.int po), .val (.double (FP.l2d pa)), .second, .val (.double (FP.i2d pb)), .second, .val (.int ((po &&& (2147483647 : Int32)) % (6 : Int32))), .val (.double (FP.dneg (FP.l2d pa))), .second, .val (.double (FP.l2d pa)), .second, .unset, .unset, .unset]) rfl ?_
                show Steps p.tables e below (s₁.setTop (mkF m 135 #[.val (.long pa), .second, .val (.int pb), .val (.int po), .val (.double (FP.l2d pa)), .second, .val (.double (FP.i2d pb)), .second, .val (.int ((po &&& (2147483647 : Int32)) % (6 : Int32))), .val (.double (FP.dneg (FP.l2d pa))), .second, .val (.double (FP.l2d pa)), .second, .unset, .unset, .unset] [])) τ
                refine own_dload X0.here hx rfl (hb hby at_135) rfl ?_
                show Steps p.tables e below (s₁.setTop (mkF m 137 #[.val (.long pa), .second, .val (.int pb), .val (.int po), .val (.double (FP.l2d pa)), .second, .val (.double (FP.i2d pb)), .second, .val (.int ((po &&& (2147483647 : Int32)) % (6 : Int32))), .val (.double (FP.dneg (FP.l2d pa))), .second, .val (.double (FP.l2d pa)), .second, .unset, .unset, .unset] [(.double (FP.i2d pb))])) τ
                refine own_dstore X0.here hx rfl (hb hby at_137) rfl (l' := #[.val (.long pa), .second, .val (.int pb), .val (.int po), .val (.double (FP.l2d pa)), .second, .val (.double (FP.i2d pb)), .second, .val (.int ((po &&& (2147483647 : Int32)) % (6 : Int32))), .val (.double (FP.dneg (FP.l2d pa))), .second, .val (.double (FP.l2d pa)), .second, .val (.double (FP.i2d pb)), .second, .unset]) rfl ?_
                exact kt)
              exact ⟨(FP.dneg (FP.l2d pa)), (FP.l2d pa), (FP.i2d pb), ⟨-B, B, pb.toInt, hB', hB, hbd, by omega, by omega, by omega, by omega, by omega⟩, pre44⟩
  obtain ⟨n1, e1, n2, e2, n3, e3, ⟨a1, a2, a3, a4, a5⟩, ⟨b1, b2, b3, b4, b5⟩, ⟨c1, c2, c3, c4, c5⟩, hv⟩ := own_dd (by omega) hj34
  obtain ⟨T45, h45, X45, e45, E45, A45, D45, -, st45⟩ := newO X0 hx hZ hown (hw _ (List.mem_of_getElem? (i := 1) rfl)) (hw _ (List.mem_of_getElem? (i := 2) rfl)) (hw _ (List.mem_of_getElem? (i := 3) rfl)) e0 (g := (mkF m 139 #[.val (.long pa), .second, .val (.int pb), .val (.int po), .val (.double (FP.l2d pa)), .second, .val (.double (FP.i2d pb)), .second, .val (.int ((po &&& (2147483647 : Int32)) % (6 : Int32))), .val (.double t1), .second, .val (.double t2), .second, .val (.double t3), .second, .unset] [])) rfl (hb hby at_139) (by decide) (by decide)
  obtain ⟨o1, g45⟩ : ∃ z, z = h0.size := ⟨_, rfl⟩
  rw [← g45] at A45 D45 st45
  have g_o1 : n0 ≤ o1 := Nat.le_trans (Nat.le_trans Z0 KK0.1) (Nat.le_of_eq g45.symm)
  have sz_o1 : h0.size ≤ o1 := Nat.le_trans KK0.1 (Nat.le_of_eq g45.symm)
  have K45 : Keep h0 h45 [] := KK0.ext E45
  have F_sum_o1 : Fld Z h45 o1 "com/example/meticulous_ballot/meticulousballot/DoubleDoubleSum" "sum" "D" (.double (0 : UInt64)) := D45 (Or.inl (hw _ (List.mem_of_getElem? (i := 16) rfl))) (ty := .double) (by decide)
  have F_error_o1 : Fld Z h45 o1 "com/example/meticulous_ballot/meticulousballot/DoubleDoubleSum" "error" "D" (.double (0 : UInt64)) := D45 (Or.inl (hw _ (List.mem_of_getElem? (i := 18) rfl))) (ty := .double) (by decide)
  have pre46 : ∀ τ, Steps p.tables e below (T45.setTop (mkF m 142 #[.val (.long pa), .second, .val (.int pb), .val (.int po), .val (.double (FP.l2d pa)), .second, .val (.double (FP.i2d pb)), .second, .val (.int ((po &&& (2147483647 : Int32)) % (6 : Int32))), .val (.double t1), .second, .val (.double t2), .second, .val (.double t3), .second, .unset] [(.ref o1)])) τ → Steps p.tables e below (s₁.setTop (entryFrame m #[(.long pa), (.int pb), (.int po)] maxLocals)) τ := fun τ kt => pre34 τ (st45 τ kt)
  have pre47 : ∀ τ, Steps p.tables e below (T45.setTop (mkF m 143 #[.val (.long pa), .second, .val (.int pb), .val (.int po), .val (.double (FP.l2d pa)), .second, .val (.double (FP.i2d pb)), .second, .val (.int ((po &&& (2147483647 : Int32)) % (6 : Int32))), .val (.double t1), .second, .val (.double t2), .second, .val (.double t3), .second, .unset] [(.ref o1), (.ref o1)])) τ → Steps p.tables e below (s₁.setTop (entryFrame m #[(.long pa), (.int pb), (.int po)] maxLocals)) τ := fun τ kt => pre46 τ (by
    show Steps p.tables e below (T45.setTop (mkF m 142 #[.val (.long pa), .second, .val (.int pb), .val (.int po), .val (.double (FP.l2d pa)), .second, .val (.double (FP.i2d pb)), .second, .val (.int ((po &&& (2147483647 : Int32)) % (6 : Int32))), .val (.double t1), .second, .val (.double t2), .second, .val (.double t3), .second, .unset] [(.ref o1)])) τ
    refine XS.dup X45.here hx rfl (hb hby at_142) rfl rfl ?_
    exact kt)
  obtain ⟨_, _, ⟨T48, L48, k48, n48⟩, -, X48, ⟨Lc48, hQ48, l48, y48, z48⟩, st48⟩ := X45.specialBack hx (y := (⟨"com/example/meticulous_ballot/meticulousballot/DoubleDoubleSum", "<init>", "()V"⟩ : MethodName)) rfl hown (mvT hZ (hw _ (List.mem_of_getElem? (i := 4) rfl))) (mvT hZ (hw _ (List.mem_of_getElem? (i := 5) rfl))) (mvT hZ (hw _ (List.mem_of_getElem? (i := 6) rfl))) (by decide) (backOf (W := 1) (rmI l Z a0 hw [] o1 h45 n0 (Nat.le_trans Z0 K45.1)) hZ (hw _ (List.mem_of_getElem? (i := 6) rfl)) (hw _ (List.mem_of_getElem? (i := 3) rfl)) (by decide) (by decide)) (g := (mkF m 143 #[.val (.long pa), .second, .val (.int pb), .val (.int po), .val (.double (FP.l2d pa)), .second, .val (.double (FP.i2d pb)), .second, .val (.int ((po &&& (2147483647 : Int32)) % (6 : Int32))), .val (.double t1), .second, .val (.double t2), .second, .val (.double t3), .second, .unset] [(.ref o1), (.ref o1)])) rfl (by rw [hml]; rfl) (Steps.refl _) (a := o1) (argsL := []) (rest := [(.ref o1)]) (lenOf own_pd___V rfl) rfl (by show 2 * 0 + _ ≤ _; exact Nat.le_of_eq rfl) (hb hby at_143) (fun _ _ => ⟨rfl, e45, (by decide : 1 + 0 ≤ _), (by decide : 2 + 0 ≤ _)⟩)
  dsimp only [Pt.U, Pt.locs, Pt.cells, Pt.slots] at X48 l48 y48 z48 st48 hQ48
  subst l48 y48 z48
  obtain ⟨rfl, Nq48, eq48⟩ := hQ48
  have N48 := Fr.app N0 Nq48
  have pre49 : ∀ τ, Steps p.tables e below (T48.setTop (mkF m 146 #[.val (.long pa), .second, .val (.int pb), .val (.int po), .val (.double (FP.l2d pa)), .second, .val (.double (FP.i2d pb)), .second, .val (.int ((po &&& (2147483647 : Int32)) % (6 : Int32))), .val (.double t1), .second, .val (.double t2), .second, .val (.double t3), .second, .unset] [(.ref o1)])) τ → Steps p.tables e below (s₁.setTop (entryFrame m #[(.long pa), (.int pb), (.int po)] maxLocals)) τ := fun τ kt => pre47 τ ((st48).trans kt)
  have pre50 : ∀ τ, Steps p.tables e below (T48.setTop (mkF m 152 #[.val (.long pa), .second, .val (.int pb), .val (.int po), .val (.double (FP.l2d pa)), .second, .val (.double (FP.i2d pb)), .second, .val (.int ((po &&& (2147483647 : Int32)) % (6 : Int32))), .val (.double t1), .second, .val (.double t2), .second, .val (.double t3), .second, .val (.ref o1)] [(.double t1), (.ref o1)])) τ → Steps p.tables e below (s₁.setTop (entryFrame m #[(.long pa), (.int pb), (.int po)] maxLocals)) τ := fun τ kt => pre49 τ (by
    show Steps p.tables e below (T48.setTop (mkF m 146 #[.val (.long pa), .second, .val (.int pb), .val (.int po), .val (.double (FP.l2d pa)), .second, .val (.double (FP.i2d pb)), .second, .val (.int ((po &&& (2147483647 : Int32)) % (6 : Int32))), .val (.double t1), .second, .val (.double t2), .second, .val (.double t3), .second, .unset] [(.ref o1)])) τ
    refine XS.astore X48.here hx rfl (hb hby at_146) rfl rfl (l' := #[.val (.long pa), .second, .val (.int pb), .val (.int po), .val (.double (FP.l2d pa)), .second, .val (.double (FP.i2d pb)), .second, .val (.int ((po &&& (2147483647 : Int32)) % (6 : Int32))), .val (.double t1), .second, .val (.double t2), .second, .val (.double t3), .second, .val (.ref o1)]) rfl ?_
    show Steps p.tables e below (T48.setTop (mkF m 148 #[.val (.long pa), .second, .val (.int pb), .val (.int po), .val (.double (FP.l2d pa)), .second, .val (.double (FP.i2d pb)), .second, .val (.int ((po &&& (2147483647 : Int32)) % (6 : Int32))), .val (.double t1), .second, .val (.double t2), .second, .val (.double t3), .second, .val (.ref o1)] [])) τ
    refine XS.aload X48.here hx rfl (hb hby at_148) rfl rfl ?_
    show Steps p.tables e below (T48.setTop (mkF m 150 #[.val (.long pa), .second, .val (.int pb), .val (.int po), .val (.double (FP.l2d pa)), .second, .val (.double (FP.i2d pb)), .second, .val (.int ((po &&& (2147483647 : Int32)) % (6 : Int32))), .val (.double t1), .second, .val (.double t2), .second, .val (.double t3), .second, .val (.ref o1)] [(.ref o1)])) τ
    refine own_dload X48.here hx rfl (hb hby at_150) rfl ?_
    exact kt)
  obtain ⟨cq51, kq51, qa51, qb51, qc51⟩ := isOf hZ eq48 A45
  obtain ⟨_, _, ⟨T51, L51, k51, n51⟩, -, X51, ⟨Lc51, hQ51, l51, y51, z51⟩, st51⟩ := X48.virtualBack hx (y := (⟨"com/example/meticulous_ballot/meticulousballot/DoubleDoubleSum", "add", "(D)V"⟩ : MethodName)) (z := (⟨"com/example/meticulous_ballot/meticulousballot/DoubleDoubleSum", "add", "(D)V"⟩ : MethodName)) hown (mvT hZ (hw _ (List.mem_of_getElem? (i := 10) rfl))) (mvT hZ (hw _ (List.mem_of_getElem? (i := 11) rfl))) (notFace_of_selects (args := #[]) (mvT hZ (hw _ (List.mem_of_getElem? (i := 13) rfl)))) (mvT hZ (hw _ (List.mem_of_getElem? (i := 13) rfl))) (mvT hZ (hw _ (List.mem_of_getElem? (i := 12) rfl))) (by decide) (backOf (W := 0) (rmA l Z a0 hw [] o1 t1 (0 : UInt64) (0 : UInt64) h45 n0 (Nat.le_trans Z0 K45.1) A45 F_sum_o1 F_error_o1 g_o1 (a1 ▸ a3) (a1 ▸ a4) (by rw [← a1, ← a2]; exact a5)) hZ (hw _ (List.mem_of_getElem? (i := 14) rfl)) (hw _ (List.mem_of_getElem? (i := 3) rfl)) (by decide) (by decide)) qa51 qc51 (g := (mkF m 152 #[.val (.long pa), .second, .val (.int pb), .val (.int po), .val (.double (FP.l2d pa)), .second, .val (.double (FP.i2d pb)), .second, .val (.int ((po &&& (2147483647 : Int32)) % (6 : Int32))), .val (.double t1), .second, .val (.double t2), .second, .val (.double t3), .second, .val (.ref o1)] [(.double t1), (.ref o1)])) rfl (by rw [hml]; rfl) (Steps.refl _) (argsL := [(.double t1)]) (rest := []) (lenOf own_pd__D_V rfl) rfl (by show 2 * 0 + _ ≤ _; exact Nat.le_of_eq rfl) (hb hby at_152) (fun _ _ => ⟨rfl, eq48, (by decide : 1 + 0 ≤ _), (by decide : 2 + 0 ≤ _)⟩)
  dsimp only [Pt.U, Pt.locs, Pt.cells, Pt.slots] at X51 l51 y51 z51 st51 hQ51
  subst l51 y51 z51
  obtain ⟨rfl, Nq51, Kq51, Fs51, Fe51⟩ := hQ51
  have N51 := Fr.app N48 Nq51
  have K51 : Keep h0 T51.heap [] := K45.trans Kq51 (allS (Or.inr sz_o1) (all0))
  have pre52 : ∀ τ, Steps p.tables e below (T51.setTop (mkF m 155 #[.val (.long pa), .second, .val (.int pb), .val (.int po), .val (.double (FP.l2d pa)), .second, .val (.double (FP.i2d pb)), .second, .val (.int ((po &&& (2147483647 : Int32)) % (6 : Int32))), .val (.double t1), .second, .val (.double t2), .second, .val (.double t3), .second, .val (.ref o1)] [])) τ → Steps p.tables e below (s₁.setTop (entryFrame m #[(.long pa), (.int pb), (.int po)] maxLocals)) τ := fun τ kt => pre50 τ ((st51).trans kt)
  rw [← a1] at Fs51 Fe51
  rw [← a2] at Fe51
  have f53 := A45.keep Kq51
  have pre54 : ∀ τ, Steps p.tables e below (T51.setTop (mkF m 159 #[.val (.long pa), .second, .val (.int pb), .val (.int po), .val (.double (FP.l2d pa)), .second, .val (.double (FP.i2d pb)), .second, .val (.int ((po &&& (2147483647 : Int32)) % (6 : Int32))), .val (.double t1), .second, .val (.double t2), .second, .val (.double t3), .second, .val (.ref o1)] [(.double t2), (.ref o1)])) τ → Steps p.tables e below (s₁.setTop (entryFrame m #[(.long pa), (.int pb), (.int po)] maxLocals)) τ := fun τ kt => pre52 τ (by
    show Steps p.tables e below (T51.setTop (mkF m 155 #[.val (.long pa), .second, .val (.int pb), .val (.int po), .val (.double (FP.l2d pa)), .second, .val (.double (FP.i2d pb)), .second, .val (.int ((po &&& (2147483647 : Int32)) % (6 : Int32))), .val (.double t1), .second, .val (.double t2), .second, .val (.double t3), .second, .val (.ref o1)] [])) τ
    refine XS.aload X51.here hx rfl (hb hby at_155) rfl rfl ?_
    show Steps p.tables e below (T51.setTop (mkF m 157 #[.val (.long pa), .second, .val (.int pb), .val (.int po), .val (.double (FP.l2d pa)), .second, .val (.double (FP.i2d pb)), .second, .val (.int ((po &&& (2147483647 : Int32)) % (6 : Int32))), .val (.double t1), .second, .val (.double t2), .second, .val (.double t3), .second, .val (.ref o1)] [(.ref o1)])) τ
    refine own_dload X51.here hx rfl (hb hby at_157) rfl ?_
    exact kt)
  obtain ⟨cq55, kq55, qa55, qb55, qc55⟩ := isOf hZ rfl f53
  obtain ⟨_, _, ⟨T55, L55, k55, n55⟩, -, X55, ⟨Lc55, hQ55, l55, y55, z55⟩, st55⟩ := X51.virtualBack hx (y := (⟨"com/example/meticulous_ballot/meticulousballot/DoubleDoubleSum", "add", "(D)V"⟩ : MethodName)) (z := (⟨"com/example/meticulous_ballot/meticulousballot/DoubleDoubleSum", "add", "(D)V"⟩ : MethodName)) hown (mvT hZ (hw _ (List.mem_of_getElem? (i := 10) rfl))) (mvT hZ (hw _ (List.mem_of_getElem? (i := 11) rfl))) (notFace_of_selects (args := #[]) (mvT hZ (hw _ (List.mem_of_getElem? (i := 13) rfl)))) (mvT hZ (hw _ (List.mem_of_getElem? (i := 13) rfl))) (mvT hZ (hw _ (List.mem_of_getElem? (i := 12) rfl))) (by decide) (backOf (W := 0) (rmA l Z a0 hw [] o1 t2 n1 e1 T51.heap n0 (Nat.le_trans Z0 K51.1) f53 Fs51 Fe51 g_o1 (b1 ▸ b3) (b1 ▸ b4) (by rw [← b1, ← b2]; exact b5)) hZ (hw _ (List.mem_of_getElem? (i := 14) rfl)) (hw _ (List.mem_of_getElem? (i := 3) rfl)) (by decide) (by decide)) qa55 qc55 (g := (mkF m 159 #[.val (.long pa), .second, .val (.int pb), .val (.int po), .val (.double (FP.l2d pa)), .second, .val (.double (FP.i2d pb)), .second, .val (.int ((po &&& (2147483647 : Int32)) % (6 : Int32))), .val (.double t1), .second, .val (.double t2), .second, .val (.double t3), .second, .val (.ref o1)] [(.double t2), (.ref o1)])) rfl (by rw [hml]; rfl) (Steps.refl _) (argsL := [(.double t2)]) (rest := []) (lenOf own_pd__D_V rfl) rfl (by show 2 * 0 + _ ≤ _; exact Nat.le_of_eq rfl) (hb hby at_159) (fun _ _ => ⟨rfl, rfl, (by decide : 1 + 0 ≤ _), (by decide : 2 + 0 ≤ _)⟩)
  dsimp only [Pt.U, Pt.locs, Pt.cells, Pt.slots] at X55 l55 y55 z55 st55 hQ55
  subst l55 y55 z55
  obtain ⟨rfl, Nq55, Kq55, Fs55, Fe55⟩ := hQ55
  have N55 := Fr.app N51 Nq55
  have K55 : Keep h0 T55.heap [] := K51.trans Kq55 (allS (Or.inr sz_o1) (all0))
  have pre56 : ∀ τ, Steps p.tables e below (T55.setTop (mkF m 162 #[.val (.long pa), .second, .val (.int pb), .val (.int po), .val (.double (FP.l2d pa)), .second, .val (.double (FP.i2d pb)), .second, .val (.int ((po &&& (2147483647 : Int32)) % (6 : Int32))), .val (.double t1), .second, .val (.double t2), .second, .val (.double t3), .second, .val (.ref o1)] [])) τ → Steps p.tables e below (s₁.setTop (entryFrame m #[(.long pa), (.int pb), (.int po)] maxLocals)) τ := fun τ kt => pre54 τ ((st55).trans kt)
  rw [← b1] at Fs55 Fe55
  rw [← b2] at Fe55
  have f57 := f53.keep Kq55
  have pre58 : ∀ τ, Steps p.tables e below (T55.setTop (mkF m 166 #[.val (.long pa), .second, .val (.int pb), .val (.int po), .val (.double (FP.l2d pa)), .second, .val (.double (FP.i2d pb)), .second, .val (.int ((po &&& (2147483647 : Int32)) % (6 : Int32))), .val (.double t1), .second, .val (.double t2), .second, .val (.double t3), .second, .val (.ref o1)] [(.double t3), (.ref o1)])) τ → Steps p.tables e below (s₁.setTop (entryFrame m #[(.long pa), (.int pb), (.int po)] maxLocals)) τ := fun τ kt => pre56 τ (by
    show Steps p.tables e below (T55.setTop (mkF m 162 #[.val (.long pa), .second, .val (.int pb), .val (.int po), .val (.double (FP.l2d pa)), .second, .val (.double (FP.i2d pb)), .second, .val (.int ((po &&& (2147483647 : Int32)) % (6 : Int32))), .val (.double t1), .second, .val (.double t2), .second, .val (.double t3), .second, .val (.ref o1)] [])) τ
    refine XS.aload X55.here hx rfl (hb hby at_162) rfl rfl ?_
    show Steps p.tables e below (T55.setTop (mkF m 164 #[.val (.long pa), .second, .val (.int pb), .val (.int po), .val (.double (FP.l2d pa)), .second, .val (.double (FP.i2d pb)), .second, .val (.int ((po &&& (2147483647 : Int32)) % (6 : Int32))), .val (.double t1), .second, .val (.double t2), .second, .val (.double t3), .second, .val (.ref o1)] [(.ref o1)])) τ
    refine own_dload X55.here hx rfl (hb hby at_164) rfl ?_
    exact kt)
  obtain ⟨cq59, kq59, qa59, qb59, qc59⟩ := isOf hZ rfl f57
  obtain ⟨_, _, ⟨T59, L59, k59, n59⟩, -, X59, ⟨Lc59, hQ59, l59, y59, z59⟩, st59⟩ := X55.virtualBack hx (y := (⟨"com/example/meticulous_ballot/meticulousballot/DoubleDoubleSum", "add", "(D)V"⟩ : MethodName)) (z := (⟨"com/example/meticulous_ballot/meticulousballot/DoubleDoubleSum", "add", "(D)V"⟩ : MethodName)) hown (mvT hZ (hw _ (List.mem_of_getElem? (i := 10) rfl))) (mvT hZ (hw _ (List.mem_of_getElem? (i := 11) rfl))) (notFace_of_selects (args := #[]) (mvT hZ (hw _ (List.mem_of_getElem? (i := 13) rfl)))) (mvT hZ (hw _ (List.mem_of_getElem? (i := 13) rfl))) (mvT hZ (hw _ (List.mem_of_getElem? (i := 12) rfl))) (by decide) (backOf (W := 0) (rmA l Z a0 hw [] o1 t3 n2 e2 T55.heap n0 (Nat.le_trans Z0 K55.1) f57 Fs55 Fe55 g_o1 (c1 ▸ c3) (c1 ▸ c4) (by rw [← c1, ← c2]; exact c5)) hZ (hw _ (List.mem_of_getElem? (i := 14) rfl)) (hw _ (List.mem_of_getElem? (i := 3) rfl)) (by decide) (by decide)) qa59 qc59 (g := (mkF m 166 #[.val (.long pa), .second, .val (.int pb), .val (.int po), .val (.double (FP.l2d pa)), .second, .val (.double (FP.i2d pb)), .second, .val (.int ((po &&& (2147483647 : Int32)) % (6 : Int32))), .val (.double t1), .second, .val (.double t2), .second, .val (.double t3), .second, .val (.ref o1)] [(.double t3), (.ref o1)])) rfl (by rw [hml]; rfl) (Steps.refl _) (argsL := [(.double t3)]) (rest := []) (lenOf own_pd__D_V rfl) rfl (by show 2 * 0 + _ ≤ _; exact Nat.le_of_eq rfl) (hb hby at_166) (fun _ _ => ⟨rfl, rfl, (by decide : 1 + 0 ≤ _), (by decide : 2 + 0 ≤ _)⟩)
  dsimp only [Pt.U, Pt.locs, Pt.cells, Pt.slots] at X59 l59 y59 z59 st59 hQ59
  subst l59 y59 z59
  obtain ⟨rfl, Nq59, Kq59, Fs59, Fe59⟩ := hQ59
  have N59 := Fr.app N55 Nq59
  have K59 : Keep h0 T59.heap [] := K55.trans Kq59 (allS (Or.inr sz_o1) (all0))
  have pre60 : ∀ τ, Steps p.tables e below (T59.setTop (mkF m 169 #[.val (.long pa), .second, .val (.int pb), .val (.int po), .val (.double (FP.l2d pa)), .second, .val (.double (FP.i2d pb)), .second, .val (.int ((po &&& (2147483647 : Int32)) % (6 : Int32))), .val (.double t1), .second, .val (.double t2), .second, .val (.double t3), .second, .val (.ref o1)] [])) τ → Steps p.tables e below (s₁.setTop (entryFrame m #[(.long pa), (.int pb), (.int po)] maxLocals)) τ := fun τ kt => pre58 τ ((st59).trans kt)
  rw [← c1] at Fs59 Fe59
  rw [← c2] at Fe59
  have pre61 : ∀ τ, Steps p.tables e below (T59.setTop (mkF m 171 #[.val (.long pa), .second, .val (.int pb), .val (.int po), .val (.double (FP.l2d pa)), .second, .val (.double (FP.i2d pb)), .second, .val (.int ((po &&& (2147483647 : Int32)) % (6 : Int32))), .val (.double t1), .second, .val (.double t2), .second, .val (.double t3), .second, .val (.ref o1)] [(.ref o1)])) τ → Steps p.tables e below (s₁.setTop (entryFrame m #[(.long pa), (.int pb), (.int po)] maxLocals)) τ := fun τ kt => pre60 τ (by
    show Steps p.tables e below (T59.setTop (mkF m 169 #[.val (.long pa), .second, .val (.int pb), .val (.int po), .val (.double (FP.l2d pa)), .second, .val (.double (FP.i2d pb)), .second, .val (.int ((po &&& (2147483647 : Int32)) % (6 : Int32))), .val (.double t1), .second, .val (.double t2), .second, .val (.double t3), .second, .val (.ref o1)] [])) τ
    refine XS.aload X59.here hx rfl (hb hby at_169) rfl rfl ?_
    exact kt)
  have f63 := f57.keep Kq59
  obtain ⟨cq62, kq62, qa62, qb62, qc62⟩ := isOf hZ rfl f63
  obtain ⟨_, _, ⟨T62, L62, k62, n62⟩, -, X62, ⟨Lc62, hQ62, l62, y62, z62⟩, st62⟩ := X59.virtualBack hx (y := (⟨"com/example/meticulous_ballot/meticulousballot/DoubleDoubleSum", "value", "()D"⟩ : MethodName)) (z := (⟨"com/example/meticulous_ballot/meticulousballot/DoubleDoubleSum", "value", "()D"⟩ : MethodName)) hown (mvT hZ (hw _ (List.mem_of_getElem? (i := 22) rfl))) (mvT hZ (hw _ (List.mem_of_getElem? (i := 23) rfl))) (notFace_of_selects (args := #[]) (mvT hZ (hw _ (List.mem_of_getElem? (i := 25) rfl)))) (mvT hZ (hw _ (List.mem_of_getElem? (i := 25) rfl))) (mvT hZ (hw _ (List.mem_of_getElem? (i := 24) rfl))) (by decide) (backOf (W := 0) (rmV l Z a0 hw [] o1 n3 e3 T59.heap n0 (Nat.le_trans Z0 K59.1) Fs59 Fe59 (own_dint_no hv)) hZ (hw _ (List.mem_of_getElem? (i := 26) rfl)) (hw _ (List.mem_of_getElem? (i := 3) rfl)) (by decide) (by decide)) qa62 qc62 (g := (mkF m 171 #[.val (.long pa), .second, .val (.int pb), .val (.int po), .val (.double (FP.l2d pa)), .second, .val (.double (FP.i2d pb)), .second, .val (.int ((po &&& (2147483647 : Int32)) % (6 : Int32))), .val (.double t1), .second, .val (.double t2), .second, .val (.double t3), .second, .val (.ref o1)] [(.ref o1)])) rfl (by rw [hml]; rfl) (Steps.refl _) (argsL := []) (rest := []) (lenOf own_pd___D rfl) rfl (by show 2 * 0 + _ ≤ _; exact Nat.le_of_eq rfl) (hb hby at_171) (fun _ _ => ⟨rfl, rfl, (by decide : 1 + 0 ≤ _), (by decide : 2 + 0 ≤ _)⟩)
  dsimp only [Pt.U, Pt.locs, Pt.cells, Pt.slots] at X62 l62 y62 z62 st62 hQ62
  subst l62 y62 z62
  obtain ⟨rfl, Nq62, eq62⟩ := hQ62
  have N62 := Fr.app N59 Nq62
  have pre64 : ∀ τ, Steps p.tables e below (T62.setTop (mkF m 174 #[.val (.long pa), .second, .val (.int pb), .val (.int po), .val (.double (FP.l2d pa)), .second, .val (.double (FP.i2d pb)), .second, .val (.int ((po &&& (2147483647 : Int32)) % (6 : Int32))), .val (.double t1), .second, .val (.double t2), .second, .val (.double t3), .second, .val (.ref o1)] [(.double (FP.dadd n3 e3))])) τ → Steps p.tables e below (s₁.setTop (entryFrame m #[(.long pa), (.int pb), (.int po)] maxLocals)) τ := fun τ kt => pre61 τ ((st62).trans kt)
  have pre65 : ∀ τ, Steps p.tables e below (T62.setTop (mkF m 185 #[.val (.long pa), .second, .val (.int pb), .val (.int po), .val (.double (FP.l2d pa)), .second, .val (.double (FP.i2d pb)), .second, .val (.int ((po &&& (2147483647 : Int32)) % (6 : Int32))), .val (.double t1), .second, .val (.double t2), .second, .val (.double t3), .second, .val (.ref o1)] [(.int (1 : Int32))])) τ → Steps p.tables e below (s₁.setTop (entryFrame m #[(.long pa), (.int pb), (.int po)] maxLocals)) τ := fun τ kt => pre64 τ (by
    show Steps p.tables e below (T62.setTop (mkF m 174 #[.val (.long pa), .second, .val (.int pb), .val (.int po), .val (.double (FP.l2d pa)), .second, .val (.double (FP.i2d pb)), .second, .val (.int ((po &&& (2147483647 : Int32)) % (6 : Int32))), .val (.double t1), .second, .val (.double t2), .second, .val (.double t3), .second, .val (.ref o1)] [(.double (FP.dadd n3 e3))])) τ
    refine own_dload X62.here hx rfl (hb hby at_174) rfl ?_
    show Steps p.tables e below (T62.setTop (mkF m 176 #[.val (.long pa), .second, .val (.int pb), .val (.int po), .val (.double (FP.l2d pa)), .second, .val (.double (FP.i2d pb)), .second, .val (.int ((po &&& (2147483647 : Int32)) % (6 : Int32))), .val (.double t1), .second, .val (.double t2), .second, .val (.double t3), .second, .val (.ref o1)] [(.double (FP.i2d pb)), (.double (FP.dadd n3 e3))])) τ
    refine own_dcmp X62.here hx rfl (hb hby at_176) rfl ?_
    show Steps p.tables e below (T62.setTop (mkF m 177 #[.val (.long pa), .second, .val (.int pb), .val (.int po), .val (.double (FP.l2d pa)), .second, .val (.double (FP.i2d pb)), .second, .val (.int ((po &&& (2147483647 : Int32)) % (6 : Int32))), .val (.double t1), .second, .val (.double t2), .second, .val (.double t3), .second, .val (.ref o1)] [(.int (cmpValue (FP.dcmp (FP.dadd n3 e3) (FP.i2d pb)) .l))])) τ
    refine XS.ifNo X62.here hx rfl (hb hby at_177) rfl ((if0 _ _).trans (teq (own_cmp0.mpr (by rw [show FP.dcmp (FP.dadd n3 e3) (FP.i2d pb) = _ from FP.Core.dcmp_int hv hbd, own_cmp_eq]))).2) ?_
    show Steps p.tables e below (T62.setTop (mkF m 180 #[.val (.long pa), .second, .val (.int pb), .val (.int po), .val (.double (FP.l2d pa)), .second, .val (.double (FP.i2d pb)), .second, .val (.int ((po &&& (2147483647 : Int32)) % (6 : Int32))), .val (.double t1), .second, .val (.double t2), .second, .val (.double t3), .second, .val (.ref o1)] [])) τ
    refine XS.iconst X62.here hx rfl (hb hby at_180) ?_
    show Steps p.tables e below (T62.setTop (mkF m 181 #[.val (.long pa), .second, .val (.int pb), .val (.int po), .val (.double (FP.l2d pa)), .second, .val (.double (FP.i2d pb)), .second, .val (.int ((po &&& (2147483647 : Int32)) % (6 : Int32))), .val (.double t1), .second, .val (.double t2), .second, .val (.double t3), .second, .val (.ref o1)] [(.int (1 : Int32))])) τ
    refine XS.goto X62.here hx rfl (pc0 := 181) (pc' := 185) rfl (hb hby at_181) (by decide) (by decide) ?_
    exact kt)
  obtain ⟨fs, hrL, hrun, hended, hW, hsame⟩ := X62.leave (v := some (.int (1 : Int32))) (fun h => by rw [Bd.returns] at h; cases h)
  refine ⟨_, _, pre65 _ ?_, hrun, hended, _, _, rfl, ?_, ⟨_, rfl⟩, hW, hsame.mono (by decide) (by decide)⟩
  · show Steps p.tables e below (T62.setTop (mkF m 185 #[.val (.long pa), .second, .val (.int pb), .val (.int po), .val (.double (FP.l2d pa)), .second, .val (.double (FP.i2d pb)), .second, .val (.int ((po &&& (2147483647 : Int32)) % (6 : Int32))), .val (.double t1), .second, .val (.double t2), .second, .val (.double t3), .second, .val (.ref o1)] [(.int (1 : Int32))])) _
    exact retN X62 hx (t := .boolean) Bd.returns (by simp) (hb hby at_185) hrL
  · show Q0 n0 _ T62.heap _
    exact ⟨rfl, N62⟩
set_option maxRecDepth 65536 in
set_option maxHeartbeats 40000000 in
theorem comes_1 {Post : Tables → Env → Array Value → State → Outcome → State → Prop} (hpost : ∀ tb e args s v u, (limb_1_1.after args s (.returned v) u = true ∧ limb_1_2.after args s (.returned v) u = true ∧ True) → FrameEnd s (.returned v) u (Jvm.fieldLocs frame_1_writes args s ++ Jvm.arrayLocs frame_1_arrays args s ++ Jvm.staticLocs frame_1_statics s) 16 128 → Post tb e args s (.returned v) u) :
    ArmFor flags0 classFile x code maxLocals ret World_1 tables_1 room_1 Calls_1 rest_1 Pre_1 Post := by
  intro l hfl _ _ p e ha hc hk s m args below hf hA hF happ hP
  obtain ⟨hcalls, hrest, hpre⟩ := hP
  obtain ⟨-, -, -, hnamed, -, -, -, hat⟩ := (Spec.applies_iff hf).mp happ
  obtain ⟨hg, hn⟩ := and_e (Cond.before_iff.mp (show (Jvm.Cond.and given_1 narrow_1).before args s = true from hpre))
  obtain ⟨g1, g2⟩ := and_e hg
  obtain ⟨g3, g4⟩ := and_e g2
  obtain ⟨g5, g6⟩ := and_e g4
  obtain ⟨w0, w1, w2, rfl⟩ : ∃ w0 w1 w2 : Value, args = #[w0, w1, w2] := by
    have hs : args.size = 3 := by simpa [Cond.value, given_1] using g1
    obtain ⟨L⟩ := args
    match L, hs with
    | [w0, w1, w2], _ => exact ⟨w0, w1, w2, rfl⟩
  have hw := fun d (hd : d ∈ tables_1) => atoms_spec (ws := Jvm.Cond.code x code maxLocals ret :: tables_1) hat d (List.mem_cons_of_mem _ hd)
  obtain ⟨i0, ei0⟩ := isL_v g3
  obtain rfl : w0 = (.long i0) := Option.some.inj ei0
  obtain ⟨i1, ei1⟩ := is_v g5
  obtain rfl : w1 = (.int i1) := Option.some.inj ei1
  obtain ⟨i2, ei2⟩ := is_v g6
  obtain rfl : w2 = (.int i2) := Option.some.inj ei2
  obtain ⟨n, o, h1, h2, h3, _, L, rfl, ⟨rfl, N⟩, hq⟩ := rm0 l s _ hw tables_1 i0 i1 i2 s.heap s.heap.size (Nat.le_refl _) p e ha hc hk s m _ below hf ((Spec.applies_iff_loose hf).mp happ).1 ⟨rfl, State.Warmed39.refl s, rfl⟩ trivial
  refine ⟨n, _, h1, h2, h3, hpost _ _ _ _ _ _ ⟨Cond.after_iff.mpr rfl, Cond.after_iff.mpr (eq_i res_at (Term.int_eval (1)) rfl), trivial⟩ ⟨hq.1, hq.2.1, (hq.2.2.sift fun y hy => Or.inr (N y hy)).mono (by decide) (by decide)⟩⟩
theorem main_1_1 : Claimed_1_1 := comes_1 fun _ _ _ _ _ _ h hF => ⟨h.1, hF⟩
theorem main_1_2 : Claimed_1_2 := comes_1 fun _ _ _ _ _ _ h hF => ⟨h.2.1, hF⟩
end Jvm.Pilot.@@N@@
namespace Jvm.Pilot.@@N@@
open Jvm Jvm.ClassFile Sem Op Lib Jvm.Free Jvm.Stand Jvm.Pilot.@@N@@.Jvm.D
/-! MADE BY PROGRAM (witnessworld.py) out of the Statement's table words and the real class files: 9 classes; the members and pool entries that the words name. The judged class is class 1, her method 1. -/
namespace start1
open Jvm.ClassFile
def u (s : String) : CpInfo := .utf8 (stringToUtf16 s)
/-- a pool by its gaps: so many unusable entries, then the entry; so many at the end -/
def gap : Nat → List CpInfo → List CpInfo
  | 0, r => r
  | n + 1, r => .unusable :: gap n r
def poolList (es : List (Nat × CpInfo)) (last : Nat) : List CpInfo := es.foldr (fun e r => gap e.1 (e.2 :: r)) (gap last [])
def pool (es : List (Nat × CpInfo)) (last : Nat) : Array CpInfo := ⟨poolList es last⟩
def fileOf (pool : Array CpInfo) (this : Nat) (attrs : Array Attribute := #[]) (ms : Array MethodInfo := #[]) (fl : Nat := 33) (sup : Nat := 0) (ifs : Array Nat := #[]) (fds : Array FieldInfo := #[]) : ClassFile where
  minorVersion := 0
  majorVersion := 65
  constantPool := pool
  accessFlags := fl
  thisClass := this
  superClass := sup
  interfaces := ifs
  fields := fds
  methods := ms
  attributes := attrs
def plain (name : String) (sup : Option ClassId) : Class where
  name := name
  kind := .ordinary
  loader := none
  accessFlags := 33
  super := sup
  interfaces := #[]
  cf := none
  fields := #[]
  methods := #[]
  instanceTypes := #[]
  staticTypes := #[]
  resolved := #[]
  callSites := []
  init := .initialized
  statics := none
  mirror := none

def pool0 : Array CpInfo := pool [(5, u "<init>"), (0, u "()V"), (1, .class_ 10), (1, u "java/lang/Object")] 113

def k0c0 : Code := { maxStack := 0, maxLocals := 1, code := object_method_1_code, exceptionTable := #[], attributes := #[] }
def k0m0 : Method := { name := "<init>", desc := "()V", sig := { parameters := [], returnType := none }, accessFlags := 1, code := some k0c0 }
/-- java/lang/Object -/
def k0 : Class := { plain "java/lang/Object" none with
  accessFlags := 33
  interfaces := #[]
  cf := some (fileOf pool0 8 #[] #[{ accessFlags := 1, nameIndex := 5, descriptorIndex := 6, attributes := #[] }] 33 0 #[] #[])
  fields := #[]
  methods := #[k0m0]
  instanceTypes := #[]
  staticTypes := #[]
  resolved := Array.replicate 124 none
  statics := none }

def pool1 : Array CpInfo := pool [(2, .class_ 4), (0, .nameAndType 5 6), (0, u "java/lang/Object"), (0, u "<init>"), (0, u "()V"), (0, .integer 2147483647), (0, .class_ 9), (0, u "com/example/meticulous_ballot/meticulousballot/DoubleDoubleSum"), (0, .methodref 8 3), (0, .methodref 8 12), (0, .nameAndType 13 14), (0, u "add"), (0, u "(D)V"), (0, .methodref 8 16), (0, .nameAndType 17 18), (0, u "value"), (0, u "()D"), (0, .class_ 20), (0, u "com/example/meticulous_ballot/meticulousballot/DoubleDoubleSumAddPinLaw"), (2, u "law"), (0, u "(JII)Z")] 3

def k1m0 : Method := { name := "<init>", desc := "()V", sig := { parameters := [], returnType := none }, accessFlags := 1, code := none }
def k1c1 : Code := { maxStack := 4, maxLocals := 16, code := code, exceptionTable := #[], attributes := #[] }
def k1m1 : Method := { name := "law", desc := "(JII)Z", sig := { parameters := [.long, .int, .int], returnType := some .boolean }, accessFlags := 9, code := some k1c1 }
/-- com/example/meticulous_ballot/meticulousballot/DoubleDoubleSumAddPinLaw -/
def k1 : Class := { plain "com/example/meticulous_ballot/meticulousballot/DoubleDoubleSumAddPinLaw" (some 0) with
  accessFlags := 49
  interfaces := #[]
  cf := some (fileOf pool1 19 #[] #[{ accessFlags := 1, nameIndex := 5, descriptorIndex := 6, attributes := #[] }, { accessFlags := 9, nameIndex := 23, descriptorIndex := 24, attributes := #[] }] 49 2 #[] #[])
  fields := #[]
  methods := #[k1m0, k1m1]
  instanceTypes := #[]
  staticTypes := #[]
  resolved := Array.replicate 28 none
  statics := none }

def pool2 : Array CpInfo := pool [(1, .methodref 2 3), (0, .class_ 4), (0, .nameAndType 5 6), (0, u "java/lang/Object"), (0, u "<init>"), (0, u "()V"), (0, .fieldref 8 9), (0, .class_ 10), (0, .nameAndType 11 12), (0, u "com/example/meticulous_ballot/meticulousballot/DoubleDoubleSum"), (0, u "sum"), (0, u "D"), (0, .fieldref 8 14), (0, .nameAndType 15 12), (0, u "error"), (0, .methodref 8 17), (0, .nameAndType 18 19), (0, u "roundedAway"), (0, u "(DDD)D"), (2, u "add"), (0, u "(D)V"), (9, u "SPLITTER"), (5, u "value"), (0, u "()D")] 2

def k2c0 : Code := { maxStack := 1, maxLocals := 1, code := prog_13_method_1_code, exceptionTable := #[], attributes := #[] }
def k2m0 : Method := { name := "<init>", desc := "()V", sig := { parameters := [], returnType := none }, accessFlags := 0, code := some k2c0 }
def k2c1 : Code := { maxStack := 9, maxLocals := 5, code := prog_13_method_2_code, exceptionTable := #[], attributes := #[] }
def k2m1 : Method := { name := "add", desc := "(D)V", sig := { parameters := [.double], returnType := none }, accessFlags := 0, code := some k2c1 }
def k2c2 : Code := { maxStack := 4, maxLocals := 1, code := prog_13_method_5_code, exceptionTable := #[], attributes := #[] }
def k2m2 : Method := { name := "value", desc := "()D", sig := { parameters := [], returnType := some .double }, accessFlags := 0, code := some k2c2 }
def k2c3 : Code := { maxStack := 6, maxLocals := 8, code := prog_13_method_6_code, exceptionTable := #[], attributes := #[] }
def k2m3 : Method := { name := "roundedAway", desc := "(DDD)D", sig := { parameters := [.double, .double, .double], returnType := some .double }, accessFlags := 10, code := some k2c3 }
/-- com/example/meticulous_ballot/meticulousballot/DoubleDoubleSum -/
def k2 : Class := { plain "com/example/meticulous_ballot/meticulousballot/DoubleDoubleSum" (some 0) with
  accessFlags := 48
  interfaces := #[]
  cf := some (fileOf pool2 8 #[] #[{ accessFlags := 0, nameIndex := 5, descriptorIndex := 6, attributes := #[] }, { accessFlags := 0, nameIndex := 22, descriptorIndex := 23, attributes := #[] }, { accessFlags := 0, nameIndex := 39, descriptorIndex := 40, attributes := #[] }, { accessFlags := 10, nameIndex := 18, descriptorIndex := 19, attributes := #[] }] 48 2 #[] #[{ accessFlags := 26, nameIndex := 33, descriptorIndex := 12, attributes := #[] }, { accessFlags := 2, nameIndex := 11, descriptorIndex := 12, attributes := #[] }, { accessFlags := 2, nameIndex := 15, descriptorIndex := 12, attributes := #[] }])
  fields := #[{ name := "SPLITTER", type := .double, accessFlags := 26, slot := 0, constantValue := 0 }, { name := "sum", type := .double, accessFlags := 2, slot := 0, constantValue := 0 }, { name := "error", type := .double, accessFlags := 2, slot := 1, constantValue := 0 }]
  methods := #[k2m0, k2m1, k2m2, k2m3]
  instanceTypes := #[.double, .double]
  staticTypes := #[.double]
  resolved := Array.replicate 43 none
  statics := none }

def pool3 : Array CpInfo := pool [(1, u "java/lang/Cloneable"), (0, .class_ 1), (0, u "java/lang/Object"), (0, .class_ 3)] 3

/-- java/lang/Cloneable -/
def k3 : Class := { plain "java/lang/Cloneable" (some 0) with
  accessFlags := 1537
  interfaces := #[]
  cf := some (fileOf pool3 2 #[] #[] 1537 4 #[] #[])
  fields := #[]
  methods := #[]
  instanceTypes := #[]
  staticTypes := #[]
  resolved := Array.replicate 8 none
  statics := none }

def pool4 : Array CpInfo := pool [(1, u "java/io/Serializable"), (0, .class_ 1), (0, u "java/lang/Object"), (0, .class_ 3)] 3

/-- java/io/Serializable -/
def k4 : Class := { plain "java/io/Serializable" (some 0) with
  accessFlags := 1537
  interfaces := #[]
  cf := some (fileOf pool4 2 #[] #[] 1537 4 #[] #[])
  fields := #[]
  methods := #[]
  instanceTypes := #[]
  staticTypes := #[]
  resolved := Array.replicate 8 none
  statics := none }

/-- the primitive byte -/
def k5 : Class := { plain "byte" none with kind := .primitive 'B', accessFlags := 0x411 }
/-- [B -/
def k6 : Class := { plain "[B" (some 0) with kind := .array 5 .byte, interfaces := #[3, 4], accessFlags := 1041 }

/-- the primitive int -/
def k7 : Class := { plain "int" none with kind := .primitive 'I', accessFlags := 0x411 }
/-- [I -/
def k8 : Class := { plain "[I" (some 0) with kind := .array 7 .int, interfaces := #[3, 4], accessFlags := 1041 }

def heap : Heap := #[]
def classes : Array Class := #[k0, k1, k2, k3, k4, k5, k6, k7, k8]
def interned : List (Array UInt16 × Addr) := []
def slotsUsed : Nat := 0
def theMethod : MethodId := ⟨1, 1⟩
def args0 : Array Value := #[.long 5, .int 7, .int 1]
def aboutOver (below : List Frame) : State where
  vm := { classes := classes, interned := interned.toArray }
  heap := heap
  slotsUsed := slotsUsed
  threads := #[{ frames := .invoking theMethod args0 :: below }]
def below0 : List Frame := [.native { method := ⟨0, 0⟩, args := #[] }]
def about1 : State := aboutOver below0
def p0 : Program := .bare "" "" ""
def e0 : Env := launch0.env 0 0 0
theorem w_frames : about1.frames = Frame.invoking theMethod args0 :: below0 := rfl
set_option maxRecDepth 65536 in
theorem w_args : argsFit about1.vm theMethod args0 = true := by decide +kernel
set_option maxRecDepth 65536 in
theorem w_heap : heapFits about1 = true := by decide +kernel
set_option maxRecDepth 65536 in
theorem w_runnable : about1.curStatus? = some .runnable := by decide +kernel
set_option maxRecDepth 65536 in
theorem w_alone : about1.alone = true := by decide +kernel
set_option maxRecDepth 65536 in
theorem w_named : about1.methodNamed? x = some theMethod := by decide +kernel
set_option maxRecDepth 65536 in
theorem w_hears : about1.hears theMethod below0 = true := by decide +kernel
set_option maxRecDepth 65536 in
theorem w_ripe : about1.ripe theMethod args0 below0 = true := by decide +kernel
theorem w_running : about1.status = .running := rfl
set_option maxRecDepth 65536 in
theorem w_room : about1.hasRoom e0.platform room_1 = true :=
  launch0.hasRoom_least _ room_1 (by decide +kernel) (by decide +kernel) (by decide +kernel) (by decide +kernel) (by decide +kernel) (by decide +kernel)
theorem allAtoms_all (ts : List Jvm.Cond) (a : Array Jvm.Value) (st : Jvm.State) : (allAtoms ts).before a st = ts.all (fun c => c.before a st) := by
  induction ts with
  | nil => rfl
  | cons c t ih =>
    show (Jvm.Cond.and c (allAtoms t)).before a st = _
    rw [Jvm.Cond.before_and, ih, List.all_cons]
def words1 : List Jvm.Cond := Jvm.Cond.code x code maxLocals ret :: tables_1
/-- a 'code' word, met by the world's own term for the bytes: nothing is compared byte by byte -/
theorem code_word {y : MethodName} {bytes : ByteArray} {mx : Nat} {rt : Option FieldType} {a : Array Value} {s : State} {m : MethodId} {meth : Method} {c : Code} (h1 : s.methodNamed? y = some m) (h2 : s.vm.method? m = some meth) (h3 : meth.code = some c) (h4 : c.code = bytes)
    (h5 : (c.maxLocals == mx && c.exceptionTable.isEmpty && decide (c.maxStack ≤ mostOperands) && decide (meth.sig.returnType = rt) && !meth.locks && decide (parseMethodDescriptor y.desc = some meth.sig)) = true) : (Jvm.Cond.code y bytes mx rt).before a s = true := by
  simp only [Bool.and_eq_true, beq_iff_eq, Bool.not_eq_true', decide_eq_true_eq] at h5
  obtain ⟨⟨⟨⟨⟨g1, g2⟩, g3⟩, g4⟩, g5⟩, g6⟩ := h5
  simp [Cond.before, Cond.holds, Cond.value, h1, h2, h3, h4, g1, g2, g3, g4, g5, g6]
def isCode : Jvm.Cond → Bool
  | .code _ _ _ _ => true
  | _ => false
theorem all_split {L : List Jvm.Cond} {P : Jvm.Cond → Bool} (h1 : L.all (fun c => isCode c || P c) = true) (h2 : ∀ c ∈ L.filter isCode, P c = true) : L.all P = true := by
  refine List.all_eq_true.mpr fun c hc => ?_
  have h := List.all_eq_true.mp h1 c hc
  rcases Bool.eq_false_or_eq_true (isCode c) with hi | hi
  · exact h2 c (List.mem_filter.mpr ⟨hc, hi⟩)
  · simpa [hi] using h
set_option maxRecDepth 65536 in
theorem w_c0 : (Jvm.Cond.code x code maxLocals ret).before args0 about1 = true := code_word (m := ⟨1, 1⟩) (meth := k1m1) (c := k1c1) (by decide +kernel) rfl rfl rfl (by decide +kernel)
set_option maxRecDepth 65536 in
theorem w_c1 : (Jvm.Cond.code ({ cls := "com/example/meticulous_ballot/meticulousballot/DoubleDoubleSum", name := "<init>", desc := "()V" } : Jvm.MethodName) prog_13_method_1_code (1 : Nat) (Option.none : Option Jvm.ClassFile.FieldType)).before args0 about1 = true := code_word (m := ⟨2, 0⟩) (meth := k2m0) (c := k2c0) (by decide +kernel) rfl rfl rfl (by decide +kernel)
set_option maxRecDepth 65536 in
theorem w_c2 : (Jvm.Cond.code ({ cls := "java/lang/Object", name := "<init>", desc := "()V" } : Jvm.MethodName) object_method_1_code (1 : Nat) (Option.none : Option Jvm.ClassFile.FieldType)).before args0 about1 = true := code_word (m := ⟨0, 0⟩) (meth := k0m0) (c := k0c0) (by decide +kernel) rfl rfl rfl (by decide +kernel)
set_option maxRecDepth 65536 in
theorem w_c3 : (Jvm.Cond.code ({ cls := "com/example/meticulous_ballot/meticulousballot/DoubleDoubleSum", name := "add", desc := "(D)V" } : Jvm.MethodName) prog_13_method_2_code (5 : Nat) (Option.none : Option Jvm.ClassFile.FieldType)).before args0 about1 = true := code_word (m := ⟨2, 1⟩) (meth := k2m1) (c := k2c1) (by decide +kernel) rfl rfl rfl (by decide +kernel)
set_option maxRecDepth 65536 in
theorem w_c4 : (Jvm.Cond.code ({ cls := "com/example/meticulous_ballot/meticulousballot/DoubleDoubleSum", name := "roundedAway", desc := "(DDD)D" } : Jvm.MethodName) prog_13_method_6_code (8 : Nat) (Option.some Jvm.ClassFile.FieldType.double)).before args0 about1 = true := code_word (m := ⟨2, 3⟩) (meth := k2m3) (c := k2c3) (by decide +kernel) rfl rfl rfl (by decide +kernel)
set_option maxRecDepth 65536 in
theorem w_c5 : (Jvm.Cond.code ({ cls := "com/example/meticulous_ballot/meticulousballot/DoubleDoubleSum", name := "value", desc := "()D" } : Jvm.MethodName) prog_13_method_5_code (1 : Nat) (Option.some Jvm.ClassFile.FieldType.double)).before args0 about1 = true := code_word (m := ⟨2, 2⟩) (meth := k2m2) (c := k2c2) (by decide +kernel) rfl rfl rfl (by decide +kernel)
def codes1 : List Jvm.Cond := [Jvm.Cond.code x code maxLocals ret, Jvm.Cond.code ({ cls := "com/example/meticulous_ballot/meticulousballot/DoubleDoubleSum", name := "<init>", desc := "()V" } : Jvm.MethodName) prog_13_method_1_code (1 : Nat) (Option.none : Option Jvm.ClassFile.FieldType), Jvm.Cond.code ({ cls := "java/lang/Object", name := "<init>", desc := "()V" } : Jvm.MethodName) object_method_1_code (1 : Nat) (Option.none : Option Jvm.ClassFile.FieldType), Jvm.Cond.code ({ cls := "com/example/meticulous_ballot/meticulousballot/DoubleDoubleSum", name := "add", desc := "(D)V" } : Jvm.MethodName) prog_13_method_2_code (5 : Nat) (Option.none : Option Jvm.ClassFile.FieldType), Jvm.Cond.code ({ cls := "com/example/meticulous_ballot/meticulousballot/DoubleDoubleSum", name := "roundedAway", desc := "(DDD)D" } : Jvm.MethodName) prog_13_method_6_code (8 : Nat) (Option.some Jvm.ClassFile.FieldType.double), Jvm.Cond.code ({ cls := "com/example/meticulous_ballot/meticulousballot/DoubleDoubleSum", name := "value", desc := "()D" } : Jvm.MethodName) prog_13_method_5_code (1 : Nat) (Option.some Jvm.ClassFile.FieldType.double)]
set_option maxRecDepth 65536 in
theorem codes_eq : words1.filter isCode = codes1 := rfl
theorem w_codes : ∀ c ∈ words1.filter isCode, c.before args0 about1 = true := by
  rw [codes_eq]
  intro c hc
  simp only [codes1, List.mem_cons, List.not_mem_nil, or_false] at hc
  rcases hc with rfl | rfl | rfl | rfl | rfl | rfl
  · exact w_c0
  · exact w_c1
  · exact w_c2
  · exact w_c3
  · exact w_c4
  · exact w_c5
set_option maxRecDepth 65536 in
theorem w_t1 : (words1.take 24).all (fun c => isCode c || c.before args0 about1) = true := by decide +kernel
set_option maxRecDepth 65536 in
theorem w_t2 : (words1.drop 24).all (fun c => isCode c || c.before args0 about1) = true := by decide +kernel
theorem w_tables : (allAtoms (Jvm.Cond.code x code maxLocals ret :: tables_1)).before args0 about1 = true := by
  rw [allAtoms_all]
  show words1.all (fun c => c.before args0 about1) = true
  refine all_split ?_ w_codes
  rw [← List.take_append_drop 24 words1, List.all_append, w_t1, w_t2]
  rfl
set_option maxRecDepth 65536 in
theorem w_case : (Jvm.Cond.and given_1 narrow_1).before args0 about1 = true := by decide +kernel
theorem w_applies : (headSpec (Jvm.Cond.code x code maxLocals ret :: tables_1) room_1).applies x e0.platform about1 = true :=
  (Spec.applies_iff w_frames).mpr ⟨w_running, w_runnable, w_alone, w_named, w_hears, w_ripe, w_room, w_tables⟩
theorem atStart : AtStart classFile x code maxLocals ret World_1 tables_1 room_1 Calls_1 rest_1 Pre_1 launch0 p0 e0 about1 theMethod args0 below0 :=
  ⟨lists_1, trivial, launch0.admits_env _ _ _, launch0.least_env, fairChoices_fair.cas, fairChoices_fair.clock, w_frames, w_args, w_heap, w_applies, trivial, trivial, w_case⟩
end start1
theorem witness_1 : WitnessClaimed_1 := ⟨start1.p0, start1.e0, start1.about1, start1.theMethod, start1.args0, start1.below0, start1.atStart⟩
end Jvm.Pilot.@@N@@
