import JvmDerived
import JvmDerived.Pilot.@@N@@Statement
import JvmDerived.Pilot.@@N@@Code
set_option linter.unusedVariables false
set_option linter.unusedSimpArgs false
namespace Jvm.RoadKit
open Sem ClassFile Op Lib Jvm.Stand Jvm.Free Jvm.LawKit
section New
variable {p : Program} {l : Launch} {e : Env} {R : Room} {s : State} {m : MethodId} {args : Array Value} {below : List Frame} {meth : Method} {c : Code} {T : State} {locs : List Loc} {cells slots : Nat}
theorem retI (X : Stand p l e R s m args below meth c T locs cells slots) (hx : p.tables.exec = Jvm.exec) {pc : Nat} {Ls : Array Slot} {z : Int32} {rest : List Value} (hret : meth.sig.returnType = some .int) (hd : decode c.code pc = .ok (.ireturn, 1)) {fs : List Frame}
    (hl : ∀ (f : JFrame) (acts : List Action), f.method = m → f.locked = none → f.entered = [] → (doReturn e (T.setTop f) acts (some (.int z))).1 = T.setFrames fs) : Steps p.tables e below (T.setTop (mkF m pc Ls (.int z :: rest))) (T.setFrames fs) :=
  retOut X hx hret rfl (Or.inl ⟨rfl, Or.inl rfl, z, rfl⟩) hd hl
end New
end Jvm.RoadKit
namespace Jvm.Pilot.@@N@@
open Jvm Jvm.ClassFile Sem Op Lib Jvm.Free Jvm.Stand Jvm.LawKit Jvm.RoadKit Bundle Jvm.Pilot.@@N@@.Jvm.D
theorem own_dloadN {tb : Tables} [Ours tb] {e : Env} {below : List Frame} {T target : State} {m : MethodId} {c : Code} {g : JFrame} (h : At T m c below) (hx : tb.exec = Jvm.exec) (hg : g.method = m) {k : Fin 4} {v : UInt64} (hd : decode c.code g.pc = .ok (.dload_n k, 1)) (hl : g.locals[k.val]? = some (.val (.double v)))
    (hr : Steps tb e below (T.setTop { g with pc := g.pc + 1, stack := .double v :: g.stack }) target) : Steps tb e below (T.setTop g) target := by
  subst hg
  jvm_step h [h.top, hx, hd, hl]
  exact hr
theorem own_dload {tb : Tables} [Ours tb] {e : Env} {below : List Frame} {T target : State} {m : MethodId} {c : Code} {g : JFrame} (h : At T m c below) (hx : tb.exec = Jvm.exec) (hg : g.method = m) {k : Nat} {v : UInt64} (hd : decode c.code g.pc = .ok (.dload k, 2)) (hl : g.locals[k]? = some (.val (.double v)))
    (hr : Steps tb e below (T.setTop { g with pc := g.pc + 2, stack := .double v :: g.stack }) target) : Steps tb e below (T.setTop g) target := by
  subst hg
  jvm_step h [h.top, hx, hd, hl]
  exact hr
theorem own_dstoreN {tb : Tables} [Ours tb] {e : Env} {below : List Frame} {T target : State} {m : MethodId} {c : Code} {g : JFrame} (h : At T m c below) (hx : tb.exec = Jvm.exec) (hg : g.method = m) {k : Fin 4} {x : UInt64} {rest : List Value} {l' : Array Slot} (hd : decode c.code g.pc = .ok (.dstore_n k, 1)) (hs : g.stack = .double x :: rest) (hl : storeLocals g.locals k.val (.double x) = some l')
    (hr : Steps tb e below (T.setTop { g with pc := g.pc + 1, stack := rest, locals := l' }) target) : Steps tb e below (T.setTop g) target := by
  subst hg
  jvm_step h [h.top, hx, hd, hs, hl]
  exact hr
theorem own_dstore {tb : Tables} [Ours tb] {e : Env} {below : List Frame} {T target : State} {m : MethodId} {c : Code} {g : JFrame} (h : At T m c below) (hx : tb.exec = Jvm.exec) (hg : g.method = m) {k : Nat} {x : UInt64} {rest : List Value} {l' : Array Slot} (hd : decode c.code g.pc = .ok (.dstore k, 2)) (hs : g.stack = .double x :: rest) (hl : storeLocals g.locals k (.double x) = some l')
    (hr : Steps tb e below (T.setTop { g with pc := g.pc + 2, stack := rest, locals := l' }) target) : Steps tb e below (T.setTop g) target := by
  subst hg
  jvm_step h [h.top, hx, hd, hs, hl]
  exact hr
theorem own_dconst0 {tb : Tables} [Ours tb] {e : Env} {below : List Frame} {T target : State} {m : MethodId} {c : Code} {g : JFrame} (h : At T m c below) (hx : tb.exec = Jvm.exec) (hg : g.method = m) (hd : decode c.code g.pc = .ok (.dconst 0, 1))
    (hr : Steps tb e below (T.setTop { g with pc := g.pc + 1, stack := .double FP.dconst0 :: g.stack }) target) : Steps tb e below (T.setTop g) target := by
  subst hg
  jvm_step h [h.top, hx, hd]
  exact hr
theorem own_dconst1 {tb : Tables} [Ours tb] {e : Env} {below : List Frame} {T target : State} {m : MethodId} {c : Code} {g : JFrame} (h : At T m c below) (hx : tb.exec = Jvm.exec) (hg : g.method = m) (hd : decode c.code g.pc = .ok (.dconst 1, 1))
    (hr : Steps tb e below (T.setTop { g with pc := g.pc + 1, stack := .double FP.dconst1 :: g.stack }) target) : Steps tb e below (T.setTop g) target := by
  subst hg
  jvm_step h [h.top, hx, hd]
  exact hr
theorem own_i2d {tb : Tables} [Ours tb] {e : Env} {below : List Frame} {T target : State} {m : MethodId} {c : Code} {g : JFrame} (h : At T m c below) (hx : tb.exec = Jvm.exec) (hg : g.method = m) {x : Int32} {rest : List Value} (hd : decode c.code g.pc = .ok (.i2d, 1)) (hs : g.stack = .int x :: rest)
    (hr : Steps tb e below (T.setTop { g with pc := g.pc + 1, stack := .double (FP.i2d x) :: rest }) target) : Steps tb e below (T.setTop g) target := by
  subst hg
  jvm_step h [h.top, hx, hd, hs]
  exact hr
theorem own_l2d {tb : Tables} [Ours tb] {e : Env} {below : List Frame} {T target : State} {m : MethodId} {c : Code} {g : JFrame} (h : At T m c below) (hx : tb.exec = Jvm.exec) (hg : g.method = m) {x : Int64} {rest : List Value} (hd : decode c.code g.pc = .ok (.l2d, 1)) (hs : g.stack = .long x :: rest)
    (hr : Steps tb e below (T.setTop { g with pc := g.pc + 1, stack := .double (FP.l2d x) :: rest }) target) : Steps tb e below (T.setTop g) target := by
  subst hg
  jvm_step h [h.top, hx, hd, hs]
  exact hr
theorem own_d2l {tb : Tables} [Ours tb] {e : Env} {below : List Frame} {T target : State} {m : MethodId} {c : Code} {g : JFrame} (h : At T m c below) (hx : tb.exec = Jvm.exec) (hg : g.method = m) {x : UInt64} {rest : List Value} (hd : decode c.code g.pc = .ok (.d2l, 1)) (hs : g.stack = .double x :: rest)
    (hr : Steps tb e below (T.setTop { g with pc := g.pc + 1, stack := .long (FP.d2l x) :: rest }) target) : Steps tb e below (T.setTop g) target := by
  subst hg
  jvm_step h [h.top, hx, hd, hs]
  exact hr
theorem own_d2i {tb : Tables} [Ours tb] {e : Env} {below : List Frame} {T target : State} {m : MethodId} {c : Code} {g : JFrame} (h : At T m c below) (hx : tb.exec = Jvm.exec) (hg : g.method = m) {x : UInt64} {rest : List Value} (hd : decode c.code g.pc = .ok (.d2i, 1)) (hs : g.stack = .double x :: rest)
    (hr : Steps tb e below (T.setTop { g with pc := g.pc + 1, stack := .int (FP.d2i x) :: rest }) target) : Steps tb e below (T.setTop g) target := by
  subst hg
  jvm_step h [h.top, hx, hd, hs]
  exact hr
theorem own_dneg {tb : Tables} [Ours tb] {e : Env} {below : List Frame} {T target : State} {m : MethodId} {c : Code} {g : JFrame} (h : At T m c below) (hx : tb.exec = Jvm.exec) (hg : g.method = m) {x : UInt64} {rest : List Value} (hd : decode c.code g.pc = .ok (.dneg, 1)) (hs : g.stack = .double x :: rest)
    (hr : Steps tb e below (T.setTop { g with pc := g.pc + 1, stack := .double (FP.dneg x) :: rest }) target) : Steps tb e below (T.setTop g) target := by
  subst hg
  jvm_step h [h.top, hx, hd, hs]
  exact hr
theorem own_dcmp {tb : Tables} [Ours tb] {e : Env} {below : List Frame} {T target : State} {m : MethodId} {c : Code} {g : JFrame} (h : At T m c below) (hx : tb.exec = Jvm.exec) (hg : g.method = m) {op : CmpOp} {x y : UInt64} {rest : List Value} (hd : decode c.code g.pc = .ok (.dcmp op, 1)) (hs : g.stack = .double y :: .double x :: rest)
    (hr : Steps tb e below (T.setTop { g with pc := g.pc + 1, stack := .int (cmpValue (FP.dcmp x y) op) :: rest }) target) : Steps tb e below (T.setTop g) target := by
  subst hg
  jvm_step h [h.top, hx, hd, hs]
  exact hr
theorem own_dadd {tb : Tables} [Ours tb] {e : Env} {below : List Frame} {T target : State} {m : MethodId} {c : Code} {g : JFrame} (h : At T m c below) (hx : tb.exec = Jvm.exec) (hg : g.method = m) {x y : UInt64} {rest : List Value} (hd : decode c.code g.pc = .ok (.dadd, 1)) (hs : g.stack = .double y :: .double x :: rest) (hn : Jvm.Free.Fl.NoNaN64 (FP.dadd x y))
    (hr : Steps tb e below (T.setTop { g with pc := g.pc + 1, stack := .double (FP.dadd x y) :: rest }) target) : Steps tb e below (T.setTop g) target := by
  obtain ⟨gm, gpc, gl, gs, glk, gen, gmr⟩ := g
  subst hg
  dsimp only at hs
  subst hs
  jvm_step h [hx, hd, Op.dadd.at_number h.top hn]
  exact hr
theorem own_dsub {tb : Tables} [Ours tb] {e : Env} {below : List Frame} {T target : State} {m : MethodId} {c : Code} {g : JFrame} (h : At T m c below) (hx : tb.exec = Jvm.exec) (hg : g.method = m) {x y : UInt64} {rest : List Value} (hd : decode c.code g.pc = .ok (.dsub, 1)) (hs : g.stack = .double y :: .double x :: rest) (hn : Jvm.Free.Fl.NoNaN64 (FP.dsub x y))
    (hr : Steps tb e below (T.setTop { g with pc := g.pc + 1, stack := .double (FP.dsub x y) :: rest }) target) : Steps tb e below (T.setTop g) target := by
  obtain ⟨gm, gpc, gl, gs, glk, gen, gmr⟩ := g
  subst hg
  dsimp only at hs
  subst hs
  jvm_step h [hx, hd, Op.dsub.at_number h.top hn]
  exact hr
theorem own_dmul {tb : Tables} [Ours tb] {e : Env} {below : List Frame} {T target : State} {m : MethodId} {c : Code} {g : JFrame} (h : At T m c below) (hx : tb.exec = Jvm.exec) (hg : g.method = m) {x y : UInt64} {rest : List Value} (hd : decode c.code g.pc = .ok (.dmul, 1)) (hs : g.stack = .double y :: .double x :: rest) (hn : Jvm.Free.Fl.NoNaN64 (FP.dmul x y))
    (hr : Steps tb e below (T.setTop { g with pc := g.pc + 1, stack := .double (FP.dmul x y) :: rest }) target) : Steps tb e below (T.setTop g) target := by
  obtain ⟨gm, gpc, gl, gs, glk, gen, gmr⟩ := g
  subst hg
  dsimp only at hs
  subst hs
  jvm_step h [hx, hd, Op.dmul.at_number h.top hn]
  exact hr
theorem own_ddiv {tb : Tables} [Ours tb] {e : Env} {below : List Frame} {T target : State} {m : MethodId} {c : Code} {g : JFrame} (h : At T m c below) (hx : tb.exec = Jvm.exec) (hg : g.method = m) {x y : UInt64} {rest : List Value} (hd : decode c.code g.pc = .ok (.ddiv, 1)) (hs : g.stack = .double y :: .double x :: rest) (hn : Jvm.Free.Fl.NoNaN64 (FP.ddiv x y))
    (hr : Steps tb e below (T.setTop { g with pc := g.pc + 1, stack := .double (FP.ddiv x y) :: rest }) target) : Steps tb e below (T.setTop g) target := by
  obtain ⟨gm, gpc, gl, gs, glk, gen, gmr⟩ := g
  subst hg
  dsimp only at hs
  subst hs
  jvm_step h [hx, hd, Op.ddiv.at_number h.top hn]
  exact hr
theorem own_dup2D {tb : Tables} [Ours tb] {e : Env} {below : List Frame} {T target : State} {m : MethodId} {c : Code} {g : JFrame} (h : At T m c below) (hx : tb.exec = Jvm.exec) (hg : g.method = m) {x : UInt64} {rest : List Value} (hd : decode c.code g.pc = .ok (.dup2, 1)) (hs : g.stack = .double x :: rest)
    (hr : Steps tb e below (T.setTop { g with pc := g.pc + 1, stack := .double x :: .double x :: rest }) target) : Steps tb e below (T.setTop g) target := by
  subst hg
  jvm_step h [h.top, hx, hd, hs, Value.category]
  exact hr
theorem own_retD {p : Program} {l : Launch} {e : Env} {R : Room} {s : State} {m : MethodId} {args : Array Value} {below : List Frame} {meth : Method} {c : Code} {T : State} {locs : List Loc} {cells slots : Nat} (Y : Stand p l e R s m args below meth c T locs cells slots) (hexec : p.tables.exec = Jvm.exec) {pc : Nat} {Ls : Array Slot} {w : UInt64} {rest : List Value} (hret : meth.sig.returnType = some .double)
    (hdg : decode c.code pc = .ok (.dreturn, 1)) {fs : List Frame} (hleave : ∀ (f : JFrame) (acts : List Action), f.method = m → f.locked = none → f.entered = [] → (doReturn e (T.setTop f) acts (some (.double w))).1 = T.setFrames fs) :
    Steps p.tables e below (T.setTop (mkF m pc Ls (.double w :: rest))) (T.setFrames fs) :=
  retOut Y hexec hret rfl (Or.inr (Or.inr (Or.inl ⟨rfl, rfl, w, rfl⟩))) hdg hleave
theorem own_stD {p : Program} {l : Launch} {e : Env} {R : Room} {s : State} {m : MethodId} {args : Array Value} {below : List Frame} {meth : Method} {c : Code} {T : State} {locs : List Loc} {cells slots : Nat} {Z : State} {h : Heap}
    (X : Stand p l e R s m args below meth c T locs cells slots) (hx : p.tables.exec = Jvm.exec) (hZ : Z.Warmed39 s.vm) (eT : T.heap = h) {a : Addr} {cl : Cell} (A : Arr Z h a cl .double) {j : Int32} {x : UInt64} (hj : ¬ (j < 0 ∨ cl.slots.size ≤ j.toNatClampNeg)) {g : JFrame} (hg : g.method = m) {rest : List Value} (hs : g.stack = .double x :: .int j :: .ref a :: rest) (hd : decode c.code g.pc = .ok (.dastore, 1)) :
    ∃ T' h', Stand p l e R s m args below meth c T' (locs ++ [⟨a, j.toNatClampNeg⟩]) cells slots ∧ T'.heap = h' ∧ Wr h h' a j.toNatClampNeg (.double x) ∧ ∀ target, Steps p.tables e below (T'.setTop { g with pc := g.pc + 1, stack := rest }) target → Steps p.tables e below (T.setTop g) target := by
  obtain ⟨X', st⟩ := X.dastore hx (by rw [eT]; exact A.1) (State.isArrayOf_alike hZ.alike A.2.1) A.2.2 hj hg hs hd
  exact ⟨_, _, X', rfl, ⟨cl, A.1, A.plain, Nat.lt_of_not_le fun q => hj (Or.inr q), by rw [← eT]; rfl⟩, st⟩
section OwnDy
open Jvm.FP Jvm.FP.Core
/-- the datum's exponent moved by j -/
def own_sh (j : Int) : Datum → Datum
  | .fin s c q => .fin s c (q + j)
  | d => d
/-- the datum is n * 2^k -/
def own_Dy (n k : Int) (d : Datum) : Prop := Whole n (own_sh (-k) d)
theorem own_dy0 {n : Int} {d : Datum} : own_Dy n 0 d ↔ Whole n d := by
  cases d with
  | nan => exact Iff.rfl
  | inf => exact Iff.rfl
  | fin s c q =>
    show Whole n (.fin s c (q + -0)) ↔ _
    rw [show q + -0 = q by omega]
theorem own_sh_sum (j : Int) (x y : Datum) : exactSum (own_sh j x) (own_sh j y) = own_sh j (exactSum x y) := by
  cases x <;> cases y <;> try rfl
  · simp only [own_sh, exactSum]; split <;> rfl
  · rename_i s c q t d r
    have hm : min (q + j) (r + j) = min q r + j := by omega
    have hu : sumUnits s c (q + j) t d (r + j) (min q r + j) = sumUnits s c q t d r (min q r) := by
      unfold sumUnits inUnits
      rw [show q + j - (min q r + j) = q - min q r by omega, show r + j - (min q r + j) = r - min q r by omega]
    simp only [own_sh, exactSum, hm, hu]
theorem own_sh_prod (i j : Int) (x y : Datum) : exactProduct (own_sh i x) (own_sh j y) = own_sh (i + j) (exactProduct x y) := by
  cases x <;> cases y <;> try rfl
  · simp only [own_sh, exactProduct]; split <;> rfl
  · simp only [own_sh, exactProduct]; split <;> rfl
  · simp only [own_sh, exactProduct, Datum.fin.injEq, true_and]; omega
theorem own_sh_order (j : Int) (x y : Datum) : order (own_sh j x) (own_sh j y) = order x y := by
  cases x <;> cases y <;> try rfl
  rename_i s c q t d r
  simp only [own_sh, order]
  unfold inUnits
  rw [show q + j - min (q + j) (r + j) = q - min q r by omega, show r + j - min (q + j) (r + j) = r - min q r by omega]
theorem own_sh_neg (j : Int) (x : Datum) : negate (own_sh j x) = own_sh j (negate x) := by cases x <;> rfl
theorem own_dy_sum {n m k : Int} {x y : Datum} (hx : own_Dy n k x) (hy : own_Dy m k y) : own_Dy (n + m) k (exactSum x y) := by
  unfold own_Dy; rw [← own_sh_sum]; exact whole_sum hx hy
theorem own_dy_neg {n k : Int} {x : Datum} (hx : own_Dy n k x) : own_Dy (-n) k (negate x) := by
  unfold own_Dy; rw [← own_sh_neg]; exact whole_negate hx
theorem own_dy_prod {n m k l : Int} {x y : Datum} (hx : own_Dy n k x) (hy : own_Dy m l y) : own_Dy (n * m) (k + l) (exactProduct x y) := by
  unfold own_Dy; rw [show -(k + l) = -k + -l by omega, ← own_sh_prod]; exact whole_product hx hy
theorem own_dy_order {n m k : Int} {x y : Datum} (hx : own_Dy n k x) (hy : own_Dy m k y) : order x y = some (compare n m) := by
  rw [← own_sh_order (-k)]; exact order_whole hx hy
theorem own_dy_fin {n k : Int} {x : Datum} (h : own_Dy n k x) : ∃ s c q, x = .fin s c q := by
  cases x with
  | nan => exact h.elim
  | inf => exact h.elim
  | fin s c q => exact ⟨s, c, q, rfl⟩
theorem own_dy_abs {n k q : Int} {s : Bool} {c : Nat} (h : own_Dy n k (.fin s c q)) : c * 2 ^ (q - k).toNat = n.natAbs * 2 ^ (k - q).toNat := by
  have := whole_natAbs (q := q + -k) h
  rw [show q + -k = q - k by omega, show -(q - k) = k - q by omega] at this
  exact this
theorem own_dy_sign {n k q : Int} {s : Bool} {c : Nat} (h : own_Dy n k (.fin s c q)) (hn : n ≠ 0) : s = decide (n < 0) := whole_sign (q := q + -k) h hn
theorem own_dy_mk {n k q : Int} {s : Bool} {c : Nat} (h : c * 2 ^ (q - k).toNat = n.natAbs * 2 ^ (k - q).toNat) (hs : n ≠ 0 → s = decide (n < 0)) : own_Dy n k (.fin s c q) := by
  show signed s (c * 2 ^ (q + -k).toNat) = n * ((2 ^ (-(q + -k)).toNat : Nat) : Int)
  rw [show q + -k = q - k by omega, show -(q - k) = k - q by omega, h]
  by_cases h0 : n = 0
  · subst h0; simp [signed]
  · rw [hs h0, signed_mul]
    congr 1
    unfold signed
    by_cases h : n < 0 <;> simp [h] <;> omega
/-- the same number in smaller units -/
theorem own_dy_scale {n k : Int} {x : Datum} (h : own_Dy n k x) (j : Nat) : own_Dy (n * ((2 ^ j : Nat) : Int)) (k - j) x := by
  obtain ⟨s, c, q, rfl⟩ := own_dy_fin h
  have p : 0 < 2 ^ j := Nat.two_pow_pos j
  refine own_dy_mk ?_ fun hn => ?_
  · have ha := own_dy_abs h
    rw [Int.natAbs_mul, Int.natAbs_natCast]
    have e1 : (q - (k - (j : Int))).toNat + (k - q).toNat = (q - k).toNat + j + (k - (j : Int) - q).toNat := by omega
    refine Nat.eq_of_mul_eq_mul_right (Nat.two_pow_pos (k - q).toNat) ?_
    calc c * 2 ^ (q - (k - (j : Int))).toNat * 2 ^ (k - q).toNat = c * 2 ^ ((q - (k - (j : Int))).toNat + (k - q).toNat) := by rw [Nat.pow_add, Nat.mul_assoc]
      _ = (c * 2 ^ (q - k).toNat) * 2 ^ j * 2 ^ (k - (j : Int) - q).toNat := by rw [e1, Nat.pow_add, Nat.pow_add]; simp only [Nat.mul_assoc]
      _ = n.natAbs * 2 ^ j * 2 ^ (k - (j : Int) - q).toNat * 2 ^ (k - q).toNat := by rw [ha]; ac_rfl
  · have p' : (0 : Int) < ((2 ^ j : Nat) : Int) := by omega
    have h0 : n ≠ 0 := fun h => hn (by rw [h, Int.zero_mul])
    rw [own_dy_sign h h0, decide_eq_decide]
    constructor
    · intro hl; exact Int.mul_neg_of_neg_of_pos hl p'
    · intro hl; exact Int.lt_of_not_ge fun hg => by have := Int.mul_nonneg hg (Int.le_of_lt p'); omega
/-- whole multiples of 2^k of at most 53 digits are doubles -/
theorem own_fit {n : Nat} {k : Int} (s : Bool) (hn : n ≤ 2 ^ 53) (h1 : -1074 ≤ k) (h2 : k ≤ 971) (h3 : n = 2 ^ 53 → k ≤ 970) : ∃ c q, Core.fits b64 (.fin s c q) ∧ n * 2 ^ (k - q).toNat = c * 1 * 2 ^ (q - k).toNat := by
  have ht : b64.tails = 2 ^ 52 := by decide
  have hp : b64.p = 53 := rfl
  have hm : b64.qmin = -1074 := by decide
  have hM : b64.qmax = 971 := by decide
  by_cases h0 : n = 0
  · subst h0
    exact ⟨0, b64.qmin, zero_fits good_b64 s, by simp⟩
  by_cases hp2 : n = 2 ^ 53
  · have h3 := h3 hp2
    refine ⟨2 ^ 52, k + 1, ⟨by rw [hp]; decide, by omega, by omega, .inr (by omega)⟩, ?_⟩
    rw [hp2, show (k - (k + 1)).toNat = 0 by omega, show (k + 1 - k).toNat = 1 by omega]
  · have l1 : 2 ^ n.log2 ≤ n := Nat.log2_self_le h0
    have l2 : n < 2 ^ (n.log2 + 1) := Nat.lt_log2_self
    have l3 : n.log2 < 53 := (Nat.pow_lt_pow_iff_right (by decide : 1 < 2)).mp (Nat.lt_of_le_of_lt l1 (by omega))
    generalize n.log2 = L at l1 l2 l3
    have hq : ∃ q : Int, q = max (-1074) ((L : Int) + k - 52) := ⟨_, rfl⟩
    obtain ⟨q, hq⟩ := hq
    have q1 : q ≤ k := by omega
    refine ⟨n * 2 ^ (k - q).toNat, q, ⟨?_, by omega, by omega, ?_⟩, ?_⟩
    · rw [hp]
      calc n * 2 ^ (k - q).toNat < 2 ^ (L + 1) * 2 ^ (k - q).toNat := Nat.mul_lt_mul_of_pos_right l2 (Nat.two_pow_pos _)
        _ = 2 ^ (L + 1 + (k - q).toNat) := by rw [← Nat.pow_add]
        _ ≤ 2 ^ 53 := Nat.pow_le_pow_right (by decide) (by omega)
    · by_cases hm2 : q = -1074
      · left; rw [hm]; exact hm2
      · right
        rw [ht]
        calc 2 ^ 52 = 2 ^ L * 2 ^ (k - q).toNat := by rw [← Nat.pow_add]; congr 1; omega
          _ ≤ n * 2 ^ (k - q).toNat := Nat.mul_le_mul_right _ l1
    · rw [show (q - k).toNat = 0 by omega]; simp
theorem own_dy_roundRatio {n k e : Int} {A B : Nat} {s : Bool} (hB : 0 < B) (hn : n.natAbs ≤ 2 ^ 53) (h1 : -1074 ≤ k) (h2 : k ≤ 970) (hA : A * 2 ^ (e - k).toNat = n.natAbs * B * 2 ^ (k - e).toNat) (hs : n ≠ 0 → s = decide (n < 0)) : own_Dy n k (roundRatio b64 s A B e) := by
  obtain ⟨c, q, hf, hv⟩ := own_fit (n := n.natAbs) s hn h1 (by omega) (fun _ => h2)
  have : roundRatio b64 s A B e = .fin s c q := by
    rw [roundRatio_congr (A' := n.natAbs) (B' := 1) (e' := k) hB (by decide) (by rw [Nat.mul_one]; exact hA)]
    exact roundRatio_exact good_b64 (by decide) hf hv
  rw [this]
  refine own_dy_mk ?_ hs
  rw [Nat.mul_one] at hv
  exact hv.symm
theorem own_dy_round {n k : Int} {d : Datum} (hn : n.natAbs ≤ 2 ^ 53) (h1 : -1074 ≤ k) (h2 : k ≤ 970) (h : own_Dy n k d) : own_Dy n k (round b64 d) := by
  obtain ⟨s, c, q, rfl⟩ := own_dy_fin h
  refine own_dy_roundRatio (by decide) hn h1 h2 ?_ (own_dy_sign h)
  rw [Nat.mul_one]; exact own_dy_abs h
theorem own_pow_cancel {a b x y : Nat} {u : Int} (h : a * 2 ^ x = b * 2 ^ y) (hu : u = (x : Int) - y) : a * 2 ^ u.toNat = b * 2 ^ (-u).toNat := by
  have hx : x = u.toNat + min x y := by omega
  have hy : y = (-u).toNat + min x y := by omega
  generalize u.toNat = v at *
  generalize (-u).toNat = w at *
  generalize min x y = t at hx hy
  subst hx hy
  rw [Nat.pow_add, Nat.pow_add, ← Nat.mul_assoc, ← Nat.mul_assoc] at h
  exact Nat.eq_of_mul_eq_mul_right (Nat.two_pow_pos t) h
/-- an exact quotient -/
theorem own_dy_quot {r m k l : Int} {x y : Datum} (hm : m ≠ 0) (hn : r.natAbs ≤ 2 ^ 53) (h1 : -1074 ≤ k) (h2 : k ≤ 970) (hx : own_Dy (r * m) (k + l) x) (hy : own_Dy m l y) : own_Dy r k (quotient b64 x y) := by
  obtain ⟨s, c, q, rfl⟩ := own_dy_fin hx
  obtain ⟨t, d, q', rfl⟩ := own_dy_fin hy
  have ha := own_dy_abs hx
  have hb := own_dy_abs hy
  have hd : d ≠ 0 := by
    rintro rfl
    rw [Nat.zero_mul] at hb
    rcases Nat.mul_eq_zero.mp hb.symm with h | h
    · exact hm (Int.natAbs_eq_zero.mp h)
    · have := Nat.two_pow_pos (l - q').toNat; omega
  show own_Dy r k (if d = 0 then _ else _)
  rw [if_neg hd]
  refine own_dy_roundRatio (Nat.pos_of_ne_zero hd) hn h1 h2 ?_ fun h0 => ?_
  · rw [Int.natAbs_mul] at ha
    have e1 : (q - q' - k) = (((q - (k + l)).toNat + (l - q').toNat : Nat) : Int) - (((k + l - q).toNat + (q' - l).toNat : Nat) : Int) := by omega
    have e2 : k - (q - q') = -(q - q' - k) := by omega
    rw [e2]
    refine own_pow_cancel (x := (q - (k + l)).toNat + (l - q').toNat) (y := (k + l - q).toNat + (q' - l).toNat) ?_ e1
    calc c * 2 ^ ((q - (k + l)).toNat + (l - q').toNat) = (c * 2 ^ (q - (k + l)).toNat) * 2 ^ (l - q').toNat := by rw [Nat.pow_add, Nat.mul_assoc]
      _ = r.natAbs * (m.natAbs * 2 ^ (l - q').toNat) * 2 ^ (k + l - q).toNat := by rw [ha]; ac_rfl
      _ = r.natAbs * d * 2 ^ ((k + l - q).toNat + (q' - l).toNat) := by rw [← hb, Nat.pow_add]; ac_rfl
  · have h3 : r * m ≠ 0 := fun h => (Int.mul_eq_zero.mp h).elim h0 hm
    rw [own_dy_sign hx h3, own_dy_sign hy hm]
    rcases Int.lt_or_gt_of_ne h0 with a | a <;> rcases Int.lt_or_gt_of_ne hm with b | b
    · have := Int.mul_pos_of_neg_of_neg a b; simp [a, b]; omega
    · have := Int.mul_neg_of_neg_of_pos a b; simp [a, this]; omega
    · have := Int.mul_neg_of_pos_of_neg a b; simp [b, this]; omega
    · have := Int.mul_pos a b; simp [show ¬ r < 0 by omega, show ¬ m < 0 by omega]; omega
theorem own_dy_unscale {n k : Int} {x : Datum} (j : Nat) (h : own_Dy (n * ((2 ^ j : Nat) : Int)) k x) : own_Dy n (k + j) x := by
  obtain ⟨s, c, q, rfl⟩ := own_dy_fin h
  have p : 0 < 2 ^ j := Nat.two_pow_pos j
  have p' : (0 : Int) < ((2 ^ j : Nat) : Int) := by omega
  refine own_dy_mk ?_ fun h0 => ?_
  · have ha := own_dy_abs h
    rw [Int.natAbs_mul, Int.natAbs_natCast] at ha
    have e1 : (q - (k + (j : Int))) = (((q - k).toNat : Nat) : Int) - (((k - q).toNat + j : Nat) : Int) := by omega
    have e2 : k + (j : Int) - q = -(q - (k + (j : Int))) := by omega
    rw [e2]
    refine own_pow_cancel (x := (q - k).toNat) (y := (k - q).toNat + j) ?_ e1
    rw [ha, Nat.pow_add]; ac_rfl
  · have hn : n * ((2 ^ j : Nat) : Int) ≠ 0 := fun h => (Int.mul_eq_zero.mp h).elim h0 (by omega)
    rw [own_dy_sign h hn, decide_eq_decide]
    constructor
    · intro hl; exact Int.lt_of_not_ge fun hg => by have := Int.mul_nonneg hg (Int.le_of_lt p'); omega
    · intro hl; exact Int.mul_neg_of_neg_of_pos hl p'
/-- the number in units of 2^e -/
theorem own_dy_units {n k q e : Int} {s : Bool} {c : Nat} (h : own_Dy n k (.fin s c q)) (h1 : e ≤ k) (h2 : e ≤ q) : signed s (inUnits c q e) = n * ((2 ^ (k - e).toNat : Nat) : Int) := by
  have ha := own_dy_abs h
  have e1 : inUnits c q e = n.natAbs * 2 ^ (k - e).toNat := by
    unfold inUnits
    refine Nat.eq_of_mul_eq_mul_right (Nat.two_pow_pos (k - q).toNat) ?_
    calc c * 2 ^ (q - e).toNat * 2 ^ (k - q).toNat = (c * 2 ^ (q - k).toNat) * 2 ^ (k - e).toNat := by
          rw [Nat.mul_assoc, ← Nat.pow_add, Nat.mul_assoc, ← Nat.pow_add]; congr 2; omega
      _ = n.natAbs * 2 ^ (k - e).toNat * 2 ^ (k - q).toNat := by rw [ha]; ac_rfl
  rw [e1, signed_mul]
  congr 1
  by_cases h0 : n = 0
  · subst h0; simp [signed]
  · rw [own_dy_sign h h0]
    unfold signed
    by_cases hl : n < 0 <;> simp [hl] <;> omega
theorem own_pow_split (n : Int) {k e : Int} (h1 : -1074 ≤ k) (h2 : e ≤ -1074) : n * ((2 ^ (k - e).toNat : Nat) : Int) = n * ((2 ^ (k + 1074).toNat : Nat) : Int) * ((2 ^ (b64.qmin - e).toNat : Nat) : Int) := by
  have hm : b64.qmin = -1074 := by decide
  rw [hm, Int.mul_assoc, ← Int.natCast_mul, ← Nat.pow_add]
  congr 4
  omega
/-- rounding is monotone -/
theorem own_round_le {n k w : Int} {d V : Datum} (h : own_Dy n k d) (h1 : -1074 ≤ k) (hV : Core.fits b64 V) (hn : V ≠ .nan) (hz : zval b64 V = w) (hw : n * ((2 ^ (k + 1074).toNat : Nat) : Int) ≤ w) : zval b64 (round b64 d) ≤ w := by
  obtain ⟨s, c, q, rfl⟩ := own_dy_fin h
  have hm : b64.qmin = -1074 := by decide
  have p := Nat.two_pow_pos (b64.qmin - min (-1074) q).toNat
  rw [← hz]
  refine zval_round_le good_b64 hV hn (e0 := min (-1074) q) (by omega) (by omega) ?_
  rw [own_dy_units h (by omega) (by omega), own_pow_split n h1 (by omega), hz]
  exact Int.mul_le_mul_of_nonneg_right hw (by omega)
theorem own_round_ge {n k w : Int} {d V : Datum} (h : own_Dy n k d) (h1 : -1074 ≤ k) (hV : Core.fits b64 V) (hn : V ≠ .nan) (hz : zval b64 V = w) (hw : w ≤ n * ((2 ^ (k + 1074).toNat : Nat) : Int)) : w ≤ zval b64 (round b64 d) := by
  obtain ⟨s, c, q, rfl⟩ := own_dy_fin h
  have hm : b64.qmin = -1074 := by decide
  have p := Nat.two_pow_pos (b64.qmin - min (-1074) q).toNat
  rw [← hz]
  refine zval_round_ge good_b64 hV hn (e0 := min (-1074) q) (by omega) (by omega) ?_
  rw [own_dy_units h (by omega) (by omega), own_pow_split n h1 (by omega), hz]
  exact Int.mul_le_mul_of_nonneg_right hw (by omega)
/-! ### on doubles -/
def own_D (n k : Int) (a : UInt64) : Prop := own_Dy n k (val64 a)
theorem own_d_int {n : Int} {a : UInt64} : own_D n 0 a ↔ DInt n a := own_dy0
theorem own_d_ne {n k : Int} {a : UInt64} (h : own_D n k a) : val64 a ≠ .nan := by
  obtain ⟨s, c, q, e⟩ := own_dy_fin h; rw [e]; exact Datum.noConfusion
theorem own_d_no {n k : Int} {a : UInt64} (h : own_D n k a) : Jvm.Free.Fl.NoNaN64 a := Jvm.Free.Fl.val64_no.mpr (own_d_ne h)
theorem own_d_scale {n k : Int} {a : UInt64} (h : own_D n k a) (j : Nat) : own_D (n * ((2 ^ j : Nat) : Int)) (k - j) a := own_dy_scale h j
theorem own_d_add {n m k : Int} {a b : UInt64} (ha : own_D n k a) (hb : own_D m k b) (hn : (n + m).natAbs ≤ 2 ^ 53) (h1 : -1074 ≤ k) (h2 : k ≤ 970) : own_D (n + m) k (FP.dadd a b) := by
  unfold own_D; rw [show FP.dadd a b = Core.dadd a b from rfl, val64_dadd]; exact own_dy_round hn h1 h2 (own_dy_sum ha hb)
theorem own_d_sub {n m k : Int} {a b : UInt64} (ha : own_D n k a) (hb : own_D m k b) (hn : (n - m).natAbs ≤ 2 ^ 53) (h1 : -1074 ≤ k) (h2 : k ≤ 970) : own_D (n - m) k (FP.dsub a b) := by
  unfold own_D; rw [show FP.dsub a b = Core.dsub a b from rfl, val64_dsub]; exact own_dy_round hn h1 h2 (own_dy_sum ha (own_dy_neg hb))
theorem own_d_mul {n m k l : Int} {a b : UInt64} (ha : own_D n k a) (hb : own_D m l b) (hn : (n * m).natAbs ≤ 2 ^ 53) (h1 : -1074 ≤ k + l) (h2 : k + l ≤ 970) : own_D (n * m) (k + l) (FP.dmul a b) := by
  unfold own_D; rw [show FP.dmul a b = Core.dmul a b from rfl, val64_dmul]; exact own_dy_round hn h1 h2 (own_dy_prod ha hb)
theorem own_d_div {r m k l : Int} {a b : UInt64} (hm : m ≠ 0) (ha : own_D (r * m) (k + l) a) (hb : own_D m l b) (hn : r.natAbs ≤ 2 ^ 53) (h1 : -1074 ≤ k) (h2 : k ≤ 970) : own_D r k (FP.ddiv a b) := by
  unfold own_D; rw [show FP.ddiv a b = Core.ddiv a b from rfl, val64_ddiv]; exact own_dy_quot hm hn h1 h2 ha hb
theorem own_d_neg {n k : Int} {a : UInt64} (ha : own_D n k a) : own_D (-n) k (FP.dneg a) := by
  unfold own_D; rw [FP.val64_dneg]; exact own_dy_neg ha
theorem own_d_cmp {n m k : Int} {a b : UInt64} (ha : own_D n k a) (hb : own_D m k b) : FP.dcmp a b = some (compare n m) := own_dy_order ha hb
theorem own_d_i2d (x : Int32) : own_D x.toInt 0 (FP.i2d x) := own_d_int.mpr (i2d_int x)
theorem own_d_l2d {x : Int64} (h : x.toInt.natAbs ≤ 2 ^ 53) : own_D x.toInt 0 (FP.l2d x) := own_d_int.mpr (l2d_int h)
theorem own_d_unscale {n k : Int} {a : UInt64} (j : Nat) (h : own_D (n * ((2 ^ j : Nat) : Int)) k a) : own_D n (k + j) a := own_dy_unscale j h
theorem own_d_zv {n k : Int} {a : UInt64} (h : own_D n k a) (h1 : -1074 ≤ k) : zval b64 (val64 a) = n * ((2 ^ (k + 1074).toNat : Nat) : Int) := by
  obtain ⟨s, c, q, e⟩ := own_dy_fin h
  have hf := val64_fits a
  unfold own_D at h
  rw [e] at h hf ⊢
  have hm : b64.qmin = -1074 := by decide
  have := own_dy_units h (e := b64.qmin) (by omega) (by have := hf.2.1; omega)
  show signed s (inUnits c q b64.qmin) = _
  rw [this, hm]
  congr 4
theorem own_cmp_eq (n : Int) : compare n n = .eq := by simp [compare, compareOfLessAndEq]
theorem own_cmp0 {r : Option Ordering} {op : CmpOp} : cmpValue r op = 0 ↔ r = some .eq := by
  rcases r with _ | o
  · cases op <;> simp [cmpValue] <;> decide
  · cases o <;> simp [cmpValue]
theorem own_d_of {n k q : Int} {s : Bool} {c : Nat} {a : UInt64} (h : val64 a = .fin s c q) (h' : c * 2 ^ (q - k).toNat = n.natAbs * 2 ^ (k - q).toNat) (hs : n = 0 ∨ s = decide (n < 0)) : own_D n k a := by
  unfold own_D; rw [h]; exact own_dy_mk h' fun h0 => hs.resolve_left h0
theorem own_d_0 {k l : Int} {a : UInt64} (h : own_D 0 k a) : own_D 0 l a := by
  obtain ⟨s, c, q, e⟩ := own_dy_fin h
  unfold own_D at h ⊢
  rw [e] at h ⊢
  have := own_dy_abs h
  refine own_dy_mk ?_ fun h0 => absurd rfl h0
  have p := Nat.two_pow_pos (q - k).toNat
  rw [show (0 : Int).natAbs = 0 from rfl, Nat.zero_mul] at this
  rcases Nat.mul_eq_zero.mp this with h | h
  · rw [h]; simp
  · omega
theorem own_d_zero : own_D 0 0 FP.dconst0 := own_d_of (s := false) (c := 0) (q := -1074) (by decide +kernel) (by decide +kernel) (Or.inl rfl)
theorem own_d_one : own_D 1 0 FP.dconst1 := own_d_of (s := false) (c := 4503599627370496) (q := -52) (by decide +kernel) (by decide +kernel) (Or.inr rfl)
end OwnDy
theorem own_pd__JJD_V : parseMethodDescriptor "(JJD)V" = some ⟨[.long, .long, .double], none⟩ := by decide +kernel
theorem own_pd___V : parseMethodDescriptor "()V" = some ⟨[], none⟩ := by decide +kernel
theorem own_pd__D_Z : parseMethodDescriptor "(D)Z" = some ⟨[.double], some .boolean⟩ := by decide +kernel
theorem own_pd__D_D : parseMethodDescriptor "(D)D" = some ⟨[.double], some .double⟩ := by decide +kernel
theorem own_pd__Lcom_example_meter_meter_wire_WeightMessage__Z : parseMethodDescriptor "(Lcom/example/meter/meter/wire/WeightMessage;)Z" = some ⟨[(.object "com/example/meter/meter/wire/WeightMessage")], some .boolean⟩ := by decide +kernel
theorem own_cmpL_eq {x y : Int64} : XT.cmpL x y = 0 ↔ x = y := by
  unfold XT.cmpL
  split
  · rename_i h; constructor
    · intro q; exact absurd q (by decide)
    · rintro rfl; exact (Int64.lt_irrefl h).elim
  · split
    · rename_i h; exact ⟨fun _ => h, fun _ => rfl⟩
    · rename_i h; exact ⟨fun q => absurd q (by decide), fun q => absurd q h⟩
theorem own_cmpL_gt {x y : Int64} : (0 : Int32) < XT.cmpL x y ↔ y < x := by
  unfold XT.cmpL
  split
  · rename_i h; exact ⟨fun _ => h, fun _ => by decide⟩
  · rename_i h
    split
    · exact ⟨fun q => absurd q (by decide), fun q => absurd q h⟩
    · exact ⟨fun q => absurd q (by decide), fun q => absurd q h⟩
theorem own_cmpL_lt {x y : Int64} : XT.cmpL x y < (0 : Int32) ↔ x < y := by
  unfold XT.cmpL
  split
  · rename_i h; exact ⟨fun q => absurd q (by decide), fun q => absurd h (Int64.lt_asymm q)⟩
  · split
    · rename_i h; subst h; exact ⟨fun q => absurd q (by decide), fun q => (Int64.lt_irrefl q).elim⟩
    · rename_i h1 h2; exact ⟨fun _ => Int64.lt_of_le_of_ne (Int64.not_lt.mp h1) h2, fun _ => by decide⟩
def own_nw (i1 s1 i2 s2 : Int64) : Int32 := if i1 = i2 then (if s2 < s1 then 1 else 0) else 1
theorem own_mask (x : Int64) : ¬ (x &&& (9223372036854775807 : Int64)) < 0 := by
  have := c_maskL x 9223372036854775807 63 (by decide) (by decide)
  rw [Int64.lt_iff_toInt_lt, this, show (0 : Int64).toInt = 0 from rfl]
  have := Int.emod_nonneg x.toInt (b := ((2 ^ 63 : Nat) : Int)) (by decide)
  omega
theorem own_w (v : Int32) : Jvm.Free.Fl.NoNaN64 (FP.i2d (v &&& (65535 : Int32))) ∧ ¬ ((0 : Int32) < cmpValue (FP.dcmp ((FP.i2d (v &&& (65535 : Int32))) &&& 0x7fffffffffffffff) (9218868437227405311 : UInt64)) .g) ∧ ¬ (cmpValue (FP.dcmp (FP.i2d (v &&& (65535 : Int32))) FP.dconst0) .g < 0) := by
  have hb := c_and v 65535 (by decide)
  generalize v &&& 65535 = u at *
  refine ⟨own_d_no (own_d_i2d u), ?_, ?_⟩
  · have hu : (FP.i2d u) &&& 0x7fffffffffffffff = FP.i2d u := by
      show FP.Core.i2d u &&& 0x7fffffffffffffff = FP.Core.i2d u
      rw [FP.Core.i2d_l2d]
      exact FP.Core.l2d_abs (by rw [Int64.lt_iff_toInt_lt, c_i2l, show (0 : Int64).toInt = 0 from rfl]; omega)
    rw [hu]
    have hm : own_D 9007199254740991 971 (9218868437227405311 : UInt64) := own_d_of (s := false) (c := 9007199254740991) (q := 971) (by decide +kernel) (by decide +kernel) (Or.inr (by decide))
    have h1 := own_d_scale hm 971
    rw [show (971 : Int) - ((971 : Nat) : Int) = 0 by decide] at h1
    rw [own_d_cmp (own_d_i2d u) h1]
    have hl : u.toInt < 9007199254740991 * ((2 ^ 971 : Nat) : Int) := by
      have e : (65536 : Int) ≤ 9007199254740991 * ((2 ^ 971 : Nat) : Int) := by decide +kernel
      have hb2 : u.toInt ≤ 65535 := hb.2
      exact Int.lt_of_lt_of_le (by omega) e
    rw [Int.compare_eq_lt.mpr hl]; decide
  · rw [own_d_cmp (own_d_i2d u) own_d_zero]
    rcases Int.lt_trichotomy u.toInt 0 with h | h | h
    · omega
    · rw [Int.compare_eq_eq.mpr h]; decide
    · rw [Int.compare_eq_gt.mpr h]; decide
theorem d2_0 : decode jdk_30_method_1_code 0 = .ok (.aload_n 0, 1) := by decide +kernel
theorem d2_1 : decode jdk_30_method_1_code 1 = .ok (.invokespecial 1, 3) := by decide +kernel
theorem d2_4 : decode jdk_30_method_1_code 4 = .ok (.return_, 1) := by decide +kernel
theorem own_pn_java_lang_Record : plainName "java/lang/Record" = true := by first | (simp [plainName, overriddenIn]; done) | decide +kernel
theorem own_ef2 (m : MethodId) (x0 : Addr) : entryFrame m #[(.ref x0)] 1 = mkF m 0 #[.val (.ref x0)] [] := by first | (simp [entryFrame, mkF, argsToLocals, Value.category]; done) | rfl
def Q2 (h0 : Heap) (n0 : Nat) (v : Option Value) (h : Heap) (L : List Loc) : Prop := v = none ∧ Fr n0 L ∧ h = h0
set_option maxRecDepth 65536 in
set_option maxHeartbeats 40000000 in
theorem rm2 (l : Launch) (Z : State) (a0 : Array Value) (hw : ∀ d ∈ tables_1, d.before a0 Z = true) (ws : List Jvm.Cond) (a : Addr)  (h0 : Heap) (n0 : Nat) (Z0 : n0 ≤ h0.size)  :
    MetFree l (⟨"java/lang/Record", "<init>", "()V"⟩ : MethodName) (head1 (Jvm.Cond.code (⟨"java/lang/Record", "<init>", "()V"⟩ : MethodName) jdk_30_method_1_code 1 none :: ws) ({ frames := 1, cells := 0, slots := 0, locals := 12 } : Room)) (fun α U => α = #[(.ref a)] ∧ Z.Warmed39 U.vm ∧ U.heap = h0) (fun _ _ _ _ _ => True) (fun _ U ω U' => ∃ ν Λ, ω = .returned ν ∧ Q2 h0 n0 ν U'.heap Λ ∧ FrameEnd U ω U' Λ ({ frames := 1, cells := 0, slots := 0, locals := 12 } : Room).cells ({ frames := 1, cells := 0, slots := 0, locals := 12 } : Room).slots) := by
  refine MetFree.of_bodySF (plainFor_of_name own_pn_java_lang_Record) hisR ?_
  intro p e s m args below meth c s₁ Bd hml0 hP hK
  obtain ⟨rfl, hZ, hh⟩ := hP
  have hx := Bd.exec
  have hby := Bd.bytes
  have hml : c.maxLocals = 1 := hml0
  have hown : s.vm.findClass "java/lang/Record" = some m.cls := findClass_of_methodNamed Bd.named
  have hnm := (name_of_methodNamed Bd.named Bd.method).1
  have X0 : Stand p l e ({ frames := 1, cells := 0, slots := 0, locals := 12 } : Room) s m #[(.ref a)] below meth c s₁ [] 0 0 := Stand.of_body Bd
  have e0 : s₁.heap = h0 := by rw [← hh, Bd.state]; rfl
  have N0 := Fr.nil n0
  have KK0 : Keep h0 h0 [] := Keep.refl h0 []
  have pre0 : ∀ τ, Steps p.tables e below (s₁.setTop (mkF m 0 #[.val (.ref a)] [])) τ → Steps p.tables e below (s₁.setTop (entryFrame m #[(.ref a)] 1)) τ := fun τ κ => castTop (own_ef2 m a) κ
  have pre1 : ∀ τ, Steps p.tables e below (s₁.setTop (mkF m 1 #[.val (.ref a)] [(.ref a)])) τ → Steps p.tables e below (s₁.setTop (entryFrame m #[(.ref a)] 1)) τ := fun τ kt => pre0 τ (by
    show Steps p.tables e below (s₁.setTop (mkF m 0 #[.val (.ref a)] [])) τ
    refine XS.aloadN X0.here hx rfl (Jvm.hb hby d2_0) rfl rfl ?_
    exact kt)
  obtain ⟨T2, X2, e2, st2⟩ := initO X0 hx hZ hown (hw _ (List.mem_of_getElem? (i := 13) rfl)) (hw _ (List.mem_of_getElem? (i := 14) rfl)) (hw _ (List.mem_of_getElem? (i := 15) rfl)) e0 (g := (mkF m 1 #[.val (.ref a)] [(.ref a)])) rfl (by rw [hml]; rfl) rfl (Jvm.hb hby d2_1) (by decide) (W := 0) (by show 2 * 0 + _ ≤ _; exact Nat.le_of_eq rfl) (by decide)
  have pre3 : ∀ τ, Steps p.tables e below (T2.setTop (mkF m 4 #[.val (.ref a)] [])) τ → Steps p.tables e below (s₁.setTop (entryFrame m #[(.ref a)] 1)) τ := fun τ kt => pre1 τ (st2 τ kt)
  obtain ⟨fs, hrL, hrun, hended, hW, hsame⟩ := X2.leave (v := none) (fun _ => rfl)
  refine ⟨_, _, pre3 _ ?_, hrun, hended, _, _, rfl, ?_, ⟨_, rfl⟩, hW, hsame.mono (by decide) (by decide)⟩
  · show Steps p.tables e below (T2.setTop (mkF m 4 #[.val (.ref a)] [])) _
    exact X2.returnOut hx Bd.returns (Jvm.hb hby d2_4) hrL
  · show Q2 h0 n0 _ T2.heap _
    rw [e2]
    exact ⟨rfl, N0, rfl⟩
theorem d4_0 : decode jdk_117_method_8_code 0 = .ok (.dload_n 0, 1) := by decide +kernel
theorem d4_1 : decode jdk_117_method_8_code 1 = .ok (.invokestatic 38, 3) := by decide +kernel
theorem d4_4 : decode jdk_117_method_8_code 4 = .ok (.ldc2_w 111, 3) := by decide +kernel
theorem d4_7 : decode jdk_117_method_8_code 7 = .ok (.dcmp .g, 1) := by decide +kernel
theorem d4_8 : decode jdk_117_method_8_code 8 = .ok (.ifCond .gt 7, 3) := by decide +kernel
theorem d4_11 : decode jdk_117_method_8_code 11 = .ok (.iconst 1, 1) := by decide +kernel
theorem d4_12 : decode jdk_117_method_8_code 12 = .ok (.goto 4, 3) := by decide +kernel
theorem d4_15 : decode jdk_117_method_8_code 15 = .ok (.iconst 0, 1) := by decide +kernel
theorem d4_16 : decode jdk_117_method_8_code 16 = .ok (.ireturn, 1) := by decide +kernel
theorem own_pn_java_lang_Double : plainName "java/lang/Double" = true := by first | (simp [plainName, overriddenIn]; done) | decide +kernel
theorem own_ef4 (m : MethodId) (x0 : UInt64) : entryFrame m #[(.double x0)] 2 = mkF m 0 #[.val (.double x0), .second] [] := by first | (simp [entryFrame, mkF, argsToLocals, Value.category]; done) | rfl
def Q4 (h0 : Heap) (n0 : Nat) (v : Option Value) (h : Heap) (L : List Loc) : Prop := v = some (.int 1) ∧ Fr n0 L ∧ h = h0
set_option maxRecDepth 65536 in
set_option maxHeartbeats 40000000 in
theorem rm4 (l : Launch) (Z : State) (a0 : Array Value) (hw : ∀ d ∈ tables_1, d.before a0 Z = true) (ws : List Jvm.Cond) (x : UInt64)  (h0 : Heap) (n0 : Nat) (Z0 : n0 ≤ h0.size) (hn : Jvm.Free.Fl.NoNaN64 x) (hc : ¬ ((0 : Int32) < cmpValue (FP.dcmp (x &&& 0x7fffffffffffffff) (9218868437227405311 : UInt64)) .g)) :
    MetFree l (⟨"java/lang/Double", "isFinite", "(D)Z"⟩ : MethodName) (head1 (Jvm.Cond.code (⟨"java/lang/Double", "isFinite", "(D)Z"⟩ : MethodName) jdk_117_method_8_code 2 (some .boolean) :: ws) ({ frames := 1, cells := 0, slots := 0, locals := 13 } : Room)) (fun α U => α = #[(.double x)] ∧ Z.Warmed39 U.vm ∧ U.heap = h0) (fun _ _ _ _ _ => True) (fun _ U ω U' => ∃ ν Λ, ω = .returned ν ∧ Q4 h0 n0 ν U'.heap Λ ∧ FrameEnd U ω U' Λ ({ frames := 1, cells := 0, slots := 0, locals := 13 } : Room).cells ({ frames := 1, cells := 0, slots := 0, locals := 13 } : Room).slots) := by
  refine MetFree.of_bodySF (plainFor_of_name own_pn_java_lang_Double) hisR ?_
  intro p e s m args below meth c s₁ Bd hml0 hP hK
  obtain ⟨rfl, hZ, hh⟩ := hP
  have hx := Bd.exec
  have hby := Bd.bytes
  have hml : c.maxLocals = 2 := hml0
  have hown : s.vm.findClass "java/lang/Double" = some m.cls := findClass_of_methodNamed Bd.named
  have hnm := (name_of_methodNamed Bd.named Bd.method).1
  have X0 : Stand p l e ({ frames := 1, cells := 0, slots := 0, locals := 13 } : Room) s m #[(.double x)] below meth c s₁ [] 0 0 := Stand.of_body Bd
  have e0 : s₁.heap = h0 := by rw [← hh, Bd.state]; rfl
  have N0 := Fr.nil n0
  have KK0 : Keep h0 h0 [] := Keep.refl h0 []
  have pre0 : ∀ τ, Steps p.tables e below (s₁.setTop (mkF m 0 #[.val (.double x), .second] [])) τ → Steps p.tables e below (s₁.setTop (entryFrame m #[(.double x)] 2)) τ := fun τ κ => castTop (own_ef4 m x) κ
  have pre4 : ∀ τ, Steps p.tables e below (s₁.setTop (mkF m 1 #[.val (.double x), .second] [(.double x)])) τ → Steps p.tables e below (s₁.setTop (entryFrame m #[(.double x)] 2)) τ := fun τ kt => pre0 τ (by
    show Steps p.tables e below (s₁.setTop (mkF m 0 #[.val (.double x), .second] [])) τ
    refine own_dloadN X0.here hx rfl (Jvm.hb hby d4_0) rfl ?_
    exact kt)
  obtain ⟨_, vm5, _, -, X5, ⟨rfl, rfl⟩, st5⟩ := Jvm.LawKit.callS X0 hx (y := (⟨"java/lang/Math", "abs", "(D)D"⟩ : MethodName)) hown (mvT hZ (hw _ (List.mem_of_getElem? (i := 20) rfl))) (mvT hZ (hw _ (List.mem_of_getElem? (i := 21) rfl))) (mvT hZ (hw _ (List.mem_of_getElem? (i := 22) rfl))) (mvT hZ (hw _ (List.mem_of_getElem? (i := 23) rfl))) (by decide) (Jvm.Free.Fl.Abs.absD_pays (W := 0) x (mvT hZ (hw _ (List.mem_of_getElem? (i := 23) rfl))) (by decide) (by decide)) (g := (mkF m 1 #[.val (.double x), .second] [(.double x)])) rfl (by rw [hml]; rfl) (argsL := [(.double x)]) (rest := []) (lenOf own_pd__D_D rfl) rfl (by show 2 * 0 + _ ≤ _; exact Nat.le_of_eq rfl) (Jvm.hb hby d4_1) (fun _ _ => ⟨(by decide : 0 ≤ _), (by decide : 0 ≤ _), rfl, hn⟩)
  dsimp only [Pt.U, Pt.locs, Pt.cells, Pt.slots] at X5 st5
  have e5 : (s₁.setVm vm5).heap = h0 := e0
  have pre6 : ∀ τ, Steps p.tables e below ((s₁.setVm vm5).setTop (mkF m 4 #[.val (.double x), .second] [(.double (x &&& 0x7fffffffffffffff))])) τ → Steps p.tables e below (s₁.setTop (entryFrame m #[(.double x)] 2)) τ := fun τ kt => pre4 τ (st5 τ kt)
  have pre7 : ∀ τ, Steps p.tables e below ((s₁.setVm vm5).setTop (mkF m 16 #[.val (.double x), .second] [(.int (1 : Int32))])) τ → Steps p.tables e below (s₁.setTop (entryFrame m #[(.double x)] 2)) τ := fun τ kt => pre6 τ (by
    show Steps p.tables e below ((s₁.setVm vm5).setTop (mkF m 4 #[.val (.double x), .second] [(.double (x &&& 0x7fffffffffffffff))])) τ
    refine X5.ldc2DoubleC hx hown (mvT hZ (hw _ (List.mem_of_getElem? (i := 24) rfl))) (g := (mkF m 4 #[.val (.double x), .second] [(.double (x &&& 0x7fffffffffffffff))])) rfl (Jvm.hb hby d4_4) _ ?_
    show Steps p.tables e below ((s₁.setVm vm5).setTop (mkF m 7 #[.val (.double x), .second] [(.double (9218868437227405311 : UInt64)), (.double (x &&& 0x7fffffffffffffff))])) τ
    refine own_dcmp X5.here hx rfl (Jvm.hb hby d4_7) rfl ?_
    show Steps p.tables e below ((s₁.setVm vm5).setTop (mkF m 8 #[.val (.double x), .second] [(.int (cmpValue (FP.dcmp (x &&& 0x7fffffffffffffff) (9218868437227405311 : UInt64)) .g))])) τ
    refine XS.ifNo X5.here hx rfl (Jvm.hb hby d4_8) rfl ((if0 _ _).trans (flt hc).2.2.1) ?_
    show Steps p.tables e below ((s₁.setVm vm5).setTop (mkF m 11 #[.val (.double x), .second] [])) τ
    refine XS.iconst X5.here hx rfl (Jvm.hb hby d4_11) ?_
    show Steps p.tables e below ((s₁.setVm vm5).setTop (mkF m 12 #[.val (.double x), .second] [(.int (1 : Int32))])) τ
    refine XS.goto X5.here hx rfl (pc0 := 12) (pc' := 16) rfl (Jvm.hb hby d4_12) (by decide) (by decide) ?_
    exact kt)
  obtain ⟨fs, hrL, hrun, hended, hW, hsame⟩ := X5.leave (v := some (.int (1 : Int32))) (fun h => by rw [Bd.returns] at h; cases h)
  refine ⟨_, _, pre7 _ ?_, hrun, hended, _, _, rfl, ?_, ⟨_, rfl⟩, hW, hsame.mono (by decide) (by decide)⟩
  · show Steps p.tables e below ((s₁.setVm vm5).setTop (mkF m 16 #[.val (.double x), .second] [(.int (1 : Int32))])) _
    exact retN X5 hx (t := .boolean) Bd.returns (by simp) (Jvm.hb hby d4_16) hrL
  · show Q4 h0 n0 _ (s₁.setVm vm5).heap _
    exact ⟨rfl, N0, e5⟩
theorem d1_0 : decode prog_22_method_1_code 0 = .ok (.aload_n 0, 1) := by decide +kernel
theorem d1_1 : decode prog_22_method_1_code 1 = .ok (.invokespecial 5, 3) := by decide +kernel
theorem d1_4 : decode prog_22_method_1_code 4 = .ok (.lload_n 3, 1) := by decide +kernel
theorem d1_5 : decode prog_22_method_1_code 5 = .ok (.lconst 0, 1) := by decide +kernel
theorem d1_6 : decode prog_22_method_1_code 6 = .ok (.lcmp, 1) := by decide +kernel
theorem d1_7 : decode prog_22_method_1_code 7 = .ok (.ifCond .ge 17, 3) := by decide +kernel
theorem d1_10 : decode prog_22_method_1_code 10 = .ok (.new 11, 3) := by decide +kernel
theorem d1_13 : decode prog_22_method_1_code 13 = .ok (.dup, 1) := by decide +kernel
theorem d1_14 : decode prog_22_method_1_code 14 = .ok (.lload_n 3, 1) := by decide +kernel
theorem d1_15 : decode prog_22_method_1_code 15 = .ok (.invokedynamic 13, 5) := by decide +kernel
theorem d1_20 : decode prog_22_method_1_code 20 = .ok (.invokespecial 17, 3) := by decide +kernel
theorem d1_23 : decode prog_22_method_1_code 23 = .ok (.athrow, 1) := by decide +kernel
theorem d1_24 : decode prog_22_method_1_code 24 = .ok (.dload 5, 2) := by decide +kernel
theorem d1_26 : decode prog_22_method_1_code 26 = .ok (.invokestatic 20, 3) := by decide +kernel
theorem d1_29 : decode prog_22_method_1_code 29 = .ok (.ifCond .eq 10, 3) := by decide +kernel
theorem d1_32 : decode prog_22_method_1_code 32 = .ok (.dload 5, 2) := by decide +kernel
theorem d1_34 : decode prog_22_method_1_code 34 = .ok (.dconst 0, 1) := by decide +kernel
theorem d1_35 : decode prog_22_method_1_code 35 = .ok (.dcmp .g, 1) := by decide +kernel
theorem d1_36 : decode prog_22_method_1_code 36 = .ok (.ifCond .ge 18, 3) := by decide +kernel
theorem d1_39 : decode prog_22_method_1_code 39 = .ok (.new 11, 3) := by decide +kernel
theorem d1_42 : decode prog_22_method_1_code 42 = .ok (.dup, 1) := by decide +kernel
theorem d1_43 : decode prog_22_method_1_code 43 = .ok (.dload 5, 2) := by decide +kernel
theorem d1_45 : decode prog_22_method_1_code 45 = .ok (.invokedynamic 24, 5) := by decide +kernel
theorem d1_50 : decode prog_22_method_1_code 50 = .ok (.invokespecial 17, 3) := by decide +kernel
theorem d1_53 : decode prog_22_method_1_code 53 = .ok (.athrow, 1) := by decide +kernel
theorem d1_54 : decode prog_22_method_1_code 54 = .ok (.aload_n 0, 1) := by decide +kernel
theorem d1_55 : decode prog_22_method_1_code 55 = .ok (.lload_n 1, 1) := by decide +kernel
theorem d1_56 : decode prog_22_method_1_code 56 = .ok (.putfield 27, 3) := by decide +kernel
theorem d1_59 : decode prog_22_method_1_code 59 = .ok (.aload_n 0, 1) := by decide +kernel
theorem d1_60 : decode prog_22_method_1_code 60 = .ok (.lload_n 3, 1) := by decide +kernel
theorem d1_61 : decode prog_22_method_1_code 61 = .ok (.putfield 33, 3) := by decide +kernel
theorem d1_64 : decode prog_22_method_1_code 64 = .ok (.aload_n 0, 1) := by decide +kernel
theorem d1_65 : decode prog_22_method_1_code 65 = .ok (.dload 5, 2) := by decide +kernel
theorem d1_67 : decode prog_22_method_1_code 67 = .ok (.putfield 36, 3) := by decide +kernel
theorem d1_70 : decode prog_22_method_1_code 70 = .ok (.return_, 1) := by decide +kernel
theorem own_pn_com_example_meter_meter_wire_WeightMessage : plainName "com/example/meter/meter/wire/WeightMessage" = true := by first | (simp [plainName, overriddenIn]; done) | decide +kernel
theorem own_ef1 (m : MethodId) (x0 : Addr) (x1 : Int64) (x2 : Int64) (x3 : UInt64) : entryFrame m #[(.ref x0), (.long x1), (.long x2), (.double x3)] 7 = mkF m 0 #[.val (.ref x0), .val (.long x1), .second, .val (.long x2), .second, .val (.double x3), .second] [] := by first | (simp [entryFrame, mkF, argsToLocals, Value.category]; done) | rfl
def Q1 (Z : State) (a : Addr) (pi ps : Int64) (h0 : Heap) (n0 : Nat) (v : Option Value) (h : Heap) (L : List Loc) : Prop := v = none ∧ Fr n0 L ∧ Keep h0 h [a] ∧ Fld Z h a "com/example/meter/meter/wire/WeightMessage" "incarnation" "J" (.long pi) ∧ Fld Z h a "com/example/meter/meter/wire/WeightMessage" "sequence" "J" (.long ps)
set_option maxRecDepth 65536 in
set_option maxHeartbeats 40000000 in
theorem rm1 (l : Launch) (Z : State) (a0 : Array Value) (hw : ∀ d ∈ tables_1, d.before a0 Z = true) (ws : List Jvm.Cond) (a : Addr) (pi : Int64) (ps : Int64) (pw : UInt64)  (h0 : Heap) (n0 : Nat) (Z0 : n0 ≤ h0.size) (E7 : Exa Z h0 a "com/example/meter/meter/wire/WeightMessage") (F1 : Fld Z h0 a "com/example/meter/meter/wire/WeightMessage" "incarnation" "J" (.long (0 : Int64))) (F2 : Fld Z h0 a "com/example/meter/meter/wire/WeightMessage" "sequence" "J" (.long (0 : Int64))) (F3 : Fld Z h0 a "com/example/meter/meter/wire/WeightMessage" "weight" "D" (.double (0 : UInt64))) (ga : n0 ≤ a) (hs : ¬ ps < 0) (hn : Jvm.Free.Fl.NoNaN64 pw) (hc : ¬ ((0 : Int32) < cmpValue (FP.dcmp (pw &&& 0x7fffffffffffffff) (9218868437227405311 : UInt64)) .g)) (hz : ¬ (cmpValue (FP.dcmp pw FP.dconst0) .g < 0)) :
    MetFree l (⟨"com/example/meter/meter/wire/WeightMessage", "<init>", "(JJD)V"⟩ : MethodName) (head1 (Jvm.Cond.code (⟨"com/example/meter/meter/wire/WeightMessage", "<init>", "(JJD)V"⟩ : MethodName) prog_22_method_1_code 7 none :: ws) ({ frames := 2, cells := 0, slots := 0, locals := 26 } : Room)) (fun α U => α = #[(.ref a), (.long pi), (.long ps), (.double pw)] ∧ Z.Warmed39 U.vm ∧ U.heap = h0) (fun _ _ _ _ _ => True) (fun _ U ω U' => ∃ ν Λ, ω = .returned ν ∧ Q1 Z a pi ps h0 n0 ν U'.heap Λ ∧ FrameEnd U ω U' Λ ({ frames := 2, cells := 0, slots := 0, locals := 26 } : Room).cells ({ frames := 2, cells := 0, slots := 0, locals := 26 } : Room).slots) := by
  refine MetFree.of_bodySF (plainFor_of_name own_pn_com_example_meter_meter_wire_WeightMessage) hisR ?_
  intro p e s m args below meth c s₁ Bd hml0 hP hK
  obtain ⟨rfl, hZ, hh⟩ := hP
  have hx := Bd.exec
  have hby := Bd.bytes
  have hml : c.maxLocals = 7 := hml0
  have hown : s.vm.findClass "com/example/meter/meter/wire/WeightMessage" = some m.cls := findClass_of_methodNamed Bd.named
  have hnm := (name_of_methodNamed Bd.named Bd.method).1
  have X0 : Stand p l e ({ frames := 2, cells := 0, slots := 0, locals := 26 } : Room) s m #[(.ref a), (.long pi), (.long ps), (.double pw)] below meth c s₁ [] 0 0 := Stand.of_body Bd
  have e0 : s₁.heap = h0 := by rw [← hh, Bd.state]; rfl
  have N0 := Fr.nil n0
  have KK0 : Keep h0 h0 [a] := Keep.refl h0 [a]
  have pre0 : ∀ τ, Steps p.tables e below (s₁.setTop (mkF m 0 #[.val (.ref a), .val (.long pi), .second, .val (.long ps), .second, .val (.double pw), .second] [])) τ → Steps p.tables e below (s₁.setTop (entryFrame m #[(.ref a), (.long pi), (.long ps), (.double pw)] 7)) τ := fun τ κ => castTop (own_ef1 m a pi ps pw) κ
  have pre8 : ∀ τ, Steps p.tables e below (s₁.setTop (mkF m 1 #[.val (.ref a), .val (.long pi), .second, .val (.long ps), .second, .val (.double pw), .second] [(.ref a)])) τ → Steps p.tables e below (s₁.setTop (entryFrame m #[(.ref a), (.long pi), (.long ps), (.double pw)] 7)) τ := fun τ kt => pre0 τ (by
    show Steps p.tables e below (s₁.setTop (mkF m 0 #[.val (.ref a), .val (.long pi), .second, .val (.long ps), .second, .val (.double pw), .second] [])) τ
    refine XS.aloadN X0.here hx rfl (Jvm.hb hby d1_0) rfl rfl ?_
    exact kt)
  obtain ⟨_, _, ⟨T9, L9, k9, n9⟩, -, X9, ⟨Lc9, hQ9, l9, y9, z9⟩, st9⟩ := X0.specialBack hx (y := (⟨"java/lang/Record", "<init>", "()V"⟩ : MethodName)) rfl hown (mvT hZ (hw _ (List.mem_of_getElem? (i := 8) rfl))) (mvT hZ (hw _ (List.mem_of_getElem? (i := 9) rfl))) (mvT hZ (hw _ (List.mem_of_getElem? (i := 12) rfl))) (by decide) (backOf (W := 0) (rm2 l Z a0 hw [] a h0 n0 Z0) hZ (hw _ (List.mem_of_getElem? (i := 12) rfl)) (hw _ (List.mem_of_getElem? (i := 11) rfl)) (by decide) (by decide)) (g := (mkF m 1 #[.val (.ref a), .val (.long pi), .second, .val (.long ps), .second, .val (.double pw), .second] [(.ref a)])) rfl (by rw [hml]; rfl) (Steps.refl _) (a := a) (argsL := []) (rest := []) (lenOf own_pd___V rfl) rfl (by show 2 * 0 + _ ≤ _; exact Nat.le_of_eq rfl) (Jvm.hb hby d1_1) (fun _ _ => ⟨rfl, e0, (by decide : 0 + 0 ≤ _), (by decide : 0 + 0 ≤ _)⟩)
  dsimp only [Pt.U, Pt.locs, Pt.cells, Pt.slots] at X9 l9 y9 z9 st9 hQ9
  subst l9 y9 z9
  obtain ⟨rfl, Nq9, eq9⟩ := hQ9
  have N9 := Fr.app N0 Nq9
  have pre10 : ∀ τ, Steps p.tables e below (T9.setTop (mkF m 4 #[.val (.ref a), .val (.long pi), .second, .val (.long ps), .second, .val (.double pw), .second] [])) τ → Steps p.tables e below (s₁.setTop (entryFrame m #[(.ref a), (.long pi), (.long ps), (.double pw)] 7)) τ := fun τ kt => pre8 τ ((st9).trans kt)
  have pre11 : ∀ τ, Steps p.tables e below (T9.setTop (mkF m 26 #[.val (.ref a), .val (.long pi), .second, .val (.long ps), .second, .val (.double pw), .second] [(.double pw)])) τ → Steps p.tables e below (s₁.setTop (entryFrame m #[(.ref a), (.long pi), (.long ps), (.double pw)] 7)) τ := fun τ kt => pre10 τ (by
    show Steps p.tables e below (T9.setTop (mkF m 4 #[.val (.ref a), .val (.long pi), .second, .val (.long ps), .second, .val (.double pw), .second] [])) τ
    refine XT.lloadN X9.here hx rfl (Jvm.hb hby d1_4) rfl ?_
    show Steps p.tables e below (T9.setTop (mkF m 5 #[.val (.ref a), .val (.long pi), .second, .val (.long ps), .second, .val (.double pw), .second] [(.long ps)])) τ
    refine XT.lconst X9.here hx rfl (Jvm.hb hby d1_5) ?_
    show Steps p.tables e below (T9.setTop (mkF m 6 #[.val (.ref a), .val (.long pi), .second, .val (.long ps), .second, .val (.double pw), .second] [(.long (0 : Int64)), (.long ps)])) τ
    refine XT.lcmp X9.here hx rfl (Jvm.hb hby d1_6) rfl ?_
    show Steps p.tables e below (T9.setTop (mkF m 7 #[.val (.ref a), .val (.long pi), .second, .val (.long ps), .second, .val (.double pw), .second] [(.int (XT.cmpL ps (0 : Int64)))])) τ
    refine XS.ifYes X9.here hx rfl (pc0 := 7) (pc' := 24) rfl (Jvm.hb hby d1_7) rfl ((if0 _ _).trans (flt (fun q => hs (own_cmpL_lt.mp q))).2.1) (by decide) (by decide) ?_
    show Steps p.tables e below (T9.setTop (mkF m 24 #[.val (.ref a), .val (.long pi), .second, .val (.long ps), .second, .val (.double pw), .second] [])) τ
    refine own_dload X9.here hx rfl (Jvm.hb hby d1_24) rfl ?_
    exact kt)
  obtain ⟨_, _, ⟨T12, L12, k12, n12⟩, -, X12, ⟨Lc12, hQ12, l12, y12, z12⟩, st12⟩ := Jvm.LawKit.callS X9 hx (y := (⟨"java/lang/Double", "isFinite", "(D)Z"⟩ : MethodName)) hown (mvT hZ (hw _ (List.mem_of_getElem? (i := 16) rfl))) (mvT hZ (hw _ (List.mem_of_getElem? (i := 17) rfl))) (mvT hZ (hw _ (List.mem_of_getElem? (i := 18) rfl))) (mvT hZ (hw _ (List.mem_of_getElem? (i := 19) rfl))) (by decide) (backOf (W := 0) (rm4 l Z a0 hw [] pw h0 n0 Z0 hn hc) hZ (hw _ (List.mem_of_getElem? (i := 19) rfl)) (hw _ (List.mem_of_getElem? (i := 18) rfl)) (by decide) (by decide)) (g := (mkF m 26 #[.val (.ref a), .val (.long pi), .second, .val (.long ps), .second, .val (.double pw), .second] [(.double pw)])) rfl (by rw [hml]; rfl) (argsL := [(.double pw)]) (rest := []) (lenOf own_pd__D_Z rfl) rfl (by show 2 * 0 + _ ≤ _; exact Nat.le_of_eq rfl) (Jvm.hb hby d1_26) (fun _ _ => ⟨rfl, eq9, (by decide : 0 + 0 ≤ _), (by decide : 0 + 0 ≤ _)⟩)
  dsimp only [Pt.U, Pt.locs, Pt.cells, Pt.slots] at X12 l12 y12 z12 st12 hQ12
  subst l12 y12 z12
  obtain ⟨rfl, Nq12, eq12⟩ := hQ12
  have N12 := Fr.app N9 Nq12
  have pre13 : ∀ τ, Steps p.tables e below (T12.setTop (mkF m 29 #[.val (.ref a), .val (.long pi), .second, .val (.long ps), .second, .val (.double pw), .second] [(.int (1 : Int32))])) τ → Steps p.tables e below (s₁.setTop (entryFrame m #[(.ref a), (.long pi), (.long ps), (.double pw)] 7)) τ := fun τ kt => pre11 τ (st12 τ kt)
  have pre14 : ∀ τ, Steps p.tables e below (T12.setTop (mkF m 56 #[.val (.ref a), .val (.long pi), .second, .val (.long ps), .second, .val (.double pw), .second] [(.long pi), (.ref a)])) τ → Steps p.tables e below (s₁.setTop (entryFrame m #[(.ref a), (.long pi), (.long ps), (.double pw)] 7)) τ := fun τ kt => pre13 τ (by
    show Steps p.tables e below (T12.setTop (mkF m 29 #[.val (.ref a), .val (.long pi), .second, .val (.long ps), .second, .val (.double pw), .second] [(.int (1 : Int32))])) τ
    refine XS.ifNo X12.here hx rfl (Jvm.hb hby d1_29) rfl ((if0 _ _).trans (feq (by decide)).1) ?_
    show Steps p.tables e below (T12.setTop (mkF m 32 #[.val (.ref a), .val (.long pi), .second, .val (.long ps), .second, .val (.double pw), .second] [])) τ
    refine own_dload X12.here hx rfl (Jvm.hb hby d1_32) rfl ?_
    show Steps p.tables e below (T12.setTop (mkF m 34 #[.val (.ref a), .val (.long pi), .second, .val (.long ps), .second, .val (.double pw), .second] [(.double pw)])) τ
    refine own_dconst0 X12.here hx rfl (Jvm.hb hby d1_34) ?_
    show Steps p.tables e below (T12.setTop (mkF m 35 #[.val (.ref a), .val (.long pi), .second, .val (.long ps), .second, .val (.double pw), .second] [(.double FP.dconst0), (.double pw)])) τ
    refine own_dcmp X12.here hx rfl (Jvm.hb hby d1_35) rfl ?_
    show Steps p.tables e below (T12.setTop (mkF m 36 #[.val (.ref a), .val (.long pi), .second, .val (.long ps), .second, .val (.double pw), .second] [(.int (cmpValue (FP.dcmp pw FP.dconst0) .g))])) τ
    refine XS.ifYes X12.here hx rfl (pc0 := 36) (pc' := 54) rfl (Jvm.hb hby d1_36) rfl ((if0 _ _).trans (flt hz).2.1) (by decide) (by decide) ?_
    show Steps p.tables e below (T12.setTop (mkF m 54 #[.val (.ref a), .val (.long pi), .second, .val (.long ps), .second, .val (.double pw), .second] [])) τ
    refine XS.aloadN X12.here hx rfl (Jvm.hb hby d1_54) rfl rfl ?_
    show Steps p.tables e below (T12.setTop (mkF m 55 #[.val (.ref a), .val (.long pi), .second, .val (.long ps), .second, .val (.double pw), .second] [(.ref a)])) τ
    refine XT.lloadN X12.here hx rfl (Jvm.hb hby d1_55) rfl ?_
    exact kt)
  obtain ⟨T15, h15, X15, e15, W15, st15⟩ := putF X12 hx hZ hown (host := "") (Or.inl (hw _ (List.mem_of_getElem? (i := 25) rfl))) Via.refl eq12 F1 E7 (Or.inr ⟨(hw _ (List.mem_of_getElem? (i := 26) rfl)), rfl, hnm⟩) (hw _ (List.mem_of_getElem? (i := 3) rfl)) (ty := .long) (by decide) rfl rfl (g := (mkF m 56 #[.val (.ref a), .val (.long pi), .second, .val (.long ps), .second, .val (.double pw), .second] [(.long pi), (.ref a)])) rfl rfl (Jvm.hb hby d1_56)
  have fw15 := Fld.same W15 F1
  have N15 := Fr.snoc X15 N12 ga
  have K15 : Keep h0 h15 [a] := KK0.wr W15 (Or.inl (by simp))
  have pre16 : ∀ τ, Steps p.tables e below (T15.setTop (mkF m 59 #[.val (.ref a), .val (.long pi), .second, .val (.long ps), .second, .val (.double pw), .second] [])) τ → Steps p.tables e below (s₁.setTop (entryFrame m #[(.ref a), (.long pi), (.long ps), (.double pw)] 7)) τ := fun τ kt => pre14 τ (st15 τ kt)
  have pre17 : ∀ τ, Steps p.tables e below (T15.setTop (mkF m 61 #[.val (.ref a), .val (.long pi), .second, .val (.long ps), .second, .val (.double pw), .second] [(.long ps), (.ref a)])) τ → Steps p.tables e below (s₁.setTop (entryFrame m #[(.ref a), (.long pi), (.long ps), (.double pw)] 7)) τ := fun τ kt => pre16 τ (by
    show Steps p.tables e below (T15.setTop (mkF m 59 #[.val (.ref a), .val (.long pi), .second, .val (.long ps), .second, .val (.double pw), .second] [])) τ
    refine XS.aloadN X15.here hx rfl (Jvm.hb hby d1_59) rfl rfl ?_
    show Steps p.tables e below (T15.setTop (mkF m 60 #[.val (.ref a), .val (.long pi), .second, .val (.long ps), .second, .val (.double pw), .second] [(.ref a)])) τ
    refine XT.lloadN X15.here hx rfl (Jvm.hb hby d1_60) rfl ?_
    exact kt)
  have f19 := (F2.other W15 (Or.inr (slot_ne (Or.inr (hw _ (List.mem_of_getElem? (i := 28) rfl))) (Or.inr (hw _ (List.mem_of_getElem? (i := 26) rfl))) (by decide) (t := .long) (t' := .long) (by decide) (by decide))))
  have f20 := E7.wr W15
  obtain ⟨T18, h18, X18, e18, W18, st18⟩ := putF X15 hx hZ hown (host := "") (Or.inl (hw _ (List.mem_of_getElem? (i := 27) rfl))) Via.refl e15 f19 f20 (Or.inr ⟨(hw _ (List.mem_of_getElem? (i := 28) rfl)), rfl, hnm⟩) (hw _ (List.mem_of_getElem? (i := 3) rfl)) (ty := .long) (by decide) rfl rfl (g := (mkF m 61 #[.val (.ref a), .val (.long pi), .second, .val (.long ps), .second, .val (.double pw), .second] [(.long ps), (.ref a)])) rfl rfl (Jvm.hb hby d1_61)
  have fw18 := Fld.same W18 f19
  have N18 := Fr.snoc X18 N15 ga
  have K18 : Keep h0 h18 [a] := K15.wr W18 (Or.inl (by simp))
  have pre21 : ∀ τ, Steps p.tables e below (T18.setTop (mkF m 64 #[.val (.ref a), .val (.long pi), .second, .val (.long ps), .second, .val (.double pw), .second] [])) τ → Steps p.tables e below (s₁.setTop (entryFrame m #[(.ref a), (.long pi), (.long ps), (.double pw)] 7)) τ := fun τ kt => pre17 τ (st18 τ kt)
  have pre22 : ∀ τ, Steps p.tables e below (T18.setTop (mkF m 67 #[.val (.ref a), .val (.long pi), .second, .val (.long ps), .second, .val (.double pw), .second] [(.double pw), (.ref a)])) τ → Steps p.tables e below (s₁.setTop (entryFrame m #[(.ref a), (.long pi), (.long ps), (.double pw)] 7)) τ := fun τ kt => pre21 τ (by
    show Steps p.tables e below (T18.setTop (mkF m 64 #[.val (.ref a), .val (.long pi), .second, .val (.long ps), .second, .val (.double pw), .second] [])) τ
    refine XS.aloadN X18.here hx rfl (Jvm.hb hby d1_64) rfl rfl ?_
    show Steps p.tables e below (T18.setTop (mkF m 65 #[.val (.ref a), .val (.long pi), .second, .val (.long ps), .second, .val (.double pw), .second] [(.ref a)])) τ
    refine own_dload X18.here hx rfl (Jvm.hb hby d1_65) rfl ?_
    exact kt)
  have f24 := (F3.other W15 (Or.inr (slot_ne (Or.inr (hw _ (List.mem_of_getElem? (i := 30) rfl))) (Or.inr (hw _ (List.mem_of_getElem? (i := 26) rfl))) (by decide) (t := .double) (t' := .long) (by decide) (by decide))))
  have f25 := (f24.other W18 (Or.inr (slot_ne (Or.inr (hw _ (List.mem_of_getElem? (i := 30) rfl))) (Or.inr (hw _ (List.mem_of_getElem? (i := 28) rfl))) (by decide) (t := .double) (t' := .long) (by decide) (by decide))))
  have f26 := f20.wr W18
  obtain ⟨T23, h23, X23, e23, W23, st23⟩ := putF X18 hx hZ hown (host := "") (Or.inl (hw _ (List.mem_of_getElem? (i := 29) rfl))) Via.refl e18 f25 f26 (Or.inr ⟨(hw _ (List.mem_of_getElem? (i := 30) rfl)), rfl, hnm⟩) (hw _ (List.mem_of_getElem? (i := 3) rfl)) (ty := .double) (by decide) rfl rfl (g := (mkF m 67 #[.val (.ref a), .val (.long pi), .second, .val (.long ps), .second, .val (.double pw), .second] [(.double pw), (.ref a)])) rfl rfl (Jvm.hb hby d1_67)
  have fw23 := Fld.same W23 f25
  have N23 := Fr.snoc X23 N18 ga
  have K23 : Keep h0 h23 [a] := K18.wr W23 (Or.inl (by simp))
  have pre27 : ∀ τ, Steps p.tables e below (T23.setTop (mkF m 70 #[.val (.ref a), .val (.long pi), .second, .val (.long ps), .second, .val (.double pw), .second] [])) τ → Steps p.tables e below (s₁.setTop (entryFrame m #[(.ref a), (.long pi), (.long ps), (.double pw)] 7)) τ := fun τ kt => pre22 τ (st23 τ kt)
  have f28 := (fw15.other W18 (Or.inr (slot_ne (Or.inr (hw _ (List.mem_of_getElem? (i := 26) rfl))) (Or.inr (hw _ (List.mem_of_getElem? (i := 28) rfl))) (by decide) (t := .long) (t' := .long) (by decide) (by decide))))
  have f29 := (f28.other W23 (Or.inr (slot_ne (Or.inr (hw _ (List.mem_of_getElem? (i := 26) rfl))) (Or.inr (hw _ (List.mem_of_getElem? (i := 30) rfl))) (by decide) (t := .long) (t' := .double) (by decide) (by decide))))
  have f30 := (fw18.other W23 (Or.inr (slot_ne (Or.inr (hw _ (List.mem_of_getElem? (i := 28) rfl))) (Or.inr (hw _ (List.mem_of_getElem? (i := 30) rfl))) (by decide) (t := .long) (t' := .double) (by decide) (by decide))))
  obtain ⟨fs, hrL, hrun, hended, hW, hsame⟩ := X23.leave (v := none) (fun _ => rfl)
  refine ⟨_, _, pre27 _ ?_, hrun, hended, _, _, rfl, ?_, ⟨_, rfl⟩, hW, hsame.mono (by decide) (by decide)⟩
  · show Steps p.tables e below (T23.setTop (mkF m 70 #[.val (.ref a), .val (.long pi), .second, .val (.long ps), .second, .val (.double pw), .second] [])) _
    exact X23.returnOut hx Bd.returns (Jvm.hb hby d1_70) hrL
  · show Q1 Z a pi ps h0 n0 _ T23.heap _
    rw [e23]
    exact ⟨rfl, N23, K23, f29, f30⟩
theorem d6_0 : decode prog_22_method_4_code 0 = .ok (.aload_n 0, 1) := by decide +kernel
theorem d6_1 : decode prog_22_method_4_code 1 = .ok (.getfield 27, 3) := by decide +kernel
theorem d6_4 : decode prog_22_method_4_code 4 = .ok (.aload_n 1, 1) := by decide +kernel
theorem d6_5 : decode prog_22_method_4_code 5 = .ok (.getfield 27, 3) := by decide +kernel
theorem d6_8 : decode prog_22_method_4_code 8 = .ok (.lcmp, 1) := by decide +kernel
theorem d6_9 : decode prog_22_method_4_code 9 = .ok (.ifCond .ne 15, 3) := by decide +kernel
theorem d6_12 : decode prog_22_method_4_code 12 = .ok (.aload_n 0, 1) := by decide +kernel
theorem d6_13 : decode prog_22_method_4_code 13 = .ok (.getfield 33, 3) := by decide +kernel
theorem d6_16 : decode prog_22_method_4_code 16 = .ok (.aload_n 1, 1) := by decide +kernel
theorem d6_17 : decode prog_22_method_4_code 17 = .ok (.getfield 33, 3) := by decide +kernel
theorem d6_20 : decode prog_22_method_4_code 20 = .ok (.lcmp, 1) := by decide +kernel
theorem d6_21 : decode prog_22_method_4_code 21 = .ok (.ifCond .le 7, 3) := by decide +kernel
theorem d6_24 : decode prog_22_method_4_code 24 = .ok (.iconst 1, 1) := by decide +kernel
theorem d6_25 : decode prog_22_method_4_code 25 = .ok (.goto 4, 3) := by decide +kernel
theorem d6_28 : decode prog_22_method_4_code 28 = .ok (.iconst 0, 1) := by decide +kernel
theorem d6_29 : decode prog_22_method_4_code 29 = .ok (.ireturn, 1) := by decide +kernel
theorem own_ef6 (m : MethodId) (x0 : Addr) (x1 : Addr) : entryFrame m #[(.ref x0), (.ref x1)] 2 = mkF m 0 #[.val (.ref x0), .val (.ref x1)] [] := by first | (simp [entryFrame, mkF, argsToLocals, Value.category]; done) | rfl
def Q6 (i1 s1 i2 s2 : Int64) (h0 : Heap) (n0 : Nat) (v : Option Value) (h : Heap) (L : List Loc) : Prop := v = some (.int (own_nw i1 s1 i2 s2)) ∧ Fr n0 L ∧ h = h0
set_option maxRecDepth 65536 in
set_option maxHeartbeats 40000000 in
theorem rm6 (l : Launch) (Z : State) (a0 : Array Value) (hw : ∀ d ∈ tables_1, d.before a0 Z = true) (ws : List Jvm.Cond) (a : Addr) (b : Addr) (i1 s1 i2 s2 : Int64) (h0 : Heap) (n0 : Nat) (Z0 : n0 ≤ h0.size) (F1 : Fld Z h0 a "com/example/meter/meter/wire/WeightMessage" "incarnation" "J" (.long i1)) (F2 : Fld Z h0 a "com/example/meter/meter/wire/WeightMessage" "sequence" "J" (.long s1)) (F3 : Fld Z h0 b "com/example/meter/meter/wire/WeightMessage" "incarnation" "J" (.long i2)) (F4 : Fld Z h0 b "com/example/meter/meter/wire/WeightMessage" "sequence" "J" (.long s2)) :
    MetFree l (⟨"com/example/meter/meter/wire/WeightMessage", "newerThan", "(Lcom/example/meter/meter/wire/WeightMessage;)Z"⟩ : MethodName) (head1 (Jvm.Cond.code (⟨"com/example/meter/meter/wire/WeightMessage", "newerThan", "(Lcom/example/meter/meter/wire/WeightMessage;)Z"⟩ : MethodName) prog_22_method_4_code 2 (some .boolean) :: ws) ({ frames := 0, cells := 0, slots := 0, locals := 0 } : Room)) (fun α U => α = #[(.ref a), (.ref b)] ∧ Z.Warmed39 U.vm ∧ U.heap = h0) (fun _ _ _ _ _ => True) (fun _ U ω U' => ∃ ν Λ, ω = .returned ν ∧ Q6 i1 s1 i2 s2 h0 n0 ν U'.heap Λ ∧ FrameEnd U ω U' Λ ({ frames := 0, cells := 0, slots := 0, locals := 0 } : Room).cells ({ frames := 0, cells := 0, slots := 0, locals := 0 } : Room).slots) := by
  refine MetFree.of_bodySF (plainFor_of_name own_pn_com_example_meter_meter_wire_WeightMessage) hisR ?_
  intro p e s m args below meth c s₁ Bd hml0 hP hK
  obtain ⟨rfl, hZ, hh⟩ := hP
  have hx := Bd.exec
  have hby := Bd.bytes
  have hml : c.maxLocals = 2 := hml0
  have hown : s.vm.findClass "com/example/meter/meter/wire/WeightMessage" = some m.cls := findClass_of_methodNamed Bd.named
  have hnm := (name_of_methodNamed Bd.named Bd.method).1
  have X0 : Stand p l e ({ frames := 0, cells := 0, slots := 0, locals := 0 } : Room) s m #[(.ref a), (.ref b)] below meth c s₁ [] 0 0 := Stand.of_body Bd
  have e0 : s₁.heap = h0 := by rw [← hh, Bd.state]; rfl
  have N0 := Fr.nil n0
  have KK0 : Keep h0 h0 [] := Keep.refl h0 []
  have pre0 : ∀ τ, Steps p.tables e below (s₁.setTop (mkF m 0 #[.val (.ref a), .val (.ref b)] [])) τ → Steps p.tables e below (s₁.setTop (entryFrame m #[(.ref a), (.ref b)] 2)) τ := fun τ κ => castTop (own_ef6 m a b) κ
  have pre31 : ∀ τ, Steps p.tables e below (s₁.setTop (mkF m 1 #[.val (.ref a), .val (.ref b)] [(.ref a)])) τ → Steps p.tables e below (s₁.setTop (entryFrame m #[(.ref a), (.ref b)] 2)) τ := fun τ kt => pre0 τ (by
    show Steps p.tables e below (s₁.setTop (mkF m 0 #[.val (.ref a), .val (.ref b)] [])) τ
    refine XS.aloadN X0.here hx rfl (Jvm.hb hby d6_0) rfl rfl ?_
    exact kt)
  obtain ⟨T32, X32, e32, st32⟩ := getF X0 hx hZ hown (host := "") (Or.inl (hw _ (List.mem_of_getElem? (i := 25) rfl))) Via.refl e0 F1 (g := (mkF m 1 #[.val (.ref a), .val (.ref b)] [(.ref a)])) rfl rfl (Jvm.hb hby d6_1)
  have pre33 : ∀ τ, Steps p.tables e below (T32.setTop (mkF m 4 #[.val (.ref a), .val (.ref b)] [(.long i1)])) τ → Steps p.tables e below (s₁.setTop (entryFrame m #[(.ref a), (.ref b)] 2)) τ := fun τ kt => pre31 τ (st32 τ kt)
  have pre34 : ∀ τ, Steps p.tables e below (T32.setTop (mkF m 5 #[.val (.ref a), .val (.ref b)] [(.ref b), (.long i1)])) τ → Steps p.tables e below (s₁.setTop (entryFrame m #[(.ref a), (.ref b)] 2)) τ := fun τ kt => pre33 τ (by
    show Steps p.tables e below (T32.setTop (mkF m 4 #[.val (.ref a), .val (.ref b)] [(.long i1)])) τ
    refine XS.aloadN X32.here hx rfl (Jvm.hb hby d6_4) rfl rfl ?_
    exact kt)
  obtain ⟨T35, X35, e35, st35⟩ := getF X32 hx hZ hown (host := "") (Or.inl (hw _ (List.mem_of_getElem? (i := 25) rfl))) Via.refl e32 F3 (g := (mkF m 5 #[.val (.ref a), .val (.ref b)] [(.ref b), (.long i1)])) rfl rfl (Jvm.hb hby d6_5)
  have pre36 : ∀ τ, Steps p.tables e below (T35.setTop (mkF m 8 #[.val (.ref a), .val (.ref b)] [(.long i2), (.long i1)])) τ → Steps p.tables e below (s₁.setTop (entryFrame m #[(.ref a), (.ref b)] 2)) τ := fun τ kt => pre34 τ (st35 τ kt)
  have pre37 : ∀ τ, Steps p.tables e below (T35.setTop (mkF m 9 #[.val (.ref a), .val (.ref b)] [(.int (XT.cmpL i1 i2))])) τ → Steps p.tables e below (s₁.setTop (entryFrame m #[(.ref a), (.ref b)] 2)) τ := fun τ kt => pre36 τ (by
    show Steps p.tables e below (T35.setTop (mkF m 8 #[.val (.ref a), .val (.ref b)] [(.long i2), (.long i1)])) τ
    refine XT.lcmp X35.here hx rfl (Jvm.hb hby d6_8) rfl ?_
    exact kt)
  by_cases q1 : (XT.cmpL i1 i2) = (0 : Int32)
  · skip
    have qe := own_cmpL_eq.mp q1
    have pre38 : ∀ τ, Steps p.tables e below (T35.setTop (mkF m 13 #[.val (.ref a), .val (.ref b)] [(.ref a)])) τ → Steps p.tables e below (s₁.setTop (entryFrame m #[(.ref a), (.ref b)] 2)) τ := fun τ kt => pre37 τ (by
      show Steps p.tables e below (T35.setTop (mkF m 9 #[.val (.ref a), .val (.ref b)] [(.int (XT.cmpL i1 i2))])) τ
      refine XS.ifNo X35.here hx rfl (Jvm.hb hby d6_9) rfl ((if0 _ _).trans (teq q1).2) ?_
      show Steps p.tables e below (T35.setTop (mkF m 12 #[.val (.ref a), .val (.ref b)] [])) τ
      refine XS.aloadN X35.here hx rfl (Jvm.hb hby d6_12) rfl rfl ?_
      exact kt)
    obtain ⟨T39, X39, e39, st39⟩ := getF X35 hx hZ hown (host := "") (Or.inl (hw _ (List.mem_of_getElem? (i := 27) rfl))) Via.refl e35 F2 (g := (mkF m 13 #[.val (.ref a), .val (.ref b)] [(.ref a)])) rfl rfl (Jvm.hb hby d6_13)
    have pre40 : ∀ τ, Steps p.tables e below (T39.setTop (mkF m 16 #[.val (.ref a), .val (.ref b)] [(.long s1)])) τ → Steps p.tables e below (s₁.setTop (entryFrame m #[(.ref a), (.ref b)] 2)) τ := fun τ kt => pre38 τ (st39 τ kt)
    have pre41 : ∀ τ, Steps p.tables e below (T39.setTop (mkF m 17 #[.val (.ref a), .val (.ref b)] [(.ref b), (.long s1)])) τ → Steps p.tables e below (s₁.setTop (entryFrame m #[(.ref a), (.ref b)] 2)) τ := fun τ kt => pre40 τ (by
      show Steps p.tables e below (T39.setTop (mkF m 16 #[.val (.ref a), .val (.ref b)] [(.long s1)])) τ
      refine XS.aloadN X39.here hx rfl (Jvm.hb hby d6_16) rfl rfl ?_
      exact kt)
    obtain ⟨T42, X42, e42, st42⟩ := getF X39 hx hZ hown (host := "") (Or.inl (hw _ (List.mem_of_getElem? (i := 27) rfl))) Via.refl e39 F4 (g := (mkF m 17 #[.val (.ref a), .val (.ref b)] [(.ref b), (.long s1)])) rfl rfl (Jvm.hb hby d6_17)
    have pre43 : ∀ τ, Steps p.tables e below (T42.setTop (mkF m 20 #[.val (.ref a), .val (.ref b)] [(.long s2), (.long s1)])) τ → Steps p.tables e below (s₁.setTop (entryFrame m #[(.ref a), (.ref b)] 2)) τ := fun τ kt => pre41 τ (st42 τ kt)
    have pre44 : ∀ τ, Steps p.tables e below (T42.setTop (mkF m 21 #[.val (.ref a), .val (.ref b)] [(.int (XT.cmpL s1 s2))])) τ → Steps p.tables e below (s₁.setTop (entryFrame m #[(.ref a), (.ref b)] 2)) τ := fun τ kt => pre43 τ (by
      show Steps p.tables e below (T42.setTop (mkF m 20 #[.val (.ref a), .val (.ref b)] [(.long s2), (.long s1)])) τ
      refine XT.lcmp X42.here hx rfl (Jvm.hb hby d6_20) rfl ?_
      exact kt)
    by_cases q2 : (0 : Int32) < (XT.cmpL s1 s2)
    · skip
      have hr : own_nw i1 s1 i2 s2 = 1 := (if_pos qe).trans (if_pos (own_cmpL_gt.mp q2))
      have pre45 : ∀ τ, Steps p.tables e below (T42.setTop (mkF m 29 #[.val (.ref a), .val (.ref b)] [(.int (1 : Int32))])) τ → Steps p.tables e below (s₁.setTop (entryFrame m #[(.ref a), (.ref b)] 2)) τ := fun τ kt => pre44 τ (by
        show Steps p.tables e below (T42.setTop (mkF m 21 #[.val (.ref a), .val (.ref b)] [(.int (XT.cmpL s1 s2))])) τ
        refine XS.ifNo X42.here hx rfl (Jvm.hb hby d6_21) rfl ((if0 _ _).trans (tlt q2).2.2.2) ?_
        show Steps p.tables e below (T42.setTop (mkF m 24 #[.val (.ref a), .val (.ref b)] [])) τ
        refine XS.iconst X42.here hx rfl (Jvm.hb hby d6_24) ?_
        show Steps p.tables e below (T42.setTop (mkF m 25 #[.val (.ref a), .val (.ref b)] [(.int (1 : Int32))])) τ
        refine XS.goto X42.here hx rfl (pc0 := 25) (pc' := 29) rfl (Jvm.hb hby d6_25) (by decide) (by decide) ?_
        exact kt)
      obtain ⟨fs, hrL, hrun, hended, hW, hsame⟩ := X42.leave (v := some (.int (1 : Int32))) (fun h => by rw [Bd.returns] at h; cases h)
      refine ⟨_, _, pre45 _ ?_, hrun, hended, _, _, rfl, ?_, ⟨_, rfl⟩, hW, hsame.mono (by decide) (by decide)⟩
      · show Steps p.tables e below (T42.setTop (mkF m 29 #[.val (.ref a), .val (.ref b)] [(.int (1 : Int32))])) _
        exact retN X42 hx (t := .boolean) Bd.returns (by simp) (Jvm.hb hby d6_29) hrL
      · show Q6 i1 s1 i2 s2 h0 n0 _ T42.heap _
        rw [e42]
        exact ⟨congrArg (fun z => some (Value.int z)) hr.symm, N0, rfl⟩
    · skip
      have hr : own_nw i1 s1 i2 s2 = 0 := (if_pos qe).trans (if_neg fun q => q2 (own_cmpL_gt.mpr q))
      have pre46 : ∀ τ, Steps p.tables e below (T42.setTop (mkF m 29 #[.val (.ref a), .val (.ref b)] [(.int (0 : Int32))])) τ → Steps p.tables e below (s₁.setTop (entryFrame m #[(.ref a), (.ref b)] 2)) τ := fun τ kt => pre44 τ (by
        show Steps p.tables e below (T42.setTop (mkF m 21 #[.val (.ref a), .val (.ref b)] [(.int (XT.cmpL s1 s2))])) τ
        refine XS.ifYes X42.here hx rfl (pc0 := 21) (pc' := 28) rfl (Jvm.hb hby d6_21) rfl ((if0 _ _).trans (flt q2).2.2.2) (by decide) (by decide) ?_
        show Steps p.tables e below (T42.setTop (mkF m 28 #[.val (.ref a), .val (.ref b)] [])) τ
        refine XS.iconst X42.here hx rfl (Jvm.hb hby d6_28) ?_
        exact kt)
      obtain ⟨fs, hrL, hrun, hended, hW, hsame⟩ := X42.leave (v := some (.int (0 : Int32))) (fun h => by rw [Bd.returns] at h; cases h)
      refine ⟨_, _, pre46 _ ?_, hrun, hended, _, _, rfl, ?_, ⟨_, rfl⟩, hW, hsame.mono (by decide) (by decide)⟩
      · show Steps p.tables e below (T42.setTop (mkF m 29 #[.val (.ref a), .val (.ref b)] [(.int (0 : Int32))])) _
        exact retN X42 hx (t := .boolean) Bd.returns (by simp) (Jvm.hb hby d6_29) hrL
      · show Q6 i1 s1 i2 s2 h0 n0 _ T42.heap _
        rw [e42]
        exact ⟨congrArg (fun z => some (Value.int z)) hr.symm, N0, rfl⟩
  · skip
    have hr : own_nw i1 s1 i2 s2 = 1 := if_neg fun q => q1 (own_cmpL_eq.mpr q)
    have pre47 : ∀ τ, Steps p.tables e below (T35.setTop (mkF m 29 #[.val (.ref a), .val (.ref b)] [(.int (1 : Int32))])) τ → Steps p.tables e below (s₁.setTop (entryFrame m #[(.ref a), (.ref b)] 2)) τ := fun τ kt => pre37 τ (by
      show Steps p.tables e below (T35.setTop (mkF m 9 #[.val (.ref a), .val (.ref b)] [(.int (XT.cmpL i1 i2))])) τ
      refine XS.ifYes X35.here hx rfl (pc0 := 9) (pc' := 24) rfl (Jvm.hb hby d6_9) rfl ((if0 _ _).trans (feq q1).2) (by decide) (by decide) ?_
      show Steps p.tables e below (T35.setTop (mkF m 24 #[.val (.ref a), .val (.ref b)] [])) τ
      refine XS.iconst X35.here hx rfl (Jvm.hb hby d6_24) ?_
      show Steps p.tables e below (T35.setTop (mkF m 25 #[.val (.ref a), .val (.ref b)] [(.int (1 : Int32))])) τ
      refine XS.goto X35.here hx rfl (pc0 := 25) (pc' := 29) rfl (Jvm.hb hby d6_25) (by decide) (by decide) ?_
      exact kt)
    obtain ⟨fs, hrL, hrun, hended, hW, hsame⟩ := X35.leave (v := some (.int (1 : Int32))) (fun h => by rw [Bd.returns] at h; cases h)
    refine ⟨_, _, pre47 _ ?_, hrun, hended, _, _, rfl, ?_, ⟨_, rfl⟩, hW, hsame.mono (by decide) (by decide)⟩
    · show Steps p.tables e below (T35.setTop (mkF m 29 #[.val (.ref a), .val (.ref b)] [(.int (1 : Int32))])) _
      exact retN X35 hx (t := .boolean) Bd.returns (by simp) (Jvm.hb hby d6_29) hrL
    · show Q6 i1 s1 i2 s2 h0 n0 _ T35.heap _
      rw [e35]
      exact ⟨congrArg (fun z => some (Value.int z)) hr.symm, N0, rfl⟩
theorem own_pn_com_example_meter_meter_wire_WeightMessageNewerThanPinLaw : plainName "com/example/meter/meter/wire/WeightMessageNewerThanPinLaw" = true := by first | (simp [plainName, overriddenIn]; done) | decide +kernel
theorem own_ef0 (m : MethodId) (x0 : Int64) (x1 : Int64) (x2 : Int64) (x3 : Int64) (x4 : Int32) (x5 : Int32) : entryFrame m #[(.long x0), (.long x1), (.long x2), (.long x3), (.int x4), (.int x5)] maxLocals = mkF m 0 #[.val (.long x0), .second, .val (.long x1), .second, .val (.long x2), .second, .val (.long x3), .second, .val (.int x4), .val (.int x5), .unset, .unset, .unset, .unset, .unset, .unset, .unset, .unset, .unset, .unset, .unset, .unset, .unset, .unset, .unset, .unset] [] := by first | (simp [entryFrame, mkF, argsToLocals, Value.category, maxLocals]; done) | rfl
def Q0 (n0 : Nat) (v : Option Value) (h : Heap) (L : List Loc) : Prop := v = some (.int 1) ∧ Fr n0 L
set_option maxRecDepth 65536 in
set_option maxHeartbeats 40000000 in
theorem rm0 (l : Launch) (Z : State) (a0 : Array Value) (hw : ∀ d ∈ tables_1, d.before a0 Z = true) (ws : List Jvm.Cond) (i1 : Int64) (i2 : Int64) (s1 : Int64) (s2 : Int64) (wt : Int32) (fl : Int32)  (h0 : Heap) (n0 : Nat) (Z0 : n0 ≤ h0.size)  :
    MetFree l x (head1 (Jvm.Cond.code x code maxLocals ret :: ws) room_1) (fun α U => α = #[(.long i1), (.long i2), (.long s1), (.long s2), (.int wt), (.int fl)] ∧ Z.Warmed39 U.vm ∧ U.heap = h0) (fun _ _ _ _ _ => True) (fun _ U ω U' => ∃ ν Λ, ω = .returned ν ∧ Q0 n0 ν U'.heap Λ ∧ FrameEnd U ω U' Λ room_1.cells room_1.slots) := by
  refine MetFree.of_bodySF (plainFor_of_name own_pn_com_example_meter_meter_wire_WeightMessageNewerThanPinLaw) hisR ?_
  intro p e s m args below meth c s₁ Bd hml0 hP hK
  obtain ⟨rfl, hZ, hh⟩ := hP
  have hx := Bd.exec
  have hby := Bd.bytes
  have hml : c.maxLocals = 26 := hml0
  have hown : s.vm.findClass "com/example/meter/meter/wire/WeightMessageNewerThanPinLaw" = some m.cls := findClass_of_methodNamed Bd.named
  have hnm := (name_of_methodNamed Bd.named Bd.method).1
  have X0 : Stand p l e room_1 s m #[(.long i1), (.long i2), (.long s1), (.long s2), (.int wt), (.int fl)] below meth c s₁ [] 0 0 := Stand.of_body Bd
  have e0 : s₁.heap = h0 := by rw [← hh, Bd.state]; rfl
  have N0 := Fr.nil n0
  have KK0 : Keep h0 h0 [] := Keep.refl h0 []
  have pre0 : ∀ τ, Steps p.tables e below (s₁.setTop (mkF m 0 #[.val (.long i1), .second, .val (.long i2), .second, .val (.long s1), .second, .val (.long s2), .second, .val (.int wt), .val (.int fl), .unset, .unset, .unset, .unset, .unset, .unset, .unset, .unset, .unset, .unset, .unset, .unset, .unset, .unset, .unset, .unset] [])) τ → Steps p.tables e below (s₁.setTop (entryFrame m #[(.long i1), (.long i2), (.long s1), (.long s2), (.int wt), (.int fl)] maxLocals)) τ := fun τ κ => castTop (own_ef0 m i1 i2 s1 s2 wt fl) κ
  have ma := own_mask s1
  have mb := own_mask s2
  obtain ⟨wx1, wx2, wx3⟩ := own_w wt
  obtain ⟨wy1, wy2, wy3⟩ := own_w (XT.ushr wt (16 : Int32))
  have pre48 : ∀ τ, Steps p.tables e below (s₁.setTop (mkF m 20 #[.val (.long i1), .second, .val (.long i2), .second, .val (.long s1), .second, .val (.long s2), .second, .val (.int wt), .val (.int fl), .val (.long (s1 &&& (9223372036854775807 : Int64))), .second, .val (.long (s2 &&& (9223372036854775807 : Int64))), .second, .unset, .unset, .unset, .unset, .unset, .unset, .unset, .unset, .unset, .unset, .unset, .unset] [(.int (fl &&& (2 : Int32)))])) τ → Steps p.tables e below (s₁.setTop (entryFrame m #[(.long i1), (.long i2), (.long s1), (.long s2), (.int wt), (.int fl)] maxLocals)) τ := fun τ kt => pre0 τ (by
    show Steps p.tables e below (s₁.setTop (mkF m 0 #[.val (.long i1), .second, .val (.long i2), .second, .val (.long s1), .second, .val (.long s2), .second, .val (.int wt), .val (.int fl), .unset, .unset, .unset, .unset, .unset, .unset, .unset, .unset, .unset, .unset, .unset, .unset, .unset, .unset, .unset, .unset] [])) τ
    refine XT.lload X0.here hx rfl (Jvm.hb hby at_0) rfl ?_
    show Steps p.tables e below (s₁.setTop (mkF m 2 #[.val (.long i1), .second, .val (.long i2), .second, .val (.long s1), .second, .val (.long s2), .second, .val (.int wt), .val (.int fl), .unset, .unset, .unset, .unset, .unset, .unset, .unset, .unset, .unset, .unset, .unset, .unset, .unset, .unset, .unset, .unset] [(.long s1)])) τ
    refine X0.ldc2Long hx hown (mvT hZ (hw _ (List.mem_of_getElem? (i := 0) rfl))) (g := (mkF m 2 #[.val (.long i1), .second, .val (.long i2), .second, .val (.long s1), .second, .val (.long s2), .second, .val (.int wt), .val (.int fl), .unset, .unset, .unset, .unset, .unset, .unset, .unset, .unset, .unset, .unset, .unset, .unset, .unset, .unset, .unset, .unset] [(.long s1)])) rfl (Jvm.hb hby at_2) _ ?_
    show Steps p.tables e below (s₁.setTop (mkF m 5 #[.val (.long i1), .second, .val (.long i2), .second, .val (.long s1), .second, .val (.long s2), .second, .val (.int wt), .val (.int fl), .unset, .unset, .unset, .unset, .unset, .unset, .unset, .unset, .unset, .unset, .unset, .unset, .unset, .unset, .unset, .unset] [(.long (9223372036854775807 : Int64)), (.long s1)])) τ
    refine XT.land X0.here hx rfl (Jvm.hb hby at_5) rfl ?_
    show Steps p.tables e below (s₁.setTop (mkF m 6 #[.val (.long i1), .second, .val (.long i2), .second, .val (.long s1), .second, .val (.long s2), .second, .val (.int wt), .val (.int fl), .unset, .unset, .unset, .unset, .unset, .unset, .unset, .unset, .unset, .unset, .unset, .unset, .unset, .unset, .unset, .unset] [(.long (s1 &&& (9223372036854775807 : Int64)))])) τ
    refine XT.lstore X0.here hx rfl (Jvm.hb hby at_6) rfl (l' := #[.val (.long i1), .second, .val (.long i2), .second, .val (.long s1), .second, .val (.long s2), .second, .val (.int wt), .val (.int fl), .val (.long (s1 &&& (9223372036854775807 : Int64))), .second, .unset, .unset, .unset, .unset, .unset, .unset, .unset, .unset, .unset, .unset, .unset, .unset, .unset, .unset]) rfl ?_
    show Steps p.tables e below (s₁.setTop (mkF m 8 #[.val (.long i1), .second, .val (.long i2), .second, .val (.long s1), .second, .val (.long s2), .second, .val (.int wt), .val (.int fl), .val (.long (s1 &&& (9223372036854775807 : Int64))), .second, .unset, .unset, .unset, .unset, .unset, .unset, .unset, .unset, .unset, .unset, .unset, .unset, .unset, .unset] [])) τ
    refine XT.lload X0.here hx rfl (Jvm.hb hby at_8) rfl ?_
    show Steps p.tables e below (s₁.setTop (mkF m 10 #[.val (.long i1), .second, .val (.long i2), .second, .val (.long s1), .second, .val (.long s2), .second, .val (.int wt), .val (.int fl), .val (.long (s1 &&& (9223372036854775807 : Int64))), .second, .unset, .unset, .unset, .unset, .unset, .unset, .unset, .unset, .unset, .unset, .unset, .unset, .unset, .unset] [(.long s2)])) τ
    refine X0.ldc2Long hx hown (mvT hZ (hw _ (List.mem_of_getElem? (i := 0) rfl))) (g := (mkF m 10 #[.val (.long i1), .second, .val (.long i2), .second, .val (.long s1), .second, .val (.long s2), .second, .val (.int wt), .val (.int fl), .val (.long (s1 &&& (9223372036854775807 : Int64))), .second, .unset, .unset, .unset, .unset, .unset, .unset, .unset, .unset, .unset, .unset, .unset, .unset, .unset, .unset] [(.long s2)])) rfl (Jvm.hb hby at_10) _ ?_
    show Steps p.tables e below (s₁.setTop (mkF m 13 #[.val (.long i1), .second, .val (.long i2), .second, .val (.long s1), .second, .val (.long s2), .second, .val (.int wt), .val (.int fl), .val (.long (s1 &&& (9223372036854775807 : Int64))), .second, .unset, .unset, .unset, .unset, .unset, .unset, .unset, .unset, .unset, .unset, .unset, .unset, .unset, .unset] [(.long (9223372036854775807 : Int64)), (.long s2)])) τ
    refine XT.land X0.here hx rfl (Jvm.hb hby at_13) rfl ?_
    show Steps p.tables e below (s₁.setTop (mkF m 14 #[.val (.long i1), .second, .val (.long i2), .second, .val (.long s1), .second, .val (.long s2), .second, .val (.int wt), .val (.int fl), .val (.long (s1 &&& (9223372036854775807 : Int64))), .second, .unset, .unset, .unset, .unset, .unset, .unset, .unset, .unset, .unset, .unset, .unset, .unset, .unset, .unset] [(.long (s2 &&& (9223372036854775807 : Int64)))])) τ
    refine XT.lstore X0.here hx rfl (Jvm.hb hby at_14) rfl (l' := #[.val (.long i1), .second, .val (.long i2), .second, .val (.long s1), .second, .val (.long s2), .second, .val (.int wt), .val (.int fl), .val (.long (s1 &&& (9223372036854775807 : Int64))), .second, .val (.long (s2 &&& (9223372036854775807 : Int64))), .second, .unset, .unset, .unset, .unset, .unset, .unset, .unset, .unset, .unset, .unset, .unset, .unset]) rfl ?_
    show Steps p.tables e below (s₁.setTop (mkF m 16 #[.val (.long i1), .second, .val (.long i2), .second, .val (.long s1), .second, .val (.long s2), .second, .val (.int wt), .val (.int fl), .val (.long (s1 &&& (9223372036854775807 : Int64))), .second, .val (.long (s2 &&& (9223372036854775807 : Int64))), .second, .unset, .unset, .unset, .unset, .unset, .unset, .unset, .unset, .unset, .unset, .unset, .unset] [])) τ
    refine XS.iload X0.here hx rfl (Jvm.hb hby at_16) rfl ?_
    show Steps p.tables e below (s₁.setTop (mkF m 18 #[.val (.long i1), .second, .val (.long i2), .second, .val (.long s1), .second, .val (.long s2), .second, .val (.int wt), .val (.int fl), .val (.long (s1 &&& (9223372036854775807 : Int64))), .second, .val (.long (s2 &&& (9223372036854775807 : Int64))), .second, .unset, .unset, .unset, .unset, .unset, .unset, .unset, .unset, .unset, .unset, .unset, .unset] [(.int fl)])) τ
    refine XS.iconst X0.here hx rfl (Jvm.hb hby at_18) ?_
    show Steps p.tables e below (s₁.setTop (mkF m 19 #[.val (.long i1), .second, .val (.long i2), .second, .val (.long s1), .second, .val (.long s2), .second, .val (.int wt), .val (.int fl), .val (.long (s1 &&& (9223372036854775807 : Int64))), .second, .val (.long (s2 &&& (9223372036854775807 : Int64))), .second, .unset, .unset, .unset, .unset, .unset, .unset, .unset, .unset, .unset, .unset, .unset, .unset] [(.int (2 : Int32)), (.int fl)])) τ
    refine XS.iand X0.here hx rfl (Jvm.hb hby at_19) rfl ?_
    exact kt)
  obtain ⟨sa, e_sa⟩ : ∃ z : Int64, z = (s1 &&& (9223372036854775807 : Int64)) := ⟨_, rfl⟩
  have pre49 : ∀ τ, Steps p.tables e below (s₁.setTop (mkF m 20 #[.val (.long i1), .second, .val (.long i2), .second, .val (.long s1), .second, .val (.long s2), .second, .val (.int wt), .val (.int fl), .val (.long sa), .second, .val (.long (s2 &&& (9223372036854775807 : Int64))), .second, .unset, .unset, .unset, .unset, .unset, .unset, .unset, .unset, .unset, .unset, .unset, .unset] [(.int (fl &&& (2 : Int32)))])) τ → Steps p.tables e below (s₁.setTop (entryFrame m #[(.long i1), (.long i2), (.long s1), (.long s2), (.int wt), (.int fl)] maxLocals)) τ := by rw [e_sa]; exact pre48
  obtain ⟨sb, hj50, pre50⟩ : ∃ (sb : Int64), (¬ sb < 0) ∧ ∀ τ, Steps p.tables e below (s₁.setTop (mkF m 27 #[.val (.long i1), .second, .val (.long i2), .second, .val (.long s1), .second, .val (.long s2), .second, .val (.int wt), .val (.int fl), .val (.long sa), .second, .val (.long sb), .second, .unset, .unset, .unset, .unset, .unset, .unset, .unset, .unset, .unset, .unset, .unset, .unset] [])) τ → Steps p.tables e below (s₁.setTop (entryFrame m #[(.long i1), (.long i2), (.long s1), (.long s2), (.int wt), (.int fl)] maxLocals)) τ := by
    by_cases qf : (fl &&& (2 : Int32)) = (0 : Int32)
    · skip
      have pre51 : ∀ τ, Steps p.tables e below (s₁.setTop (mkF m 27 #[.val (.long i1), .second, .val (.long i2), .second, .val (.long s1), .second, .val (.long s2), .second, .val (.int wt), .val (.int fl), .val (.long sa), .second, .val (.long (s2 &&& (9223372036854775807 : Int64))), .second, .unset, .unset, .unset, .unset, .unset, .unset, .unset, .unset, .unset, .unset, .unset, .unset] [])) τ → Steps p.tables e below (s₁.setTop (entryFrame m #[(.long i1), (.long i2), (.long s1), (.long s2), (.int wt), (.int fl)] maxLocals)) τ := fun τ kt => pre49 τ (by
        show Steps p.tables e below (s₁.setTop (mkF m 20 #[.val (.long i1), .second, .val (.long i2), .second, .val (.long s1), .second, .val (.long s2), .second, .val (.int wt), .val (.int fl), .val (.long sa), .second, .val (.long (s2 &&& (9223372036854775807 : Int64))), .second, .unset, .unset, .unset, .unset, .unset, .unset, .unset, .unset, .unset, .unset, .unset, .unset] [(.int (fl &&& (2 : Int32)))])) τ
        refine XS.ifYes X0.here hx rfl (pc0 := 20) (pc' := 27) rfl (Jvm.hb hby at_20) rfl ((if0 _ _).trans (teq qf).1) (by decide) (by decide) ?_
        exact kt)
      exact ⟨(s2 &&& (9223372036854775807 : Int64)), mb, pre51⟩
    · skip
      have pre52 : ∀ τ, Steps p.tables e below (s₁.setTop (mkF m 27 #[.val (.long i1), .second, .val (.long i2), .second, .val (.long s1), .second, .val (.long s2), .second, .val (.int wt), .val (.int fl), .val (.long sa), .second, .val (.long sa), .second, .unset, .unset, .unset, .unset, .unset, .unset, .unset, .unset, .unset, .unset, .unset, .unset] [])) τ → Steps p.tables e below (s₁.setTop (entryFrame m #[(.long i1), (.long i2), (.long s1), (.long s2), (.int wt), (.int fl)] maxLocals)) τ := fun τ kt => pre49 τ (by
        show Steps p.tables e below (s₁.setTop (mkF m 20 #[.val (.long i1), .second, .val (.long i2), .second, .val (.long s1), .second, .val (.long s2), .second, .val (.int wt), .val (.int fl), .val (.long sa), .second, .val (.long (s2 &&& (9223372036854775807 : Int64))), .second, .unset, .unset, .unset, .unset, .unset, .unset, .unset, .unset, .unset, .unset, .unset, .unset] [(.int (fl &&& (2 : Int32)))])) τ
        refine XS.ifNo X0.here hx rfl (Jvm.hb hby at_20) rfl ((if0 _ _).trans (feq qf).1) ?_
        show Steps p.tables e below (s₁.setTop (mkF m 23 #[.val (.long i1), .second, .val (.long i2), .second, .val (.long s1), .second, .val (.long s2), .second, .val (.int wt), .val (.int fl), .val (.long sa), .second, .val (.long (s2 &&& (9223372036854775807 : Int64))), .second, .unset, .unset, .unset, .unset, .unset, .unset, .unset, .unset, .unset, .unset, .unset, .unset] [])) τ
        refine XT.lload X0.here hx rfl (Jvm.hb hby at_23) rfl ?_
        show Steps p.tables e below (s₁.setTop (mkF m 25 #[.val (.long i1), .second, .val (.long i2), .second, .val (.long s1), .second, .val (.long s2), .second, .val (.int wt), .val (.int fl), .val (.long sa), .second, .val (.long (s2 &&& (9223372036854775807 : Int64))), .second, .unset, .unset, .unset, .unset, .unset, .unset, .unset, .unset, .unset, .unset, .unset, .unset] [(.long sa)])) τ
        refine XT.lstore X0.here hx rfl (Jvm.hb hby at_25) rfl (l' := #[.val (.long i1), .second, .val (.long i2), .second, .val (.long s1), .second, .val (.long s2), .second, .val (.int wt), .val (.int fl), .val (.long sa), .second, .val (.long sa), .second, .unset, .unset, .unset, .unset, .unset, .unset, .unset, .unset, .unset, .unset, .unset, .unset]) rfl ?_
        exact kt)
      exact ⟨sa, e_sa ▸ ma, pre52⟩
  have pre53 : ∀ τ, Steps p.tables e below (s₁.setTop (mkF m 34 #[.val (.long i1), .second, .val (.long i2), .second, .val (.long s1), .second, .val (.long s2), .second, .val (.int wt), .val (.int fl), .val (.long sa), .second, .val (.long sb), .second, .val (.long i2), .second, .unset, .unset, .unset, .unset, .unset, .unset, .unset, .unset, .unset, .unset] [(.int (fl &&& (1 : Int32)))])) τ → Steps p.tables e below (s₁.setTop (entryFrame m #[(.long i1), (.long i2), (.long s1), (.long s2), (.int wt), (.int fl)] maxLocals)) τ := fun τ kt => pre50 τ (by
    show Steps p.tables e below (s₁.setTop (mkF m 27 #[.val (.long i1), .second, .val (.long i2), .second, .val (.long s1), .second, .val (.long s2), .second, .val (.int wt), .val (.int fl), .val (.long sa), .second, .val (.long sb), .second, .unset, .unset, .unset, .unset, .unset, .unset, .unset, .unset, .unset, .unset, .unset, .unset] [])) τ
    refine XT.lloadN X0.here hx rfl (Jvm.hb hby at_27) rfl ?_
    show Steps p.tables e below (s₁.setTop (mkF m 28 #[.val (.long i1), .second, .val (.long i2), .second, .val (.long s1), .second, .val (.long s2), .second, .val (.int wt), .val (.int fl), .val (.long sa), .second, .val (.long sb), .second, .unset, .unset, .unset, .unset, .unset, .unset, .unset, .unset, .unset, .unset, .unset, .unset] [(.long i2)])) τ
    refine XT.lstore X0.here hx rfl (Jvm.hb hby at_28) rfl (l' := #[.val (.long i1), .second, .val (.long i2), .second, .val (.long s1), .second, .val (.long s2), .second, .val (.int wt), .val (.int fl), .val (.long sa), .second, .val (.long sb), .second, .val (.long i2), .second, .unset, .unset, .unset, .unset, .unset, .unset, .unset, .unset, .unset, .unset]) rfl ?_
    show Steps p.tables e below (s₁.setTop (mkF m 30 #[.val (.long i1), .second, .val (.long i2), .second, .val (.long s1), .second, .val (.long s2), .second, .val (.int wt), .val (.int fl), .val (.long sa), .second, .val (.long sb), .second, .val (.long i2), .second, .unset, .unset, .unset, .unset, .unset, .unset, .unset, .unset, .unset, .unset] [])) τ
    refine XS.iload X0.here hx rfl (Jvm.hb hby at_30) rfl ?_
    show Steps p.tables e below (s₁.setTop (mkF m 32 #[.val (.long i1), .second, .val (.long i2), .second, .val (.long s1), .second, .val (.long s2), .second, .val (.int wt), .val (.int fl), .val (.long sa), .second, .val (.long sb), .second, .val (.long i2), .second, .unset, .unset, .unset, .unset, .unset, .unset, .unset, .unset, .unset, .unset] [(.int fl)])) τ
    refine XS.iconst X0.here hx rfl (Jvm.hb hby at_32) ?_
    show Steps p.tables e below (s₁.setTop (mkF m 33 #[.val (.long i1), .second, .val (.long i2), .second, .val (.long s1), .second, .val (.long s2), .second, .val (.int wt), .val (.int fl), .val (.long sa), .second, .val (.long sb), .second, .val (.long i2), .second, .unset, .unset, .unset, .unset, .unset, .unset, .unset, .unset, .unset, .unset] [(.int (1 : Int32)), (.int fl)])) τ
    refine XS.iand X0.here hx rfl (Jvm.hb hby at_33) rfl ?_
    exact kt)
  obtain ⟨j, hj54, pre54⟩ : ∃ (j : Int64), (True) ∧ ∀ τ, Steps p.tables e below (s₁.setTop (mkF m 40 #[.val (.long i1), .second, .val (.long i2), .second, .val (.long s1), .second, .val (.long s2), .second, .val (.int wt), .val (.int fl), .val (.long sa), .second, .val (.long sb), .second, .val (.long j), .second, .unset, .unset, .unset, .unset, .unset, .unset, .unset, .unset, .unset, .unset] [])) τ → Steps p.tables e below (s₁.setTop (entryFrame m #[(.long i1), (.long i2), (.long s1), (.long s2), (.int wt), (.int fl)] maxLocals)) τ := by
    by_cases qf : (fl &&& (1 : Int32)) = (0 : Int32)
    · skip
      have pre55 : ∀ τ, Steps p.tables e below (s₁.setTop (mkF m 40 #[.val (.long i1), .second, .val (.long i2), .second, .val (.long s1), .second, .val (.long s2), .second, .val (.int wt), .val (.int fl), .val (.long sa), .second, .val (.long sb), .second, .val (.long i2), .second, .unset, .unset, .unset, .unset, .unset, .unset, .unset, .unset, .unset, .unset] [])) τ → Steps p.tables e below (s₁.setTop (entryFrame m #[(.long i1), (.long i2), (.long s1), (.long s2), (.int wt), (.int fl)] maxLocals)) τ := fun τ kt => pre53 τ (by
        show Steps p.tables e below (s₁.setTop (mkF m 34 #[.val (.long i1), .second, .val (.long i2), .second, .val (.long s1), .second, .val (.long s2), .second, .val (.int wt), .val (.int fl), .val (.long sa), .second, .val (.long sb), .second, .val (.long i2), .second, .unset, .unset, .unset, .unset, .unset, .unset, .unset, .unset, .unset, .unset] [(.int (fl &&& (1 : Int32)))])) τ
        refine XS.ifYes X0.here hx rfl (pc0 := 34) (pc' := 40) rfl (Jvm.hb hby at_34) rfl ((if0 _ _).trans (teq qf).1) (by decide) (by decide) ?_
        exact kt)
      exact ⟨i2, trivial, pre55⟩
    · skip
      have pre56 : ∀ τ, Steps p.tables e below (s₁.setTop (mkF m 40 #[.val (.long i1), .second, .val (.long i2), .second, .val (.long s1), .second, .val (.long s2), .second, .val (.int wt), .val (.int fl), .val (.long sa), .second, .val (.long sb), .second, .val (.long i1), .second, .unset, .unset, .unset, .unset, .unset, .unset, .unset, .unset, .unset, .unset] [])) τ → Steps p.tables e below (s₁.setTop (entryFrame m #[(.long i1), (.long i2), (.long s1), (.long s2), (.int wt), (.int fl)] maxLocals)) τ := fun τ kt => pre53 τ (by
        show Steps p.tables e below (s₁.setTop (mkF m 34 #[.val (.long i1), .second, .val (.long i2), .second, .val (.long s1), .second, .val (.long s2), .second, .val (.int wt), .val (.int fl), .val (.long sa), .second, .val (.long sb), .second, .val (.long i2), .second, .unset, .unset, .unset, .unset, .unset, .unset, .unset, .unset, .unset, .unset] [(.int (fl &&& (1 : Int32)))])) τ
        refine XS.ifNo X0.here hx rfl (Jvm.hb hby at_34) rfl ((if0 _ _).trans (feq qf).1) ?_
        show Steps p.tables e below (s₁.setTop (mkF m 37 #[.val (.long i1), .second, .val (.long i2), .second, .val (.long s1), .second, .val (.long s2), .second, .val (.int wt), .val (.int fl), .val (.long sa), .second, .val (.long sb), .second, .val (.long i2), .second, .unset, .unset, .unset, .unset, .unset, .unset, .unset, .unset, .unset, .unset] [])) τ
        refine XT.lloadN X0.here hx rfl (Jvm.hb hby at_37) rfl ?_
        show Steps p.tables e below (s₁.setTop (mkF m 38 #[.val (.long i1), .second, .val (.long i2), .second, .val (.long s1), .second, .val (.long s2), .second, .val (.int wt), .val (.int fl), .val (.long sa), .second, .val (.long sb), .second, .val (.long i2), .second, .unset, .unset, .unset, .unset, .unset, .unset, .unset, .unset, .unset, .unset] [(.long i1)])) τ
        refine XT.lstore X0.here hx rfl (Jvm.hb hby at_38) rfl (l' := #[.val (.long i1), .second, .val (.long i2), .second, .val (.long s1), .second, .val (.long s2), .second, .val (.int wt), .val (.int fl), .val (.long sa), .second, .val (.long sb), .second, .val (.long i1), .second, .unset, .unset, .unset, .unset, .unset, .unset, .unset, .unset, .unset, .unset]) rfl ?_
        exact kt)
      exact ⟨i1, trivial, pre56⟩
  have pre57 : ∀ τ, Steps p.tables e below (s₁.setTop (mkF m 59 #[.val (.long i1), .second, .val (.long i2), .second, .val (.long s1), .second, .val (.long s2), .second, .val (.int wt), .val (.int fl), .val (.long sa), .second, .val (.long sb), .second, .val (.long j), .second, .val (.double (FP.i2d (wt &&& (65535 : Int32)))), .second, .val (.double (FP.i2d ((XT.ushr wt (16 : Int32)) &&& (65535 : Int32)))), .second, .unset, .unset, .unset, .unset, .unset, .unset] [])) τ → Steps p.tables e below (s₁.setTop (entryFrame m #[(.long i1), (.long i2), (.long s1), (.long s2), (.int wt), (.int fl)] maxLocals)) τ := fun τ kt => pre54 τ (by
    show Steps p.tables e below (s₁.setTop (mkF m 40 #[.val (.long i1), .second, .val (.long i2), .second, .val (.long s1), .second, .val (.long s2), .second, .val (.int wt), .val (.int fl), .val (.long sa), .second, .val (.long sb), .second, .val (.long j), .second, .unset, .unset, .unset, .unset, .unset, .unset, .unset, .unset, .unset, .unset] [])) τ
    refine XS.iload X0.here hx rfl (Jvm.hb hby at_40) rfl ?_
    show Steps p.tables e below (s₁.setTop (mkF m 42 #[.val (.long i1), .second, .val (.long i2), .second, .val (.long s1), .second, .val (.long s2), .second, .val (.int wt), .val (.int fl), .val (.long sa), .second, .val (.long sb), .second, .val (.long j), .second, .unset, .unset, .unset, .unset, .unset, .unset, .unset, .unset, .unset, .unset] [(.int wt)])) τ
    refine X0.ldcInt hx hown (mvT hZ (hw _ (List.mem_of_getElem? (i := 1) rfl))) (g := (mkF m 42 #[.val (.long i1), .second, .val (.long i2), .second, .val (.long s1), .second, .val (.long s2), .second, .val (.int wt), .val (.int fl), .val (.long sa), .second, .val (.long sb), .second, .val (.long j), .second, .unset, .unset, .unset, .unset, .unset, .unset, .unset, .unset, .unset, .unset] [(.int wt)])) rfl (Jvm.hb hby at_42) _ ?_
    show Steps p.tables e below (s₁.setTop (mkF m 44 #[.val (.long i1), .second, .val (.long i2), .second, .val (.long s1), .second, .val (.long s2), .second, .val (.int wt), .val (.int fl), .val (.long sa), .second, .val (.long sb), .second, .val (.long j), .second, .unset, .unset, .unset, .unset, .unset, .unset, .unset, .unset, .unset, .unset] [(.int (65535 : Int32)), (.int wt)])) τ
    refine XS.iand X0.here hx rfl (Jvm.hb hby at_44) rfl ?_
    show Steps p.tables e below (s₁.setTop (mkF m 45 #[.val (.long i1), .second, .val (.long i2), .second, .val (.long s1), .second, .val (.long s2), .second, .val (.int wt), .val (.int fl), .val (.long sa), .second, .val (.long sb), .second, .val (.long j), .second, .unset, .unset, .unset, .unset, .unset, .unset, .unset, .unset, .unset, .unset] [(.int (wt &&& (65535 : Int32)))])) τ
    refine own_i2d X0.here hx rfl (Jvm.hb hby at_45) rfl ?_
    show Steps p.tables e below (s₁.setTop (mkF m 46 #[.val (.long i1), .second, .val (.long i2), .second, .val (.long s1), .second, .val (.long s2), .second, .val (.int wt), .val (.int fl), .val (.long sa), .second, .val (.long sb), .second, .val (.long j), .second, .unset, .unset, .unset, .unset, .unset, .unset, .unset, .unset, .unset, .unset] [(.double (FP.i2d (wt &&& (65535 : Int32))))])) τ
    refine own_dstore X0.here hx rfl (Jvm.hb hby at_46) rfl (l' := #[.val (.long i1), .second, .val (.long i2), .second, .val (.long s1), .second, .val (.long s2), .second, .val (.int wt), .val (.int fl), .val (.long sa), .second, .val (.long sb), .second, .val (.long j), .second, .val (.double (FP.i2d (wt &&& (65535 : Int32)))), .second, .unset, .unset, .unset, .unset, .unset, .unset, .unset, .unset]) rfl ?_
    show Steps p.tables e below (s₁.setTop (mkF m 48 #[.val (.long i1), .second, .val (.long i2), .second, .val (.long s1), .second, .val (.long s2), .second, .val (.int wt), .val (.int fl), .val (.long sa), .second, .val (.long sb), .second, .val (.long j), .second, .val (.double (FP.i2d (wt &&& (65535 : Int32)))), .second, .unset, .unset, .unset, .unset, .unset, .unset, .unset, .unset] [])) τ
    refine XS.iload X0.here hx rfl (Jvm.hb hby at_48) rfl ?_
    show Steps p.tables e below (s₁.setTop (mkF m 50 #[.val (.long i1), .second, .val (.long i2), .second, .val (.long s1), .second, .val (.long s2), .second, .val (.int wt), .val (.int fl), .val (.long sa), .second, .val (.long sb), .second, .val (.long j), .second, .val (.double (FP.i2d (wt &&& (65535 : Int32)))), .second, .unset, .unset, .unset, .unset, .unset, .unset, .unset, .unset] [(.int wt)])) τ
    refine XS.bipush X0.here hx rfl (Jvm.hb hby at_50) ?_
    show Steps p.tables e below (s₁.setTop (mkF m 52 #[.val (.long i1), .second, .val (.long i2), .second, .val (.long s1), .second, .val (.long s2), .second, .val (.int wt), .val (.int fl), .val (.long sa), .second, .val (.long sb), .second, .val (.long j), .second, .val (.double (FP.i2d (wt &&& (65535 : Int32)))), .second, .unset, .unset, .unset, .unset, .unset, .unset, .unset, .unset] [(.int (16 : Int32)), (.int wt)])) τ
    refine XT.iushr X0.here hx rfl (Jvm.hb hby at_52) rfl ?_
    show Steps p.tables e below (s₁.setTop (mkF m 53 #[.val (.long i1), .second, .val (.long i2), .second, .val (.long s1), .second, .val (.long s2), .second, .val (.int wt), .val (.int fl), .val (.long sa), .second, .val (.long sb), .second, .val (.long j), .second, .val (.double (FP.i2d (wt &&& (65535 : Int32)))), .second, .unset, .unset, .unset, .unset, .unset, .unset, .unset, .unset] [(.int (XT.ushr wt (16 : Int32)))])) τ
    refine X0.ldcInt hx hown (mvT hZ (hw _ (List.mem_of_getElem? (i := 1) rfl))) (g := (mkF m 53 #[.val (.long i1), .second, .val (.long i2), .second, .val (.long s1), .second, .val (.long s2), .second, .val (.int wt), .val (.int fl), .val (.long sa), .second, .val (.long sb), .second, .val (.long j), .second, .val (.double (FP.i2d (wt &&& (65535 : Int32)))), .second, .unset, .unset, .unset, .unset, .unset, .unset, .unset, .unset] [(.int (XT.ushr wt (16 : Int32)))])) rfl (Jvm.hb hby at_53) _ ?_
    show Steps p.tables e below (s₁.setTop (mkF m 55 #[.val (.long i1), .second, .val (.long i2), .second, .val (.long s1), .second, .val (.long s2), .second, .val (.int wt), .val (.int fl), .val (.long sa), .second, .val (.long sb), .second, .val (.long j), .second, .val (.double (FP.i2d (wt &&& (65535 : Int32)))), .second, .unset, .unset, .unset, .unset, .unset, .unset, .unset, .unset] [(.int (65535 : Int32)), (.int (XT.ushr wt (16 : Int32)))])) τ
    refine XS.iand X0.here hx rfl (Jvm.hb hby at_55) rfl ?_
    show Steps p.tables e below (s₁.setTop (mkF m 56 #[.val (.long i1), .second, .val (.long i2), .second, .val (.long s1), .second, .val (.long s2), .second, .val (.int wt), .val (.int fl), .val (.long sa), .second, .val (.long sb), .second, .val (.long j), .second, .val (.double (FP.i2d (wt &&& (65535 : Int32)))), .second, .unset, .unset, .unset, .unset, .unset, .unset, .unset, .unset] [(.int ((XT.ushr wt (16 : Int32)) &&& (65535 : Int32)))])) τ
    refine own_i2d X0.here hx rfl (Jvm.hb hby at_56) rfl ?_
    show Steps p.tables e below (s₁.setTop (mkF m 57 #[.val (.long i1), .second, .val (.long i2), .second, .val (.long s1), .second, .val (.long s2), .second, .val (.int wt), .val (.int fl), .val (.long sa), .second, .val (.long sb), .second, .val (.long j), .second, .val (.double (FP.i2d (wt &&& (65535 : Int32)))), .second, .unset, .unset, .unset, .unset, .unset, .unset, .unset, .unset] [(.double (FP.i2d ((XT.ushr wt (16 : Int32)) &&& (65535 : Int32))))])) τ
    refine own_dstore X0.here hx rfl (Jvm.hb hby at_57) rfl (l' := #[.val (.long i1), .second, .val (.long i2), .second, .val (.long s1), .second, .val (.long s2), .second, .val (.int wt), .val (.int fl), .val (.long sa), .second, .val (.long sb), .second, .val (.long j), .second, .val (.double (FP.i2d (wt &&& (65535 : Int32)))), .second, .val (.double (FP.i2d ((XT.ushr wt (16 : Int32)) &&& (65535 : Int32)))), .second, .unset, .unset, .unset, .unset, .unset, .unset]) rfl ?_
    exact kt)
  obtain ⟨T58, h58, X58, e58, E58, A58, D58, -, st58⟩ := newO X0 hx hZ hown (hw _ (List.mem_of_getElem? (i := 2) rfl)) (hw _ (List.mem_of_getElem? (i := 3) rfl)) (hw _ (List.mem_of_getElem? (i := 4) rfl)) e0 (g := (mkF m 59 #[.val (.long i1), .second, .val (.long i2), .second, .val (.long s1), .second, .val (.long s2), .second, .val (.int wt), .val (.int fl), .val (.long sa), .second, .val (.long sb), .second, .val (.long j), .second, .val (.double (FP.i2d (wt &&& (65535 : Int32)))), .second, .val (.double (FP.i2d ((XT.ushr wt (16 : Int32)) &&& (65535 : Int32)))), .second, .unset, .unset, .unset, .unset, .unset, .unset] [])) rfl (Jvm.hb hby at_59) (by decide) (by decide)
  obtain ⟨b1, g58⟩ : ∃ z, z = h0.size := ⟨_, rfl⟩
  rw [← g58] at A58 D58 st58
  have g_b1 : n0 ≤ b1 := Nat.le_trans (Nat.le_trans Z0 KK0.1) (Nat.le_of_eq g58.symm)
  have sz_b1 : h0.size ≤ b1 := Nat.le_trans KK0.1 (Nat.le_of_eq g58.symm)
  have K58 : Keep h0 h58 [] := KK0.ext E58
  have F_incarnation_b1 : Fld Z h58 b1 "com/example/meter/meter/wire/WeightMessage" "incarnation" "J" (.long (0 : Int64)) := D58 (Or.inr (hw _ (List.mem_of_getElem? (i := 26) rfl))) (ty := .long) (by decide)
  have F_sequence_b1 : Fld Z h58 b1 "com/example/meter/meter/wire/WeightMessage" "sequence" "J" (.long (0 : Int64)) := D58 (Or.inr (hw _ (List.mem_of_getElem? (i := 28) rfl))) (ty := .long) (by decide)
  have F_weight_b1 : Fld Z h58 b1 "com/example/meter/meter/wire/WeightMessage" "weight" "D" (.double (0 : UInt64)) := D58 (Or.inr (hw _ (List.mem_of_getElem? (i := 30) rfl))) (ty := .double) (by decide)
  have pre59 : ∀ τ, Steps p.tables e below (T58.setTop (mkF m 62 #[.val (.long i1), .second, .val (.long i2), .second, .val (.long s1), .second, .val (.long s2), .second, .val (.int wt), .val (.int fl), .val (.long sa), .second, .val (.long sb), .second, .val (.long j), .second, .val (.double (FP.i2d (wt &&& (65535 : Int32)))), .second, .val (.double (FP.i2d ((XT.ushr wt (16 : Int32)) &&& (65535 : Int32)))), .second, .unset, .unset, .unset, .unset, .unset, .unset] [(.ref b1)])) τ → Steps p.tables e below (s₁.setTop (entryFrame m #[(.long i1), (.long i2), (.long s1), (.long s2), (.int wt), (.int fl)] maxLocals)) τ := fun τ kt => pre57 τ (st58 τ kt)
  have pre60 : ∀ τ, Steps p.tables e below (T58.setTop (mkF m 68 #[.val (.long i1), .second, .val (.long i2), .second, .val (.long s1), .second, .val (.long s2), .second, .val (.int wt), .val (.int fl), .val (.long sa), .second, .val (.long sb), .second, .val (.long j), .second, .val (.double (FP.i2d (wt &&& (65535 : Int32)))), .second, .val (.double (FP.i2d ((XT.ushr wt (16 : Int32)) &&& (65535 : Int32)))), .second, .unset, .unset, .unset, .unset, .unset, .unset] [(.double (FP.i2d (wt &&& (65535 : Int32)))), (.long sa), (.long i1), (.ref b1), (.ref b1)])) τ → Steps p.tables e below (s₁.setTop (entryFrame m #[(.long i1), (.long i2), (.long s1), (.long s2), (.int wt), (.int fl)] maxLocals)) τ := fun τ kt => pre59 τ (by
    show Steps p.tables e below (T58.setTop (mkF m 62 #[.val (.long i1), .second, .val (.long i2), .second, .val (.long s1), .second, .val (.long s2), .second, .val (.int wt), .val (.int fl), .val (.long sa), .second, .val (.long sb), .second, .val (.long j), .second, .val (.double (FP.i2d (wt &&& (65535 : Int32)))), .second, .val (.double (FP.i2d ((XT.ushr wt (16 : Int32)) &&& (65535 : Int32)))), .second, .unset, .unset, .unset, .unset, .unset, .unset] [(.ref b1)])) τ
    refine XS.dup X58.here hx rfl (Jvm.hb hby at_62) rfl rfl ?_
    show Steps p.tables e below (T58.setTop (mkF m 63 #[.val (.long i1), .second, .val (.long i2), .second, .val (.long s1), .second, .val (.long s2), .second, .val (.int wt), .val (.int fl), .val (.long sa), .second, .val (.long sb), .second, .val (.long j), .second, .val (.double (FP.i2d (wt &&& (65535 : Int32)))), .second, .val (.double (FP.i2d ((XT.ushr wt (16 : Int32)) &&& (65535 : Int32)))), .second, .unset, .unset, .unset, .unset, .unset, .unset] [(.ref b1), (.ref b1)])) τ
    refine XT.lloadN X58.here hx rfl (Jvm.hb hby at_63) rfl ?_
    show Steps p.tables e below (T58.setTop (mkF m 64 #[.val (.long i1), .second, .val (.long i2), .second, .val (.long s1), .second, .val (.long s2), .second, .val (.int wt), .val (.int fl), .val (.long sa), .second, .val (.long sb), .second, .val (.long j), .second, .val (.double (FP.i2d (wt &&& (65535 : Int32)))), .second, .val (.double (FP.i2d ((XT.ushr wt (16 : Int32)) &&& (65535 : Int32)))), .second, .unset, .unset, .unset, .unset, .unset, .unset] [(.long i1), (.ref b1), (.ref b1)])) τ
    refine XT.lload X58.here hx rfl (Jvm.hb hby at_64) rfl ?_
    show Steps p.tables e below (T58.setTop (mkF m 66 #[.val (.long i1), .second, .val (.long i2), .second, .val (.long s1), .second, .val (.long s2), .second, .val (.int wt), .val (.int fl), .val (.long sa), .second, .val (.long sb), .second, .val (.long j), .second, .val (.double (FP.i2d (wt &&& (65535 : Int32)))), .second, .val (.double (FP.i2d ((XT.ushr wt (16 : Int32)) &&& (65535 : Int32)))), .second, .unset, .unset, .unset, .unset, .unset, .unset] [(.long sa), (.long i1), (.ref b1), (.ref b1)])) τ
    refine own_dload X58.here hx rfl (Jvm.hb hby at_66) rfl ?_
    exact kt)
  obtain ⟨_, _, ⟨T61, L61, k61, n61⟩, -, X61, ⟨Lc61, hQ61, l61, y61, z61⟩, st61⟩ := X58.specialBack hx (y := (⟨"com/example/meter/meter/wire/WeightMessage", "<init>", "(JJD)V"⟩ : MethodName)) rfl hown (mvT hZ (hw _ (List.mem_of_getElem? (i := 5) rfl))) (mvT hZ (hw _ (List.mem_of_getElem? (i := 6) rfl))) (mvT hZ (hw _ (List.mem_of_getElem? (i := 7) rfl))) (by decide) (backOf (W := 1) (rm1 l Z a0 hw [] b1 i1 sa (FP.i2d (wt &&& (65535 : Int32))) h58 n0 (Nat.le_trans Z0 K58.1) A58 F_incarnation_b1 F_sequence_b1 F_weight_b1 g_b1 (e_sa ▸ ma) wx1 wx2 wx3) hZ (hw _ (List.mem_of_getElem? (i := 7) rfl)) (hw _ (List.mem_of_getElem? (i := 4) rfl)) (by decide) (by decide)) (g := (mkF m 68 #[.val (.long i1), .second, .val (.long i2), .second, .val (.long s1), .second, .val (.long s2), .second, .val (.int wt), .val (.int fl), .val (.long sa), .second, .val (.long sb), .second, .val (.long j), .second, .val (.double (FP.i2d (wt &&& (65535 : Int32)))), .second, .val (.double (FP.i2d ((XT.ushr wt (16 : Int32)) &&& (65535 : Int32)))), .second, .unset, .unset, .unset, .unset, .unset, .unset] [(.double (FP.i2d (wt &&& (65535 : Int32)))), (.long sa), (.long i1), (.ref b1), (.ref b1)])) rfl (by rw [hml]; rfl) (Steps.refl _) (a := b1) (argsL := [(.long i1), (.long sa), (.double (FP.i2d (wt &&& (65535 : Int32))))]) (rest := [(.ref b1)]) (lenOf own_pd__JJD_V rfl) rfl (by show 2 * 0 + _ ≤ _; exact Nat.le_of_eq rfl) (Jvm.hb hby at_68) (fun _ _ => ⟨rfl, e58, (by decide : 1 + 0 ≤ _), (by decide : 3 + 0 ≤ _)⟩)
  dsimp only [Pt.U, Pt.locs, Pt.cells, Pt.slots] at X61 l61 y61 z61 st61 hQ61
  subst l61 y61 z61
  obtain ⟨rfl, Nq61, Kq61, Fi61, Fs61⟩ := hQ61
  have N61 := Fr.app N0 Nq61
  have K61 : Keep h0 T61.heap [] := K58.trans Kq61 (allS (Or.inr sz_b1) (all0))
  have pre62 : ∀ τ, Steps p.tables e below (T61.setTop (mkF m 71 #[.val (.long i1), .second, .val (.long i2), .second, .val (.long s1), .second, .val (.long s2), .second, .val (.int wt), .val (.int fl), .val (.long sa), .second, .val (.long sb), .second, .val (.long j), .second, .val (.double (FP.i2d (wt &&& (65535 : Int32)))), .second, .val (.double (FP.i2d ((XT.ushr wt (16 : Int32)) &&& (65535 : Int32)))), .second, .unset, .unset, .unset, .unset, .unset, .unset] [(.ref b1)])) τ → Steps p.tables e below (s₁.setTop (entryFrame m #[(.long i1), (.long i2), (.long s1), (.long s2), (.int wt), (.int fl)] maxLocals)) τ := fun τ kt => pre60 τ ((st61).trans kt)
  have pre63 : ∀ τ, Steps p.tables e below (T61.setTop (mkF m 73 #[.val (.long i1), .second, .val (.long i2), .second, .val (.long s1), .second, .val (.long s2), .second, .val (.int wt), .val (.int fl), .val (.long sa), .second, .val (.long sb), .second, .val (.long j), .second, .val (.double (FP.i2d (wt &&& (65535 : Int32)))), .second, .val (.double (FP.i2d ((XT.ushr wt (16 : Int32)) &&& (65535 : Int32)))), .second, .val (.ref b1), .unset, .unset, .unset, .unset, .unset] [])) τ → Steps p.tables e below (s₁.setTop (entryFrame m #[(.long i1), (.long i2), (.long s1), (.long s2), (.int wt), (.int fl)] maxLocals)) τ := fun τ kt => pre62 τ (by
    show Steps p.tables e below (T61.setTop (mkF m 71 #[.val (.long i1), .second, .val (.long i2), .second, .val (.long s1), .second, .val (.long s2), .second, .val (.int wt), .val (.int fl), .val (.long sa), .second, .val (.long sb), .second, .val (.long j), .second, .val (.double (FP.i2d (wt &&& (65535 : Int32)))), .second, .val (.double (FP.i2d ((XT.ushr wt (16 : Int32)) &&& (65535 : Int32)))), .second, .unset, .unset, .unset, .unset, .unset, .unset] [(.ref b1)])) τ
    refine XS.astore X61.here hx rfl (Jvm.hb hby at_71) rfl rfl (l' := #[.val (.long i1), .second, .val (.long i2), .second, .val (.long s1), .second, .val (.long s2), .second, .val (.int wt), .val (.int fl), .val (.long sa), .second, .val (.long sb), .second, .val (.long j), .second, .val (.double (FP.i2d (wt &&& (65535 : Int32)))), .second, .val (.double (FP.i2d ((XT.ushr wt (16 : Int32)) &&& (65535 : Int32)))), .second, .val (.ref b1), .unset, .unset, .unset, .unset, .unset]) rfl ?_
    exact kt)
  obtain ⟨T64, h64, X64, e64, E64, A64, D64, -, st64⟩ := newO X61 hx hZ hown (hw _ (List.mem_of_getElem? (i := 2) rfl)) (hw _ (List.mem_of_getElem? (i := 3) rfl)) (hw _ (List.mem_of_getElem? (i := 4) rfl)) rfl (g := (mkF m 73 #[.val (.long i1), .second, .val (.long i2), .second, .val (.long s1), .second, .val (.long s2), .second, .val (.int wt), .val (.int fl), .val (.long sa), .second, .val (.long sb), .second, .val (.long j), .second, .val (.double (FP.i2d (wt &&& (65535 : Int32)))), .second, .val (.double (FP.i2d ((XT.ushr wt (16 : Int32)) &&& (65535 : Int32)))), .second, .val (.ref b1), .unset, .unset, .unset, .unset, .unset] [])) rfl (Jvm.hb hby at_73) (by decide) (by decide)
  obtain ⟨b2, g64⟩ : ∃ z, z = T61.heap.size := ⟨_, rfl⟩
  rw [← g64] at A64 D64 st64
  have f65 := A58.keep Kq61
  have ne_b1_b2 : b1 ≠ b2 := Nat.ne_of_lt (Nat.lt_of_lt_of_le f65.lt (Nat.le_of_eq g64.symm))
  have g_b2 : n0 ≤ b2 := Nat.le_trans (Nat.le_trans Z0 K61.1) (Nat.le_of_eq g64.symm)
  have sz_b2 : h0.size ≤ b2 := Nat.le_trans K61.1 (Nat.le_of_eq g64.symm)
  have K64 : Keep h0 h64 [] := K61.ext E64
  have F_incarnation_b2 : Fld Z h64 b2 "com/example/meter/meter/wire/WeightMessage" "incarnation" "J" (.long (0 : Int64)) := D64 (Or.inr (hw _ (List.mem_of_getElem? (i := 26) rfl))) (ty := .long) (by decide)
  have F_sequence_b2 : Fld Z h64 b2 "com/example/meter/meter/wire/WeightMessage" "sequence" "J" (.long (0 : Int64)) := D64 (Or.inr (hw _ (List.mem_of_getElem? (i := 28) rfl))) (ty := .long) (by decide)
  have F_weight_b2 : Fld Z h64 b2 "com/example/meter/meter/wire/WeightMessage" "weight" "D" (.double (0 : UInt64)) := D64 (Or.inr (hw _ (List.mem_of_getElem? (i := 30) rfl))) (ty := .double) (by decide)
  have pre66 : ∀ τ, Steps p.tables e below (T64.setTop (mkF m 76 #[.val (.long i1), .second, .val (.long i2), .second, .val (.long s1), .second, .val (.long s2), .second, .val (.int wt), .val (.int fl), .val (.long sa), .second, .val (.long sb), .second, .val (.long j), .second, .val (.double (FP.i2d (wt &&& (65535 : Int32)))), .second, .val (.double (FP.i2d ((XT.ushr wt (16 : Int32)) &&& (65535 : Int32)))), .second, .val (.ref b1), .unset, .unset, .unset, .unset, .unset] [(.ref b2)])) τ → Steps p.tables e below (s₁.setTop (entryFrame m #[(.long i1), (.long i2), (.long s1), (.long s2), (.int wt), (.int fl)] maxLocals)) τ := fun τ kt => pre63 τ (st64 τ kt)
  have pre67 : ∀ τ, Steps p.tables e below (T64.setTop (mkF m 83 #[.val (.long i1), .second, .val (.long i2), .second, .val (.long s1), .second, .val (.long s2), .second, .val (.int wt), .val (.int fl), .val (.long sa), .second, .val (.long sb), .second, .val (.long j), .second, .val (.double (FP.i2d (wt &&& (65535 : Int32)))), .second, .val (.double (FP.i2d ((XT.ushr wt (16 : Int32)) &&& (65535 : Int32)))), .second, .val (.ref b1), .unset, .unset, .unset, .unset, .unset] [(.double (FP.i2d ((XT.ushr wt (16 : Int32)) &&& (65535 : Int32)))), (.long sb), (.long j), (.ref b2), (.ref b2)])) τ → Steps p.tables e below (s₁.setTop (entryFrame m #[(.long i1), (.long i2), (.long s1), (.long s2), (.int wt), (.int fl)] maxLocals)) τ := fun τ kt => pre66 τ (by
    show Steps p.tables e below (T64.setTop (mkF m 76 #[.val (.long i1), .second, .val (.long i2), .second, .val (.long s1), .second, .val (.long s2), .second, .val (.int wt), .val (.int fl), .val (.long sa), .second, .val (.long sb), .second, .val (.long j), .second, .val (.double (FP.i2d (wt &&& (65535 : Int32)))), .second, .val (.double (FP.i2d ((XT.ushr wt (16 : Int32)) &&& (65535 : Int32)))), .second, .val (.ref b1), .unset, .unset, .unset, .unset, .unset] [(.ref b2)])) τ
    refine XS.dup X64.here hx rfl (Jvm.hb hby at_76) rfl rfl ?_
    show Steps p.tables e below (T64.setTop (mkF m 77 #[.val (.long i1), .second, .val (.long i2), .second, .val (.long s1), .second, .val (.long s2), .second, .val (.int wt), .val (.int fl), .val (.long sa), .second, .val (.long sb), .second, .val (.long j), .second, .val (.double (FP.i2d (wt &&& (65535 : Int32)))), .second, .val (.double (FP.i2d ((XT.ushr wt (16 : Int32)) &&& (65535 : Int32)))), .second, .val (.ref b1), .unset, .unset, .unset, .unset, .unset] [(.ref b2), (.ref b2)])) τ
    refine XT.lload X64.here hx rfl (Jvm.hb hby at_77) rfl ?_
    show Steps p.tables e below (T64.setTop (mkF m 79 #[.val (.long i1), .second, .val (.long i2), .second, .val (.long s1), .second, .val (.long s2), .second, .val (.int wt), .val (.int fl), .val (.long sa), .second, .val (.long sb), .second, .val (.long j), .second, .val (.double (FP.i2d (wt &&& (65535 : Int32)))), .second, .val (.double (FP.i2d ((XT.ushr wt (16 : Int32)) &&& (65535 : Int32)))), .second, .val (.ref b1), .unset, .unset, .unset, .unset, .unset] [(.long j), (.ref b2), (.ref b2)])) τ
    refine XT.lload X64.here hx rfl (Jvm.hb hby at_79) rfl ?_
    show Steps p.tables e below (T64.setTop (mkF m 81 #[.val (.long i1), .second, .val (.long i2), .second, .val (.long s1), .second, .val (.long s2), .second, .val (.int wt), .val (.int fl), .val (.long sa), .second, .val (.long sb), .second, .val (.long j), .second, .val (.double (FP.i2d (wt &&& (65535 : Int32)))), .second, .val (.double (FP.i2d ((XT.ushr wt (16 : Int32)) &&& (65535 : Int32)))), .second, .val (.ref b1), .unset, .unset, .unset, .unset, .unset] [(.long sb), (.long j), (.ref b2), (.ref b2)])) τ
    refine own_dload X64.here hx rfl (Jvm.hb hby at_81) rfl ?_
    exact kt)
  obtain ⟨_, _, ⟨T68, L68, k68, n68⟩, -, X68, ⟨Lc68, hQ68, l68, y68, z68⟩, st68⟩ := X64.specialBack hx (y := (⟨"com/example/meter/meter/wire/WeightMessage", "<init>", "(JJD)V"⟩ : MethodName)) rfl hown (mvT hZ (hw _ (List.mem_of_getElem? (i := 5) rfl))) (mvT hZ (hw _ (List.mem_of_getElem? (i := 6) rfl))) (mvT hZ (hw _ (List.mem_of_getElem? (i := 7) rfl))) (by decide) (backOf (W := 1) (rm1 l Z a0 hw [] b2 j sb (FP.i2d ((XT.ushr wt (16 : Int32)) &&& (65535 : Int32))) h64 n0 (Nat.le_trans Z0 K64.1) A64 F_incarnation_b2 F_sequence_b2 F_weight_b2 g_b2 (hj50) wy1 wy2 wy3) hZ (hw _ (List.mem_of_getElem? (i := 7) rfl)) (hw _ (List.mem_of_getElem? (i := 4) rfl)) (by decide) (by decide)) (g := (mkF m 83 #[.val (.long i1), .second, .val (.long i2), .second, .val (.long s1), .second, .val (.long s2), .second, .val (.int wt), .val (.int fl), .val (.long sa), .second, .val (.long sb), .second, .val (.long j), .second, .val (.double (FP.i2d (wt &&& (65535 : Int32)))), .second, .val (.double (FP.i2d ((XT.ushr wt (16 : Int32)) &&& (65535 : Int32)))), .second, .val (.ref b1), .unset, .unset, .unset, .unset, .unset] [(.double (FP.i2d ((XT.ushr wt (16 : Int32)) &&& (65535 : Int32)))), (.long sb), (.long j), (.ref b2), (.ref b2)])) rfl (by rw [hml]; rfl) (Steps.refl _) (a := b2) (argsL := [(.long j), (.long sb), (.double (FP.i2d ((XT.ushr wt (16 : Int32)) &&& (65535 : Int32))))]) (rest := [(.ref b2)]) (lenOf own_pd__JJD_V rfl) rfl (by show 2 * 0 + _ ≤ _; exact Nat.le_of_eq rfl) (Jvm.hb hby at_83) (fun _ _ => ⟨rfl, e64, (by decide : 2 + 0 ≤ _), (by decide : 6 + 0 ≤ _)⟩)
  dsimp only [Pt.U, Pt.locs, Pt.cells, Pt.slots] at X68 l68 y68 z68 st68 hQ68
  subst l68 y68 z68
  obtain ⟨rfl, Nq68, Kq68, Fi68, Fs68⟩ := hQ68
  have N68 := Fr.app N61 Nq68
  have K68 : Keep h0 T68.heap [] := K64.trans Kq68 (allS (Or.inr sz_b2) (all0))
  have pre69 : ∀ τ, Steps p.tables e below (T68.setTop (mkF m 86 #[.val (.long i1), .second, .val (.long i2), .second, .val (.long s1), .second, .val (.long s2), .second, .val (.int wt), .val (.int fl), .val (.long sa), .second, .val (.long sb), .second, .val (.long j), .second, .val (.double (FP.i2d (wt &&& (65535 : Int32)))), .second, .val (.double (FP.i2d ((XT.ushr wt (16 : Int32)) &&& (65535 : Int32)))), .second, .val (.ref b1), .unset, .unset, .unset, .unset, .unset] [(.ref b2)])) τ → Steps p.tables e below (s₁.setTop (entryFrame m #[(.long i1), (.long i2), (.long s1), (.long s2), (.int wt), (.int fl)] maxLocals)) τ := fun τ kt => pre67 τ ((st68).trans kt)
  have f70 := Fi61.ext E64
  have f71 := f70.keep Kq68 (ninS ne_b1_b2 (nin0))
  have f72 := Fs61.ext E64
  have f73 := f72.keep Kq68 (ninS ne_b1_b2 (nin0))
  have pre74 : ∀ τ, Steps p.tables e below (T68.setTop (mkF m 92 #[.val (.long i1), .second, .val (.long i2), .second, .val (.long s1), .second, .val (.long s2), .second, .val (.int wt), .val (.int fl), .val (.long sa), .second, .val (.long sb), .second, .val (.long j), .second, .val (.double (FP.i2d (wt &&& (65535 : Int32)))), .second, .val (.double (FP.i2d ((XT.ushr wt (16 : Int32)) &&& (65535 : Int32)))), .second, .val (.ref b1), .val (.ref b2), .unset, .unset, .unset, .unset] [(.ref b2), (.ref b1)])) τ → Steps p.tables e below (s₁.setTop (entryFrame m #[(.long i1), (.long i2), (.long s1), (.long s2), (.int wt), (.int fl)] maxLocals)) τ := fun τ kt => pre69 τ (by
    show Steps p.tables e below (T68.setTop (mkF m 86 #[.val (.long i1), .second, .val (.long i2), .second, .val (.long s1), .second, .val (.long s2), .second, .val (.int wt), .val (.int fl), .val (.long sa), .second, .val (.long sb), .second, .val (.long j), .second, .val (.double (FP.i2d (wt &&& (65535 : Int32)))), .second, .val (.double (FP.i2d ((XT.ushr wt (16 : Int32)) &&& (65535 : Int32)))), .second, .val (.ref b1), .unset, .unset, .unset, .unset, .unset] [(.ref b2)])) τ
    refine XS.astore X68.here hx rfl (Jvm.hb hby at_86) rfl rfl (l' := #[.val (.long i1), .second, .val (.long i2), .second, .val (.long s1), .second, .val (.long s2), .second, .val (.int wt), .val (.int fl), .val (.long sa), .second, .val (.long sb), .second, .val (.long j), .second, .val (.double (FP.i2d (wt &&& (65535 : Int32)))), .second, .val (.double (FP.i2d ((XT.ushr wt (16 : Int32)) &&& (65535 : Int32)))), .second, .val (.ref b1), .val (.ref b2), .unset, .unset, .unset, .unset]) rfl ?_
    show Steps p.tables e below (T68.setTop (mkF m 88 #[.val (.long i1), .second, .val (.long i2), .second, .val (.long s1), .second, .val (.long s2), .second, .val (.int wt), .val (.int fl), .val (.long sa), .second, .val (.long sb), .second, .val (.long j), .second, .val (.double (FP.i2d (wt &&& (65535 : Int32)))), .second, .val (.double (FP.i2d ((XT.ushr wt (16 : Int32)) &&& (65535 : Int32)))), .second, .val (.ref b1), .val (.ref b2), .unset, .unset, .unset, .unset] [])) τ
    refine XS.aload X68.here hx rfl (Jvm.hb hby at_88) rfl rfl ?_
    show Steps p.tables e below (T68.setTop (mkF m 90 #[.val (.long i1), .second, .val (.long i2), .second, .val (.long s1), .second, .val (.long s2), .second, .val (.int wt), .val (.int fl), .val (.long sa), .second, .val (.long sb), .second, .val (.long j), .second, .val (.double (FP.i2d (wt &&& (65535 : Int32)))), .second, .val (.double (FP.i2d ((XT.ushr wt (16 : Int32)) &&& (65535 : Int32)))), .second, .val (.ref b1), .val (.ref b2), .unset, .unset, .unset, .unset] [(.ref b1)])) τ
    refine XS.aload X68.here hx rfl (Jvm.hb hby at_90) rfl rfl ?_
    exact kt)
  have f76 := f65.ext E64
  have f77 := f76.keep Kq68
  obtain ⟨cq75, kq75, qa75, qb75, qc75⟩ := isOf hZ rfl f77
  obtain ⟨_, _, ⟨T75, L75, k75, n75⟩, -, X75, ⟨Lc75, hQ75, l75, y75, z75⟩, st75⟩ := X68.virtualBack hx (y := (⟨"com/example/meter/meter/wire/WeightMessage", "newerThan", "(Lcom/example/meter/meter/wire/WeightMessage;)Z"⟩ : MethodName)) (z := (⟨"com/example/meter/meter/wire/WeightMessage", "newerThan", "(Lcom/example/meter/meter/wire/WeightMessage;)Z"⟩ : MethodName)) hown (mvT hZ (hw _ (List.mem_of_getElem? (i := 31) rfl))) (mvT hZ (hw _ (List.mem_of_getElem? (i := 32) rfl))) (notFace_of_selects (args := #[]) (mvT hZ (hw _ (List.mem_of_getElem? (i := 34) rfl)))) (mvT hZ (hw _ (List.mem_of_getElem? (i := 34) rfl))) (mvT hZ (hw _ (List.mem_of_getElem? (i := 33) rfl))) (by decide) (backOf (W := 0) (rm6 l Z a0 hw [] b1 b2 i1 sa j sb T68.heap n0 (Nat.le_trans Z0 K68.1) f71 f73 Fi68 Fs68) hZ (hw _ (List.mem_of_getElem? (i := 35) rfl)) (hw _ (List.mem_of_getElem? (i := 4) rfl)) (by decide) (by decide)) qa75 qc75 (g := (mkF m 92 #[.val (.long i1), .second, .val (.long i2), .second, .val (.long s1), .second, .val (.long s2), .second, .val (.int wt), .val (.int fl), .val (.long sa), .second, .val (.long sb), .second, .val (.long j), .second, .val (.double (FP.i2d (wt &&& (65535 : Int32)))), .second, .val (.double (FP.i2d ((XT.ushr wt (16 : Int32)) &&& (65535 : Int32)))), .second, .val (.ref b1), .val (.ref b2), .unset, .unset, .unset, .unset] [(.ref b2), (.ref b1)])) rfl (by rw [hml]; rfl) (Steps.refl _) (argsL := [(.ref b2)]) (rest := []) (lenOf own_pd__Lcom_example_meter_meter_wire_WeightMessage__Z rfl) rfl (by show 2 * 0 + _ ≤ _; exact Nat.le_of_eq rfl) (Jvm.hb hby at_92) (fun _ _ => ⟨rfl, rfl, (by decide : 2 + 0 ≤ _), (by decide : 6 + 0 ≤ _)⟩)
  dsimp only [Pt.U, Pt.locs, Pt.cells, Pt.slots] at X75 l75 y75 z75 st75 hQ75
  subst l75 y75 z75
  obtain ⟨rfl, Nq75, eq75⟩ := hQ75
  have N75 := Fr.app N68 Nq75
  have pre78 : ∀ τ, Steps p.tables e below (T75.setTop (mkF m 95 #[.val (.long i1), .second, .val (.long i2), .second, .val (.long s1), .second, .val (.long s2), .second, .val (.int wt), .val (.int fl), .val (.long sa), .second, .val (.long sb), .second, .val (.long j), .second, .val (.double (FP.i2d (wt &&& (65535 : Int32)))), .second, .val (.double (FP.i2d ((XT.ushr wt (16 : Int32)) &&& (65535 : Int32)))), .second, .val (.ref b1), .val (.ref b2), .unset, .unset, .unset, .unset] [(.int (own_nw i1 sa j sb))])) τ → Steps p.tables e below (s₁.setTop (entryFrame m #[(.long i1), (.long i2), (.long s1), (.long s2), (.int wt), (.int fl)] maxLocals)) τ := fun τ kt => pre74 τ ((st75).trans kt)
  have pre79 : ∀ τ, Steps p.tables e below (T75.setTop (mkF m 101 #[.val (.long i1), .second, .val (.long i2), .second, .val (.long s1), .second, .val (.long s2), .second, .val (.int wt), .val (.int fl), .val (.long sa), .second, .val (.long sb), .second, .val (.long j), .second, .val (.double (FP.i2d (wt &&& (65535 : Int32)))), .second, .val (.double (FP.i2d ((XT.ushr wt (16 : Int32)) &&& (65535 : Int32)))), .second, .val (.ref b1), .val (.ref b2), .val (.int (own_nw i1 sa j sb)), .unset, .unset, .unset] [(.ref b1), (.ref b2)])) τ → Steps p.tables e below (s₁.setTop (entryFrame m #[(.long i1), (.long i2), (.long s1), (.long s2), (.int wt), (.int fl)] maxLocals)) τ := fun τ kt => pre78 τ (by
    show Steps p.tables e below (T75.setTop (mkF m 95 #[.val (.long i1), .second, .val (.long i2), .second, .val (.long s1), .second, .val (.long s2), .second, .val (.int wt), .val (.int fl), .val (.long sa), .second, .val (.long sb), .second, .val (.long j), .second, .val (.double (FP.i2d (wt &&& (65535 : Int32)))), .second, .val (.double (FP.i2d ((XT.ushr wt (16 : Int32)) &&& (65535 : Int32)))), .second, .val (.ref b1), .val (.ref b2), .unset, .unset, .unset, .unset] [(.int (own_nw i1 sa j sb))])) τ
    refine XS.istore X75.here hx rfl (Jvm.hb hby at_95) rfl (l' := #[.val (.long i1), .second, .val (.long i2), .second, .val (.long s1), .second, .val (.long s2), .second, .val (.int wt), .val (.int fl), .val (.long sa), .second, .val (.long sb), .second, .val (.long j), .second, .val (.double (FP.i2d (wt &&& (65535 : Int32)))), .second, .val (.double (FP.i2d ((XT.ushr wt (16 : Int32)) &&& (65535 : Int32)))), .second, .val (.ref b1), .val (.ref b2), .val (.int (own_nw i1 sa j sb)), .unset, .unset, .unset]) rfl ?_
    show Steps p.tables e below (T75.setTop (mkF m 97 #[.val (.long i1), .second, .val (.long i2), .second, .val (.long s1), .second, .val (.long s2), .second, .val (.int wt), .val (.int fl), .val (.long sa), .second, .val (.long sb), .second, .val (.long j), .second, .val (.double (FP.i2d (wt &&& (65535 : Int32)))), .second, .val (.double (FP.i2d ((XT.ushr wt (16 : Int32)) &&& (65535 : Int32)))), .second, .val (.ref b1), .val (.ref b2), .val (.int (own_nw i1 sa j sb)), .unset, .unset, .unset] [])) τ
    refine XS.aload X75.here hx rfl (Jvm.hb hby at_97) rfl rfl ?_
    show Steps p.tables e below (T75.setTop (mkF m 99 #[.val (.long i1), .second, .val (.long i2), .second, .val (.long s1), .second, .val (.long s2), .second, .val (.int wt), .val (.int fl), .val (.long sa), .second, .val (.long sb), .second, .val (.long j), .second, .val (.double (FP.i2d (wt &&& (65535 : Int32)))), .second, .val (.double (FP.i2d ((XT.ushr wt (16 : Int32)) &&& (65535 : Int32)))), .second, .val (.ref b1), .val (.ref b2), .val (.int (own_nw i1 sa j sb)), .unset, .unset, .unset] [(.ref b2)])) τ
    refine XS.aload X75.here hx rfl (Jvm.hb hby at_99) rfl rfl ?_
    exact kt)
  have f81 := A64.keep Kq68
  obtain ⟨cq80, kq80, qa80, qb80, qc80⟩ := isOf hZ eq75 f81
  obtain ⟨_, _, ⟨T80, L80, k80, n80⟩, -, X80, ⟨Lc80, hQ80, l80, y80, z80⟩, st80⟩ := X75.virtualBack hx (y := (⟨"com/example/meter/meter/wire/WeightMessage", "newerThan", "(Lcom/example/meter/meter/wire/WeightMessage;)Z"⟩ : MethodName)) (z := (⟨"com/example/meter/meter/wire/WeightMessage", "newerThan", "(Lcom/example/meter/meter/wire/WeightMessage;)Z"⟩ : MethodName)) hown (mvT hZ (hw _ (List.mem_of_getElem? (i := 31) rfl))) (mvT hZ (hw _ (List.mem_of_getElem? (i := 32) rfl))) (notFace_of_selects (args := #[]) (mvT hZ (hw _ (List.mem_of_getElem? (i := 34) rfl)))) (mvT hZ (hw _ (List.mem_of_getElem? (i := 34) rfl))) (mvT hZ (hw _ (List.mem_of_getElem? (i := 33) rfl))) (by decide) (backOf (W := 0) (rm6 l Z a0 hw [] b2 b1 j sb i1 sa T68.heap n0 (Nat.le_trans Z0 K68.1) Fi68 Fs68 f71 f73) hZ (hw _ (List.mem_of_getElem? (i := 35) rfl)) (hw _ (List.mem_of_getElem? (i := 4) rfl)) (by decide) (by decide)) qa80 qc80 (g := (mkF m 101 #[.val (.long i1), .second, .val (.long i2), .second, .val (.long s1), .second, .val (.long s2), .second, .val (.int wt), .val (.int fl), .val (.long sa), .second, .val (.long sb), .second, .val (.long j), .second, .val (.double (FP.i2d (wt &&& (65535 : Int32)))), .second, .val (.double (FP.i2d ((XT.ushr wt (16 : Int32)) &&& (65535 : Int32)))), .second, .val (.ref b1), .val (.ref b2), .val (.int (own_nw i1 sa j sb)), .unset, .unset, .unset] [(.ref b1), (.ref b2)])) rfl (by rw [hml]; rfl) (Steps.refl _) (argsL := [(.ref b1)]) (rest := []) (lenOf own_pd__Lcom_example_meter_meter_wire_WeightMessage__Z rfl) rfl (by show 2 * 0 + _ ≤ _; exact Nat.le_of_eq rfl) (Jvm.hb hby at_101) (fun _ _ => ⟨rfl, eq75, (by decide : 2 + 0 ≤ _), (by decide : 6 + 0 ≤ _)⟩)
  dsimp only [Pt.U, Pt.locs, Pt.cells, Pt.slots] at X80 l80 y80 z80 st80 hQ80
  subst l80 y80 z80
  obtain ⟨rfl, Nq80, eq80⟩ := hQ80
  have N80 := Fr.app N75 Nq80
  have pre82 : ∀ τ, Steps p.tables e below (T80.setTop (mkF m 104 #[.val (.long i1), .second, .val (.long i2), .second, .val (.long s1), .second, .val (.long s2), .second, .val (.int wt), .val (.int fl), .val (.long sa), .second, .val (.long sb), .second, .val (.long j), .second, .val (.double (FP.i2d (wt &&& (65535 : Int32)))), .second, .val (.double (FP.i2d ((XT.ushr wt (16 : Int32)) &&& (65535 : Int32)))), .second, .val (.ref b1), .val (.ref b2), .val (.int (own_nw i1 sa j sb)), .unset, .unset, .unset] [(.int (own_nw j sb i1 sa))])) τ → Steps p.tables e below (s₁.setTop (entryFrame m #[(.long i1), (.long i2), (.long s1), (.long s2), (.int wt), (.int fl)] maxLocals)) τ := fun τ kt => pre79 τ ((st80).trans kt)
  have pre83 : ∀ τ, Steps p.tables e below (T80.setTop (mkF m 110 #[.val (.long i1), .second, .val (.long i2), .second, .val (.long s1), .second, .val (.long s2), .second, .val (.int wt), .val (.int fl), .val (.long sa), .second, .val (.long sb), .second, .val (.long j), .second, .val (.double (FP.i2d (wt &&& (65535 : Int32)))), .second, .val (.double (FP.i2d ((XT.ushr wt (16 : Int32)) &&& (65535 : Int32)))), .second, .val (.ref b1), .val (.ref b2), .val (.int (own_nw i1 sa j sb)), .val (.int (own_nw j sb i1 sa)), .unset, .unset] [(.int (XT.cmpL i1 j))])) τ → Steps p.tables e below (s₁.setTop (entryFrame m #[(.long i1), (.long i2), (.long s1), (.long s2), (.int wt), (.int fl)] maxLocals)) τ := fun τ kt => pre82 τ (by
    show Steps p.tables e below (T80.setTop (mkF m 104 #[.val (.long i1), .second, .val (.long i2), .second, .val (.long s1), .second, .val (.long s2), .second, .val (.int wt), .val (.int fl), .val (.long sa), .second, .val (.long sb), .second, .val (.long j), .second, .val (.double (FP.i2d (wt &&& (65535 : Int32)))), .second, .val (.double (FP.i2d ((XT.ushr wt (16 : Int32)) &&& (65535 : Int32)))), .second, .val (.ref b1), .val (.ref b2), .val (.int (own_nw i1 sa j sb)), .unset, .unset, .unset] [(.int (own_nw j sb i1 sa))])) τ
    refine XS.istore X80.here hx rfl (Jvm.hb hby at_104) rfl (l' := #[.val (.long i1), .second, .val (.long i2), .second, .val (.long s1), .second, .val (.long s2), .second, .val (.int wt), .val (.int fl), .val (.long sa), .second, .val (.long sb), .second, .val (.long j), .second, .val (.double (FP.i2d (wt &&& (65535 : Int32)))), .second, .val (.double (FP.i2d ((XT.ushr wt (16 : Int32)) &&& (65535 : Int32)))), .second, .val (.ref b1), .val (.ref b2), .val (.int (own_nw i1 sa j sb)), .val (.int (own_nw j sb i1 sa)), .unset, .unset]) rfl ?_
    show Steps p.tables e below (T80.setTop (mkF m 106 #[.val (.long i1), .second, .val (.long i2), .second, .val (.long s1), .second, .val (.long s2), .second, .val (.int wt), .val (.int fl), .val (.long sa), .second, .val (.long sb), .second, .val (.long j), .second, .val (.double (FP.i2d (wt &&& (65535 : Int32)))), .second, .val (.double (FP.i2d ((XT.ushr wt (16 : Int32)) &&& (65535 : Int32)))), .second, .val (.ref b1), .val (.ref b2), .val (.int (own_nw i1 sa j sb)), .val (.int (own_nw j sb i1 sa)), .unset, .unset] [])) τ
    refine XT.lloadN X80.here hx rfl (Jvm.hb hby at_106) rfl ?_
    show Steps p.tables e below (T80.setTop (mkF m 107 #[.val (.long i1), .second, .val (.long i2), .second, .val (.long s1), .second, .val (.long s2), .second, .val (.int wt), .val (.int fl), .val (.long sa), .second, .val (.long sb), .second, .val (.long j), .second, .val (.double (FP.i2d (wt &&& (65535 : Int32)))), .second, .val (.double (FP.i2d ((XT.ushr wt (16 : Int32)) &&& (65535 : Int32)))), .second, .val (.ref b1), .val (.ref b2), .val (.int (own_nw i1 sa j sb)), .val (.int (own_nw j sb i1 sa)), .unset, .unset] [(.long i1)])) τ
    refine XT.lload X80.here hx rfl (Jvm.hb hby at_107) rfl ?_
    show Steps p.tables e below (T80.setTop (mkF m 109 #[.val (.long i1), .second, .val (.long i2), .second, .val (.long s1), .second, .val (.long s2), .second, .val (.int wt), .val (.int fl), .val (.long sa), .second, .val (.long sb), .second, .val (.long j), .second, .val (.double (FP.i2d (wt &&& (65535 : Int32)))), .second, .val (.double (FP.i2d ((XT.ushr wt (16 : Int32)) &&& (65535 : Int32)))), .second, .val (.ref b1), .val (.ref b2), .val (.int (own_nw i1 sa j sb)), .val (.int (own_nw j sb i1 sa)), .unset, .unset] [(.long j), (.long i1)])) τ
    refine XT.lcmp X80.here hx rfl (Jvm.hb hby at_109) rfl ?_
    exact kt)
  by_cases q1 : (XT.cmpL i1 j) = (0 : Int32)
  · skip
    have he : i1 = j := own_cmpL_eq.mp q1
    have pre84 : ∀ τ, Steps p.tables e below (T80.setTop (mkF m 134 #[.val (.long i1), .second, .val (.long i2), .second, .val (.long s1), .second, .val (.long s2), .second, .val (.int wt), .val (.int fl), .val (.long sa), .second, .val (.long sb), .second, .val (.long j), .second, .val (.double (FP.i2d (wt &&& (65535 : Int32)))), .second, .val (.double (FP.i2d ((XT.ushr wt (16 : Int32)) &&& (65535 : Int32)))), .second, .val (.ref b1), .val (.ref b2), .val (.int (own_nw i1 sa j sb)), .val (.int (own_nw j sb i1 sa)), .unset, .unset] [(.int (XT.cmpL sa sb))])) τ → Steps p.tables e below (s₁.setTop (entryFrame m #[(.long i1), (.long i2), (.long s1), (.long s2), (.int wt), (.int fl)] maxLocals)) τ := fun τ kt => pre83 τ (by
      show Steps p.tables e below (T80.setTop (mkF m 110 #[.val (.long i1), .second, .val (.long i2), .second, .val (.long s1), .second, .val (.long s2), .second, .val (.int wt), .val (.int fl), .val (.long sa), .second, .val (.long sb), .second, .val (.long j), .second, .val (.double (FP.i2d (wt &&& (65535 : Int32)))), .second, .val (.double (FP.i2d ((XT.ushr wt (16 : Int32)) &&& (65535 : Int32)))), .second, .val (.ref b1), .val (.ref b2), .val (.int (own_nw i1 sa j sb)), .val (.int (own_nw j sb i1 sa)), .unset, .unset] [(.int (XT.cmpL i1 j))])) τ
      refine XS.ifYes X80.here hx rfl (pc0 := 110) (pc' := 129) rfl (Jvm.hb hby at_110) rfl ((if0 _ _).trans (teq q1).1) (by decide) (by decide) ?_
      show Steps p.tables e below (T80.setTop (mkF m 129 #[.val (.long i1), .second, .val (.long i2), .second, .val (.long s1), .second, .val (.long s2), .second, .val (.int wt), .val (.int fl), .val (.long sa), .second, .val (.long sb), .second, .val (.long j), .second, .val (.double (FP.i2d (wt &&& (65535 : Int32)))), .second, .val (.double (FP.i2d ((XT.ushr wt (16 : Int32)) &&& (65535 : Int32)))), .second, .val (.ref b1), .val (.ref b2), .val (.int (own_nw i1 sa j sb)), .val (.int (own_nw j sb i1 sa)), .unset, .unset] [])) τ
      refine XT.lload X80.here hx rfl (Jvm.hb hby at_129) rfl ?_
      show Steps p.tables e below (T80.setTop (mkF m 131 #[.val (.long i1), .second, .val (.long i2), .second, .val (.long s1), .second, .val (.long s2), .second, .val (.int wt), .val (.int fl), .val (.long sa), .second, .val (.long sb), .second, .val (.long j), .second, .val (.double (FP.i2d (wt &&& (65535 : Int32)))), .second, .val (.double (FP.i2d ((XT.ushr wt (16 : Int32)) &&& (65535 : Int32)))), .second, .val (.ref b1), .val (.ref b2), .val (.int (own_nw i1 sa j sb)), .val (.int (own_nw j sb i1 sa)), .unset, .unset] [(.long sa)])) τ
      refine XT.lload X80.here hx rfl (Jvm.hb hby at_131) rfl ?_
      show Steps p.tables e below (T80.setTop (mkF m 133 #[.val (.long i1), .second, .val (.long i2), .second, .val (.long s1), .second, .val (.long s2), .second, .val (.int wt), .val (.int fl), .val (.long sa), .second, .val (.long sb), .second, .val (.long j), .second, .val (.double (FP.i2d (wt &&& (65535 : Int32)))), .second, .val (.double (FP.i2d ((XT.ushr wt (16 : Int32)) &&& (65535 : Int32)))), .second, .val (.ref b1), .val (.ref b2), .val (.int (own_nw i1 sa j sb)), .val (.int (own_nw j sb i1 sa)), .unset, .unset] [(.long sb), (.long sa)])) τ
      refine XT.lcmp X80.here hx rfl (Jvm.hb hby at_133) rfl ?_
      exact kt)
    obtain ⟨ea, hj85, pre85⟩ : ∃ (ea : Int32), (own_nw i1 sa j sb = ea) ∧ ∀ τ, Steps p.tables e below (T80.setTop (mkF m 144 #[.val (.long i1), .second, .val (.long i2), .second, .val (.long s1), .second, .val (.long s2), .second, .val (.int wt), .val (.int fl), .val (.long sa), .second, .val (.long sb), .second, .val (.long j), .second, .val (.double (FP.i2d (wt &&& (65535 : Int32)))), .second, .val (.double (FP.i2d ((XT.ushr wt (16 : Int32)) &&& (65535 : Int32)))), .second, .val (.ref b1), .val (.ref b2), .val (.int (own_nw i1 sa j sb)), .val (.int (own_nw j sb i1 sa)), .val (.int ea), .unset] [])) τ → Steps p.tables e below (s₁.setTop (entryFrame m #[(.long i1), (.long i2), (.long s1), (.long s2), (.int wt), (.int fl)] maxLocals)) τ := by
      by_cases q2 : (0 : Int32) < (XT.cmpL sa sb)
      · skip
        have pre86 : ∀ τ, Steps p.tables e below (T80.setTop (mkF m 144 #[.val (.long i1), .second, .val (.long i2), .second, .val (.long s1), .second, .val (.long s2), .second, .val (.int wt), .val (.int fl), .val (.long sa), .second, .val (.long sb), .second, .val (.long j), .second, .val (.double (FP.i2d (wt &&& (65535 : Int32)))), .second, .val (.double (FP.i2d ((XT.ushr wt (16 : Int32)) &&& (65535 : Int32)))), .second, .val (.ref b1), .val (.ref b2), .val (.int (own_nw i1 sa j sb)), .val (.int (own_nw j sb i1 sa)), .val (.int (1 : Int32)), .unset] [])) τ → Steps p.tables e below (s₁.setTop (entryFrame m #[(.long i1), (.long i2), (.long s1), (.long s2), (.int wt), (.int fl)] maxLocals)) τ := fun τ kt => pre84 τ (by
          show Steps p.tables e below (T80.setTop (mkF m 134 #[.val (.long i1), .second, .val (.long i2), .second, .val (.long s1), .second, .val (.long s2), .second, .val (.int wt), .val (.int fl), .val (.long sa), .second, .val (.long sb), .second, .val (.long j), .second, .val (.double (FP.i2d (wt &&& (65535 : Int32)))), .second, .val (.double (FP.i2d ((XT.ushr wt (16 : Int32)) &&& (65535 : Int32)))), .second, .val (.ref b1), .val (.ref b2), .val (.int (own_nw i1 sa j sb)), .val (.int (own_nw j sb i1 sa)), .unset, .unset] [(.int (XT.cmpL sa sb))])) τ
          refine XS.ifNo X80.here hx rfl (Jvm.hb hby at_134) rfl ((if0 _ _).trans (tlt q2).2.2.2) ?_
          show Steps p.tables e below (T80.setTop (mkF m 137 #[.val (.long i1), .second, .val (.long i2), .second, .val (.long s1), .second, .val (.long s2), .second, .val (.int wt), .val (.int fl), .val (.long sa), .second, .val (.long sb), .second, .val (.long j), .second, .val (.double (FP.i2d (wt &&& (65535 : Int32)))), .second, .val (.double (FP.i2d ((XT.ushr wt (16 : Int32)) &&& (65535 : Int32)))), .second, .val (.ref b1), .val (.ref b2), .val (.int (own_nw i1 sa j sb)), .val (.int (own_nw j sb i1 sa)), .unset, .unset] [])) τ
          refine XS.iconst X80.here hx rfl (Jvm.hb hby at_137) ?_
          show Steps p.tables e below (T80.setTop (mkF m 138 #[.val (.long i1), .second, .val (.long i2), .second, .val (.long s1), .second, .val (.long s2), .second, .val (.int wt), .val (.int fl), .val (.long sa), .second, .val (.long sb), .second, .val (.long j), .second, .val (.double (FP.i2d (wt &&& (65535 : Int32)))), .second, .val (.double (FP.i2d ((XT.ushr wt (16 : Int32)) &&& (65535 : Int32)))), .second, .val (.ref b1), .val (.ref b2), .val (.int (own_nw i1 sa j sb)), .val (.int (own_nw j sb i1 sa)), .unset, .unset] [(.int (1 : Int32))])) τ
          refine XS.goto X80.here hx rfl (pc0 := 138) (pc' := 142) rfl (Jvm.hb hby at_138) (by decide) (by decide) ?_
          show Steps p.tables e below (T80.setTop (mkF m 142 #[.val (.long i1), .second, .val (.long i2), .second, .val (.long s1), .second, .val (.long s2), .second, .val (.int wt), .val (.int fl), .val (.long sa), .second, .val (.long sb), .second, .val (.long j), .second, .val (.double (FP.i2d (wt &&& (65535 : Int32)))), .second, .val (.double (FP.i2d ((XT.ushr wt (16 : Int32)) &&& (65535 : Int32)))), .second, .val (.ref b1), .val (.ref b2), .val (.int (own_nw i1 sa j sb)), .val (.int (own_nw j sb i1 sa)), .unset, .unset] [(.int (1 : Int32))])) τ
          refine XS.istore X80.here hx rfl (Jvm.hb hby at_142) rfl (l' := #[.val (.long i1), .second, .val (.long i2), .second, .val (.long s1), .second, .val (.long s2), .second, .val (.int wt), .val (.int fl), .val (.long sa), .second, .val (.long sb), .second, .val (.long j), .second, .val (.double (FP.i2d (wt &&& (65535 : Int32)))), .second, .val (.double (FP.i2d ((XT.ushr wt (16 : Int32)) &&& (65535 : Int32)))), .second, .val (.ref b1), .val (.ref b2), .val (.int (own_nw i1 sa j sb)), .val (.int (own_nw j sb i1 sa)), .val (.int (1 : Int32)), .unset]) rfl ?_
          exact kt)
        exact ⟨(1 : Int32), (if_pos he).trans (if_pos (own_cmpL_gt.mp q2)), pre86⟩
      · skip
        have pre87 : ∀ τ, Steps p.tables e below (T80.setTop (mkF m 144 #[.val (.long i1), .second, .val (.long i2), .second, .val (.long s1), .second, .val (.long s2), .second, .val (.int wt), .val (.int fl), .val (.long sa), .second, .val (.long sb), .second, .val (.long j), .second, .val (.double (FP.i2d (wt &&& (65535 : Int32)))), .second, .val (.double (FP.i2d ((XT.ushr wt (16 : Int32)) &&& (65535 : Int32)))), .second, .val (.ref b1), .val (.ref b2), .val (.int (own_nw i1 sa j sb)), .val (.int (own_nw j sb i1 sa)), .val (.int (0 : Int32)), .unset] [])) τ → Steps p.tables e below (s₁.setTop (entryFrame m #[(.long i1), (.long i2), (.long s1), (.long s2), (.int wt), (.int fl)] maxLocals)) τ := fun τ kt => pre84 τ (by
          show Steps p.tables e below (T80.setTop (mkF m 134 #[.val (.long i1), .second, .val (.long i2), .second, .val (.long s1), .second, .val (.long s2), .second, .val (.int wt), .val (.int fl), .val (.long sa), .second, .val (.long sb), .second, .val (.long j), .second, .val (.double (FP.i2d (wt &&& (65535 : Int32)))), .second, .val (.double (FP.i2d ((XT.ushr wt (16 : Int32)) &&& (65535 : Int32)))), .second, .val (.ref b1), .val (.ref b2), .val (.int (own_nw i1 sa j sb)), .val (.int (own_nw j sb i1 sa)), .unset, .unset] [(.int (XT.cmpL sa sb))])) τ
          refine XS.ifYes X80.here hx rfl (pc0 := 134) (pc' := 141) rfl (Jvm.hb hby at_134) rfl ((if0 _ _).trans (flt q2).2.2.2) (by decide) (by decide) ?_
          show Steps p.tables e below (T80.setTop (mkF m 141 #[.val (.long i1), .second, .val (.long i2), .second, .val (.long s1), .second, .val (.long s2), .second, .val (.int wt), .val (.int fl), .val (.long sa), .second, .val (.long sb), .second, .val (.long j), .second, .val (.double (FP.i2d (wt &&& (65535 : Int32)))), .second, .val (.double (FP.i2d ((XT.ushr wt (16 : Int32)) &&& (65535 : Int32)))), .second, .val (.ref b1), .val (.ref b2), .val (.int (own_nw i1 sa j sb)), .val (.int (own_nw j sb i1 sa)), .unset, .unset] [])) τ
          refine XS.iconst X80.here hx rfl (Jvm.hb hby at_141) ?_
          show Steps p.tables e below (T80.setTop (mkF m 142 #[.val (.long i1), .second, .val (.long i2), .second, .val (.long s1), .second, .val (.long s2), .second, .val (.int wt), .val (.int fl), .val (.long sa), .second, .val (.long sb), .second, .val (.long j), .second, .val (.double (FP.i2d (wt &&& (65535 : Int32)))), .second, .val (.double (FP.i2d ((XT.ushr wt (16 : Int32)) &&& (65535 : Int32)))), .second, .val (.ref b1), .val (.ref b2), .val (.int (own_nw i1 sa j sb)), .val (.int (own_nw j sb i1 sa)), .unset, .unset] [(.int (0 : Int32))])) τ
          refine XS.istore X80.here hx rfl (Jvm.hb hby at_142) rfl (l' := #[.val (.long i1), .second, .val (.long i2), .second, .val (.long s1), .second, .val (.long s2), .second, .val (.int wt), .val (.int fl), .val (.long sa), .second, .val (.long sb), .second, .val (.long j), .second, .val (.double (FP.i2d (wt &&& (65535 : Int32)))), .second, .val (.double (FP.i2d ((XT.ushr wt (16 : Int32)) &&& (65535 : Int32)))), .second, .val (.ref b1), .val (.ref b2), .val (.int (own_nw i1 sa j sb)), .val (.int (own_nw j sb i1 sa)), .val (.int (0 : Int32)), .unset]) rfl ?_
          exact kt)
        exact ⟨(0 : Int32), (if_pos he).trans (if_neg fun q => q2 (own_cmpL_gt.mpr q)), pre87⟩
    have pre88 : ∀ τ, Steps p.tables e below (T80.setTop (mkF m 149 #[.val (.long i1), .second, .val (.long i2), .second, .val (.long s1), .second, .val (.long s2), .second, .val (.int wt), .val (.int fl), .val (.long sa), .second, .val (.long sb), .second, .val (.long j), .second, .val (.double (FP.i2d (wt &&& (65535 : Int32)))), .second, .val (.double (FP.i2d ((XT.ushr wt (16 : Int32)) &&& (65535 : Int32)))), .second, .val (.ref b1), .val (.ref b2), .val (.int (own_nw i1 sa j sb)), .val (.int (own_nw j sb i1 sa)), .val (.int ea), .unset] [(.int (XT.cmpL sb sa))])) τ → Steps p.tables e below (s₁.setTop (entryFrame m #[(.long i1), (.long i2), (.long s1), (.long s2), (.int wt), (.int fl)] maxLocals)) τ := fun τ kt => pre85 τ (by
      show Steps p.tables e below (T80.setTop (mkF m 144 #[.val (.long i1), .second, .val (.long i2), .second, .val (.long s1), .second, .val (.long s2), .second, .val (.int wt), .val (.int fl), .val (.long sa), .second, .val (.long sb), .second, .val (.long j), .second, .val (.double (FP.i2d (wt &&& (65535 : Int32)))), .second, .val (.double (FP.i2d ((XT.ushr wt (16 : Int32)) &&& (65535 : Int32)))), .second, .val (.ref b1), .val (.ref b2), .val (.int (own_nw i1 sa j sb)), .val (.int (own_nw j sb i1 sa)), .val (.int ea), .unset] [])) τ
      refine XT.lload X80.here hx rfl (Jvm.hb hby at_144) rfl ?_
      show Steps p.tables e below (T80.setTop (mkF m 146 #[.val (.long i1), .second, .val (.long i2), .second, .val (.long s1), .second, .val (.long s2), .second, .val (.int wt), .val (.int fl), .val (.long sa), .second, .val (.long sb), .second, .val (.long j), .second, .val (.double (FP.i2d (wt &&& (65535 : Int32)))), .second, .val (.double (FP.i2d ((XT.ushr wt (16 : Int32)) &&& (65535 : Int32)))), .second, .val (.ref b1), .val (.ref b2), .val (.int (own_nw i1 sa j sb)), .val (.int (own_nw j sb i1 sa)), .val (.int ea), .unset] [(.long sb)])) τ
      refine XT.lload X80.here hx rfl (Jvm.hb hby at_146) rfl ?_
      show Steps p.tables e below (T80.setTop (mkF m 148 #[.val (.long i1), .second, .val (.long i2), .second, .val (.long s1), .second, .val (.long s2), .second, .val (.int wt), .val (.int fl), .val (.long sa), .second, .val (.long sb), .second, .val (.long j), .second, .val (.double (FP.i2d (wt &&& (65535 : Int32)))), .second, .val (.double (FP.i2d ((XT.ushr wt (16 : Int32)) &&& (65535 : Int32)))), .second, .val (.ref b1), .val (.ref b2), .val (.int (own_nw i1 sa j sb)), .val (.int (own_nw j sb i1 sa)), .val (.int ea), .unset] [(.long sa), (.long sb)])) τ
      refine XT.lcmp X80.here hx rfl (Jvm.hb hby at_148) rfl ?_
      exact kt)
    obtain ⟨eb, hj89, pre89⟩ : ∃ (eb : Int32), (own_nw j sb i1 sa = eb) ∧ ∀ τ, Steps p.tables e below (T80.setTop (mkF m 159 #[.val (.long i1), .second, .val (.long i2), .second, .val (.long s1), .second, .val (.long s2), .second, .val (.int wt), .val (.int fl), .val (.long sa), .second, .val (.long sb), .second, .val (.long j), .second, .val (.double (FP.i2d (wt &&& (65535 : Int32)))), .second, .val (.double (FP.i2d ((XT.ushr wt (16 : Int32)) &&& (65535 : Int32)))), .second, .val (.ref b1), .val (.ref b2), .val (.int (own_nw i1 sa j sb)), .val (.int (own_nw j sb i1 sa)), .val (.int ea), .val (.int eb)] [])) τ → Steps p.tables e below (s₁.setTop (entryFrame m #[(.long i1), (.long i2), (.long s1), (.long s2), (.int wt), (.int fl)] maxLocals)) τ := by
      by_cases q2 : (0 : Int32) < (XT.cmpL sb sa)
      · skip
        have pre90 : ∀ τ, Steps p.tables e below (T80.setTop (mkF m 159 #[.val (.long i1), .second, .val (.long i2), .second, .val (.long s1), .second, .val (.long s2), .second, .val (.int wt), .val (.int fl), .val (.long sa), .second, .val (.long sb), .second, .val (.long j), .second, .val (.double (FP.i2d (wt &&& (65535 : Int32)))), .second, .val (.double (FP.i2d ((XT.ushr wt (16 : Int32)) &&& (65535 : Int32)))), .second, .val (.ref b1), .val (.ref b2), .val (.int (own_nw i1 sa j sb)), .val (.int (own_nw j sb i1 sa)), .val (.int ea), .val (.int (1 : Int32))] [])) τ → Steps p.tables e below (s₁.setTop (entryFrame m #[(.long i1), (.long i2), (.long s1), (.long s2), (.int wt), (.int fl)] maxLocals)) τ := fun τ kt => pre88 τ (by
          show Steps p.tables e below (T80.setTop (mkF m 149 #[.val (.long i1), .second, .val (.long i2), .second, .val (.long s1), .second, .val (.long s2), .second, .val (.int wt), .val (.int fl), .val (.long sa), .second, .val (.long sb), .second, .val (.long j), .second, .val (.double (FP.i2d (wt &&& (65535 : Int32)))), .second, .val (.double (FP.i2d ((XT.ushr wt (16 : Int32)) &&& (65535 : Int32)))), .second, .val (.ref b1), .val (.ref b2), .val (.int (own_nw i1 sa j sb)), .val (.int (own_nw j sb i1 sa)), .val (.int ea), .unset] [(.int (XT.cmpL sb sa))])) τ
          refine XS.ifNo X80.here hx rfl (Jvm.hb hby at_149) rfl ((if0 _ _).trans (tlt q2).2.2.2) ?_
          show Steps p.tables e below (T80.setTop (mkF m 152 #[.val (.long i1), .second, .val (.long i2), .second, .val (.long s1), .second, .val (.long s2), .second, .val (.int wt), .val (.int fl), .val (.long sa), .second, .val (.long sb), .second, .val (.long j), .second, .val (.double (FP.i2d (wt &&& (65535 : Int32)))), .second, .val (.double (FP.i2d ((XT.ushr wt (16 : Int32)) &&& (65535 : Int32)))), .second, .val (.ref b1), .val (.ref b2), .val (.int (own_nw i1 sa j sb)), .val (.int (own_nw j sb i1 sa)), .val (.int ea), .unset] [])) τ
          refine XS.iconst X80.here hx rfl (Jvm.hb hby at_152) ?_
          show Steps p.tables e below (T80.setTop (mkF m 153 #[.val (.long i1), .second, .val (.long i2), .second, .val (.long s1), .second, .val (.long s2), .second, .val (.int wt), .val (.int fl), .val (.long sa), .second, .val (.long sb), .second, .val (.long j), .second, .val (.double (FP.i2d (wt &&& (65535 : Int32)))), .second, .val (.double (FP.i2d ((XT.ushr wt (16 : Int32)) &&& (65535 : Int32)))), .second, .val (.ref b1), .val (.ref b2), .val (.int (own_nw i1 sa j sb)), .val (.int (own_nw j sb i1 sa)), .val (.int ea), .unset] [(.int (1 : Int32))])) τ
          refine XS.goto X80.here hx rfl (pc0 := 153) (pc' := 157) rfl (Jvm.hb hby at_153) (by decide) (by decide) ?_
          show Steps p.tables e below (T80.setTop (mkF m 157 #[.val (.long i1), .second, .val (.long i2), .second, .val (.long s1), .second, .val (.long s2), .second, .val (.int wt), .val (.int fl), .val (.long sa), .second, .val (.long sb), .second, .val (.long j), .second, .val (.double (FP.i2d (wt &&& (65535 : Int32)))), .second, .val (.double (FP.i2d ((XT.ushr wt (16 : Int32)) &&& (65535 : Int32)))), .second, .val (.ref b1), .val (.ref b2), .val (.int (own_nw i1 sa j sb)), .val (.int (own_nw j sb i1 sa)), .val (.int ea), .unset] [(.int (1 : Int32))])) τ
          refine XS.istore X80.here hx rfl (Jvm.hb hby at_157) rfl (l' := #[.val (.long i1), .second, .val (.long i2), .second, .val (.long s1), .second, .val (.long s2), .second, .val (.int wt), .val (.int fl), .val (.long sa), .second, .val (.long sb), .second, .val (.long j), .second, .val (.double (FP.i2d (wt &&& (65535 : Int32)))), .second, .val (.double (FP.i2d ((XT.ushr wt (16 : Int32)) &&& (65535 : Int32)))), .second, .val (.ref b1), .val (.ref b2), .val (.int (own_nw i1 sa j sb)), .val (.int (own_nw j sb i1 sa)), .val (.int ea), .val (.int (1 : Int32))]) rfl ?_
          exact kt)
        exact ⟨(1 : Int32), (if_pos he.symm).trans (if_pos (own_cmpL_gt.mp q2)), pre90⟩
      · skip
        have pre91 : ∀ τ, Steps p.tables e below (T80.setTop (mkF m 159 #[.val (.long i1), .second, .val (.long i2), .second, .val (.long s1), .second, .val (.long s2), .second, .val (.int wt), .val (.int fl), .val (.long sa), .second, .val (.long sb), .second, .val (.long j), .second, .val (.double (FP.i2d (wt &&& (65535 : Int32)))), .second, .val (.double (FP.i2d ((XT.ushr wt (16 : Int32)) &&& (65535 : Int32)))), .second, .val (.ref b1), .val (.ref b2), .val (.int (own_nw i1 sa j sb)), .val (.int (own_nw j sb i1 sa)), .val (.int ea), .val (.int (0 : Int32))] [])) τ → Steps p.tables e below (s₁.setTop (entryFrame m #[(.long i1), (.long i2), (.long s1), (.long s2), (.int wt), (.int fl)] maxLocals)) τ := fun τ kt => pre88 τ (by
          show Steps p.tables e below (T80.setTop (mkF m 149 #[.val (.long i1), .second, .val (.long i2), .second, .val (.long s1), .second, .val (.long s2), .second, .val (.int wt), .val (.int fl), .val (.long sa), .second, .val (.long sb), .second, .val (.long j), .second, .val (.double (FP.i2d (wt &&& (65535 : Int32)))), .second, .val (.double (FP.i2d ((XT.ushr wt (16 : Int32)) &&& (65535 : Int32)))), .second, .val (.ref b1), .val (.ref b2), .val (.int (own_nw i1 sa j sb)), .val (.int (own_nw j sb i1 sa)), .val (.int ea), .unset] [(.int (XT.cmpL sb sa))])) τ
          refine XS.ifYes X80.here hx rfl (pc0 := 149) (pc' := 156) rfl (Jvm.hb hby at_149) rfl ((if0 _ _).trans (flt q2).2.2.2) (by decide) (by decide) ?_
          show Steps p.tables e below (T80.setTop (mkF m 156 #[.val (.long i1), .second, .val (.long i2), .second, .val (.long s1), .second, .val (.long s2), .second, .val (.int wt), .val (.int fl), .val (.long sa), .second, .val (.long sb), .second, .val (.long j), .second, .val (.double (FP.i2d (wt &&& (65535 : Int32)))), .second, .val (.double (FP.i2d ((XT.ushr wt (16 : Int32)) &&& (65535 : Int32)))), .second, .val (.ref b1), .val (.ref b2), .val (.int (own_nw i1 sa j sb)), .val (.int (own_nw j sb i1 sa)), .val (.int ea), .unset] [])) τ
          refine XS.iconst X80.here hx rfl (Jvm.hb hby at_156) ?_
          show Steps p.tables e below (T80.setTop (mkF m 157 #[.val (.long i1), .second, .val (.long i2), .second, .val (.long s1), .second, .val (.long s2), .second, .val (.int wt), .val (.int fl), .val (.long sa), .second, .val (.long sb), .second, .val (.long j), .second, .val (.double (FP.i2d (wt &&& (65535 : Int32)))), .second, .val (.double (FP.i2d ((XT.ushr wt (16 : Int32)) &&& (65535 : Int32)))), .second, .val (.ref b1), .val (.ref b2), .val (.int (own_nw i1 sa j sb)), .val (.int (own_nw j sb i1 sa)), .val (.int ea), .unset] [(.int (0 : Int32))])) τ
          refine XS.istore X80.here hx rfl (Jvm.hb hby at_157) rfl (l' := #[.val (.long i1), .second, .val (.long i2), .second, .val (.long s1), .second, .val (.long s2), .second, .val (.int wt), .val (.int fl), .val (.long sa), .second, .val (.long sb), .second, .val (.long j), .second, .val (.double (FP.i2d (wt &&& (65535 : Int32)))), .second, .val (.double (FP.i2d ((XT.ushr wt (16 : Int32)) &&& (65535 : Int32)))), .second, .val (.ref b1), .val (.ref b2), .val (.int (own_nw i1 sa j sb)), .val (.int (own_nw j sb i1 sa)), .val (.int ea), .val (.int (0 : Int32))]) rfl ?_
          exact kt)
        exact ⟨(0 : Int32), (if_pos he.symm).trans (if_neg fun q => q2 (own_cmpL_gt.mpr q)), pre91⟩
    have pre92 : ∀ τ, Steps p.tables e below (T80.setTop (mkF m 178 #[.val (.long i1), .second, .val (.long i2), .second, .val (.long s1), .second, .val (.long s2), .second, .val (.int wt), .val (.int fl), .val (.long sa), .second, .val (.long sb), .second, .val (.long j), .second, .val (.double (FP.i2d (wt &&& (65535 : Int32)))), .second, .val (.double (FP.i2d ((XT.ushr wt (16 : Int32)) &&& (65535 : Int32)))), .second, .val (.ref b1), .val (.ref b2), .val (.int (own_nw i1 sa j sb)), .val (.int (own_nw j sb i1 sa)), .val (.int ea), .val (.int eb)] [(.int (1 : Int32))])) τ → Steps p.tables e below (s₁.setTop (entryFrame m #[(.long i1), (.long i2), (.long s1), (.long s2), (.int wt), (.int fl)] maxLocals)) τ := fun τ kt => pre89 τ (by
      show Steps p.tables e below (T80.setTop (mkF m 159 #[.val (.long i1), .second, .val (.long i2), .second, .val (.long s1), .second, .val (.long s2), .second, .val (.int wt), .val (.int fl), .val (.long sa), .second, .val (.long sb), .second, .val (.long j), .second, .val (.double (FP.i2d (wt &&& (65535 : Int32)))), .second, .val (.double (FP.i2d ((XT.ushr wt (16 : Int32)) &&& (65535 : Int32)))), .second, .val (.ref b1), .val (.ref b2), .val (.int (own_nw i1 sa j sb)), .val (.int (own_nw j sb i1 sa)), .val (.int ea), .val (.int eb)] [])) τ
      refine XS.iload X80.here hx rfl (Jvm.hb hby at_159) rfl ?_
      show Steps p.tables e below (T80.setTop (mkF m 161 #[.val (.long i1), .second, .val (.long i2), .second, .val (.long s1), .second, .val (.long s2), .second, .val (.int wt), .val (.int fl), .val (.long sa), .second, .val (.long sb), .second, .val (.long j), .second, .val (.double (FP.i2d (wt &&& (65535 : Int32)))), .second, .val (.double (FP.i2d ((XT.ushr wt (16 : Int32)) &&& (65535 : Int32)))), .second, .val (.ref b1), .val (.ref b2), .val (.int (own_nw i1 sa j sb)), .val (.int (own_nw j sb i1 sa)), .val (.int ea), .val (.int eb)] [(.int (own_nw i1 sa j sb))])) τ
      refine XS.iload X80.here hx rfl (Jvm.hb hby at_161) rfl ?_
      show Steps p.tables e below (T80.setTop (mkF m 163 #[.val (.long i1), .second, .val (.long i2), .second, .val (.long s1), .second, .val (.long s2), .second, .val (.int wt), .val (.int fl), .val (.long sa), .second, .val (.long sb), .second, .val (.long j), .second, .val (.double (FP.i2d (wt &&& (65535 : Int32)))), .second, .val (.double (FP.i2d ((XT.ushr wt (16 : Int32)) &&& (65535 : Int32)))), .second, .val (.ref b1), .val (.ref b2), .val (.int (own_nw i1 sa j sb)), .val (.int (own_nw j sb i1 sa)), .val (.int ea), .val (.int eb)] [(.int ea), (.int (own_nw i1 sa j sb))])) τ
      refine XS.icmpNo X80.here hx rfl (Jvm.hb hby at_163) rfl (teq hj85).2 ?_
      show Steps p.tables e below (T80.setTop (mkF m 166 #[.val (.long i1), .second, .val (.long i2), .second, .val (.long s1), .second, .val (.long s2), .second, .val (.int wt), .val (.int fl), .val (.long sa), .second, .val (.long sb), .second, .val (.long j), .second, .val (.double (FP.i2d (wt &&& (65535 : Int32)))), .second, .val (.double (FP.i2d ((XT.ushr wt (16 : Int32)) &&& (65535 : Int32)))), .second, .val (.ref b1), .val (.ref b2), .val (.int (own_nw i1 sa j sb)), .val (.int (own_nw j sb i1 sa)), .val (.int ea), .val (.int eb)] [])) τ
      refine XS.iload X80.here hx rfl (Jvm.hb hby at_166) rfl ?_
      show Steps p.tables e below (T80.setTop (mkF m 168 #[.val (.long i1), .second, .val (.long i2), .second, .val (.long s1), .second, .val (.long s2), .second, .val (.int wt), .val (.int fl), .val (.long sa), .second, .val (.long sb), .second, .val (.long j), .second, .val (.double (FP.i2d (wt &&& (65535 : Int32)))), .second, .val (.double (FP.i2d ((XT.ushr wt (16 : Int32)) &&& (65535 : Int32)))), .second, .val (.ref b1), .val (.ref b2), .val (.int (own_nw i1 sa j sb)), .val (.int (own_nw j sb i1 sa)), .val (.int ea), .val (.int eb)] [(.int (own_nw j sb i1 sa))])) τ
      refine XS.iload X80.here hx rfl (Jvm.hb hby at_168) rfl ?_
      show Steps p.tables e below (T80.setTop (mkF m 170 #[.val (.long i1), .second, .val (.long i2), .second, .val (.long s1), .second, .val (.long s2), .second, .val (.int wt), .val (.int fl), .val (.long sa), .second, .val (.long sb), .second, .val (.long j), .second, .val (.double (FP.i2d (wt &&& (65535 : Int32)))), .second, .val (.double (FP.i2d ((XT.ushr wt (16 : Int32)) &&& (65535 : Int32)))), .second, .val (.ref b1), .val (.ref b2), .val (.int (own_nw i1 sa j sb)), .val (.int (own_nw j sb i1 sa)), .val (.int ea), .val (.int eb)] [(.int eb), (.int (own_nw j sb i1 sa))])) τ
      refine XS.icmpNo X80.here hx rfl (Jvm.hb hby at_170) rfl (teq hj89).2 ?_
      show Steps p.tables e below (T80.setTop (mkF m 173 #[.val (.long i1), .second, .val (.long i2), .second, .val (.long s1), .second, .val (.long s2), .second, .val (.int wt), .val (.int fl), .val (.long sa), .second, .val (.long sb), .second, .val (.long j), .second, .val (.double (FP.i2d (wt &&& (65535 : Int32)))), .second, .val (.double (FP.i2d ((XT.ushr wt (16 : Int32)) &&& (65535 : Int32)))), .second, .val (.ref b1), .val (.ref b2), .val (.int (own_nw i1 sa j sb)), .val (.int (own_nw j sb i1 sa)), .val (.int ea), .val (.int eb)] [])) τ
      refine XS.iconst X80.here hx rfl (Jvm.hb hby at_173) ?_
      show Steps p.tables e below (T80.setTop (mkF m 174 #[.val (.long i1), .second, .val (.long i2), .second, .val (.long s1), .second, .val (.long s2), .second, .val (.int wt), .val (.int fl), .val (.long sa), .second, .val (.long sb), .second, .val (.long j), .second, .val (.double (FP.i2d (wt &&& (65535 : Int32)))), .second, .val (.double (FP.i2d ((XT.ushr wt (16 : Int32)) &&& (65535 : Int32)))), .second, .val (.ref b1), .val (.ref b2), .val (.int (own_nw i1 sa j sb)), .val (.int (own_nw j sb i1 sa)), .val (.int ea), .val (.int eb)] [(.int (1 : Int32))])) τ
      refine XS.goto X80.here hx rfl (pc0 := 174) (pc' := 178) rfl (Jvm.hb hby at_174) (by decide) (by decide) ?_
      exact kt)
    obtain ⟨fs, hrL, hrun, hended, hW, hsame⟩ := X80.leave (v := some (.int (1 : Int32))) (fun h => by rw [Bd.returns] at h; cases h)
    refine ⟨_, _, pre92 _ ?_, hrun, hended, _, _, rfl, ?_, ⟨_, rfl⟩, hW, hsame.mono (by decide) (by decide)⟩
    · show Steps p.tables e below (T80.setTop (mkF m 178 #[.val (.long i1), .second, .val (.long i2), .second, .val (.long s1), .second, .val (.long s2), .second, .val (.int wt), .val (.int fl), .val (.long sa), .second, .val (.long sb), .second, .val (.long j), .second, .val (.double (FP.i2d (wt &&& (65535 : Int32)))), .second, .val (.double (FP.i2d ((XT.ushr wt (16 : Int32)) &&& (65535 : Int32)))), .second, .val (.ref b1), .val (.ref b2), .val (.int (own_nw i1 sa j sb)), .val (.int (own_nw j sb i1 sa)), .val (.int ea), .val (.int eb)] [(.int (1 : Int32))])) _
      exact retN X80 hx (t := .boolean) Bd.returns (by simp) (Jvm.hb hby at_178) hrL
    · show Q0 n0 _ T80.heap _
      exact ⟨rfl, N80⟩
  · skip
    have hne : ¬ i1 = j := fun q => q1 (own_cmpL_eq.mpr q)
    have ha : own_nw i1 sa j sb = 1 := if_neg hne
    have hb : own_nw j sb i1 sa = 1 := if_neg (Ne.symm hne)
    have pre93 : ∀ τ, Steps p.tables e below (T80.setTop (mkF m 128 #[.val (.long i1), .second, .val (.long i2), .second, .val (.long s1), .second, .val (.long s2), .second, .val (.int wt), .val (.int fl), .val (.long sa), .second, .val (.long sb), .second, .val (.long j), .second, .val (.double (FP.i2d (wt &&& (65535 : Int32)))), .second, .val (.double (FP.i2d ((XT.ushr wt (16 : Int32)) &&& (65535 : Int32)))), .second, .val (.ref b1), .val (.ref b2), .val (.int (own_nw i1 sa j sb)), .val (.int (own_nw j sb i1 sa)), .unset, .unset] [(.int (1 : Int32))])) τ → Steps p.tables e below (s₁.setTop (entryFrame m #[(.long i1), (.long i2), (.long s1), (.long s2), (.int wt), (.int fl)] maxLocals)) τ := fun τ kt => pre83 τ (by
      show Steps p.tables e below (T80.setTop (mkF m 110 #[.val (.long i1), .second, .val (.long i2), .second, .val (.long s1), .second, .val (.long s2), .second, .val (.int wt), .val (.int fl), .val (.long sa), .second, .val (.long sb), .second, .val (.long j), .second, .val (.double (FP.i2d (wt &&& (65535 : Int32)))), .second, .val (.double (FP.i2d ((XT.ushr wt (16 : Int32)) &&& (65535 : Int32)))), .second, .val (.ref b1), .val (.ref b2), .val (.int (own_nw i1 sa j sb)), .val (.int (own_nw j sb i1 sa)), .unset, .unset] [(.int (XT.cmpL i1 j))])) τ
      refine XS.ifNo X80.here hx rfl (Jvm.hb hby at_110) rfl ((if0 _ _).trans (feq q1).1) ?_
      show Steps p.tables e below (T80.setTop (mkF m 113 #[.val (.long i1), .second, .val (.long i2), .second, .val (.long s1), .second, .val (.long s2), .second, .val (.int wt), .val (.int fl), .val (.long sa), .second, .val (.long sb), .second, .val (.long j), .second, .val (.double (FP.i2d (wt &&& (65535 : Int32)))), .second, .val (.double (FP.i2d ((XT.ushr wt (16 : Int32)) &&& (65535 : Int32)))), .second, .val (.ref b1), .val (.ref b2), .val (.int (own_nw i1 sa j sb)), .val (.int (own_nw j sb i1 sa)), .unset, .unset] [])) τ
      refine XS.iload X80.here hx rfl (Jvm.hb hby at_113) rfl ?_
      show Steps p.tables e below (T80.setTop (mkF m 115 #[.val (.long i1), .second, .val (.long i2), .second, .val (.long s1), .second, .val (.long s2), .second, .val (.int wt), .val (.int fl), .val (.long sa), .second, .val (.long sb), .second, .val (.long j), .second, .val (.double (FP.i2d (wt &&& (65535 : Int32)))), .second, .val (.double (FP.i2d ((XT.ushr wt (16 : Int32)) &&& (65535 : Int32)))), .second, .val (.ref b1), .val (.ref b2), .val (.int (own_nw i1 sa j sb)), .val (.int (own_nw j sb i1 sa)), .unset, .unset] [(.int (own_nw i1 sa j sb))])) τ
      refine XS.ifNo X80.here hx rfl (Jvm.hb hby at_115) rfl ((if0 _ _).trans (feq (by rw [ha]; decide)).1) ?_
      show Steps p.tables e below (T80.setTop (mkF m 118 #[.val (.long i1), .second, .val (.long i2), .second, .val (.long s1), .second, .val (.long s2), .second, .val (.int wt), .val (.int fl), .val (.long sa), .second, .val (.long sb), .second, .val (.long j), .second, .val (.double (FP.i2d (wt &&& (65535 : Int32)))), .second, .val (.double (FP.i2d ((XT.ushr wt (16 : Int32)) &&& (65535 : Int32)))), .second, .val (.ref b1), .val (.ref b2), .val (.int (own_nw i1 sa j sb)), .val (.int (own_nw j sb i1 sa)), .unset, .unset] [])) τ
      refine XS.iload X80.here hx rfl (Jvm.hb hby at_118) rfl ?_
      show Steps p.tables e below (T80.setTop (mkF m 120 #[.val (.long i1), .second, .val (.long i2), .second, .val (.long s1), .second, .val (.long s2), .second, .val (.int wt), .val (.int fl), .val (.long sa), .second, .val (.long sb), .second, .val (.long j), .second, .val (.double (FP.i2d (wt &&& (65535 : Int32)))), .second, .val (.double (FP.i2d ((XT.ushr wt (16 : Int32)) &&& (65535 : Int32)))), .second, .val (.ref b1), .val (.ref b2), .val (.int (own_nw i1 sa j sb)), .val (.int (own_nw j sb i1 sa)), .unset, .unset] [(.int (own_nw j sb i1 sa))])) τ
      refine XS.ifNo X80.here hx rfl (Jvm.hb hby at_120) rfl ((if0 _ _).trans (feq (by rw [hb]; decide)).1) ?_
      show Steps p.tables e below (T80.setTop (mkF m 123 #[.val (.long i1), .second, .val (.long i2), .second, .val (.long s1), .second, .val (.long s2), .second, .val (.int wt), .val (.int fl), .val (.long sa), .second, .val (.long sb), .second, .val (.long j), .second, .val (.double (FP.i2d (wt &&& (65535 : Int32)))), .second, .val (.double (FP.i2d ((XT.ushr wt (16 : Int32)) &&& (65535 : Int32)))), .second, .val (.ref b1), .val (.ref b2), .val (.int (own_nw i1 sa j sb)), .val (.int (own_nw j sb i1 sa)), .unset, .unset] [])) τ
      refine XS.iconst X80.here hx rfl (Jvm.hb hby at_123) ?_
      show Steps p.tables e below (T80.setTop (mkF m 124 #[.val (.long i1), .second, .val (.long i2), .second, .val (.long s1), .second, .val (.long s2), .second, .val (.int wt), .val (.int fl), .val (.long sa), .second, .val (.long sb), .second, .val (.long j), .second, .val (.double (FP.i2d (wt &&& (65535 : Int32)))), .second, .val (.double (FP.i2d ((XT.ushr wt (16 : Int32)) &&& (65535 : Int32)))), .second, .val (.ref b1), .val (.ref b2), .val (.int (own_nw i1 sa j sb)), .val (.int (own_nw j sb i1 sa)), .unset, .unset] [(.int (1 : Int32))])) τ
      refine XS.goto X80.here hx rfl (pc0 := 124) (pc' := 128) rfl (Jvm.hb hby at_124) (by decide) (by decide) ?_
      exact kt)
    obtain ⟨fs, hrL, hrun, hended, hW, hsame⟩ := X80.leave (v := some (.int (1 : Int32))) (fun h => by rw [Bd.returns] at h; cases h)
    refine ⟨_, _, pre93 _ ?_, hrun, hended, _, _, rfl, ?_, ⟨_, rfl⟩, hW, hsame.mono (by decide) (by decide)⟩
    · show Steps p.tables e below (T80.setTop (mkF m 128 #[.val (.long i1), .second, .val (.long i2), .second, .val (.long s1), .second, .val (.long s2), .second, .val (.int wt), .val (.int fl), .val (.long sa), .second, .val (.long sb), .second, .val (.long j), .second, .val (.double (FP.i2d (wt &&& (65535 : Int32)))), .second, .val (.double (FP.i2d ((XT.ushr wt (16 : Int32)) &&& (65535 : Int32)))), .second, .val (.ref b1), .val (.ref b2), .val (.int (own_nw i1 sa j sb)), .val (.int (own_nw j sb i1 sa)), .unset, .unset] [(.int (1 : Int32))])) _
      exact retN X80 hx (t := .boolean) Bd.returns (by simp) (Jvm.hb hby at_128) hrL
    · show Q0 n0 _ T80.heap _
      exact ⟨rfl, N80⟩
set_option maxRecDepth 65536 in
set_option maxHeartbeats 40000000 in
theorem comes_1 {Post : Tables → Env → Array Value → State → Outcome → State → Prop} (hpost : ∀ tb e args s v u, (limb_1_1.after args s (.returned v) u = true ∧ limb_1_2.after args s (.returned v) u = true ∧ True) → FrameEnd s (.returned v) u (Jvm.fieldLocs frame_1_writes args s ++ Jvm.arrayLocs frame_1_arrays args s ++ Jvm.staticLocs frame_1_statics s) 16 128 → Post tb e args s (.returned v) u) :
    ArmFor flags0 classFile x code maxLocals ret World_1 tables_1 room_1 Calls_1 rest_1 Pre_1 Post := by
  intro l hfl _ _ p e ha hc hk s m args below hf hA hF happ hP
  obtain ⟨hcalls, hrest, hpre⟩ := hP
  obtain ⟨-, -, -, hnamed, -, -, -, hat⟩ := (Spec.applies_iff hf).mp happ
  obtain ⟨hg, hn⟩ := and_e (Cond.before_iff.mp (show (Jvm.Cond.and given_1 narrow_1).before args s = true from hpre))
  obtain ⟨g1, g2⟩ := and_e hg
  obtain ⟨g3, g4⟩ := and_e g2
  obtain ⟨g5, g6⟩ := and_e g4
  obtain ⟨g7, g8⟩ := and_e g6
  obtain ⟨g9, g10⟩ := and_e g8
  obtain ⟨g11, g12⟩ := and_e g10
  obtain ⟨w0, w1, w2, w3, w4, w5, rfl⟩ : ∃ w0 w1 w2 w3 w4 w5 : Value, args = #[w0, w1, w2, w3, w4, w5] := by
    have hs : args.size = 6 := by simpa [Cond.value, given_1] using g1
    obtain ⟨L⟩ := args
    match L, hs with
    | [w0, w1, w2, w3, w4, w5], _ => exact ⟨w0, w1, w2, w3, w4, w5, rfl⟩
  have hw := fun d (hd : d ∈ tables_1) => atoms_spec (ws := Jvm.Cond.code x code maxLocals ret :: tables_1) hat d (List.mem_cons_of_mem _ hd)
  obtain ⟨i0, ei0⟩ := isL_v g3
  obtain rfl : w0 = (.long i0) := Option.some.inj ei0
  obtain ⟨i1, ei1⟩ := isL_v g5
  obtain rfl : w1 = (.long i1) := Option.some.inj ei1
  obtain ⟨i2, ei2⟩ := isL_v g7
  obtain rfl : w2 = (.long i2) := Option.some.inj ei2
  obtain ⟨i3, ei3⟩ := isL_v g9
  obtain rfl : w3 = (.long i3) := Option.some.inj ei3
  obtain ⟨i4, ei4⟩ := is_v g11
  obtain rfl : w4 = (.int i4) := Option.some.inj ei4
  obtain ⟨i5, ei5⟩ := is_v g12
  obtain rfl : w5 = (.int i5) := Option.some.inj ei5
  obtain ⟨n, o, h1, h2, h3, _, L, rfl, ⟨rfl, N⟩, hq⟩ := rm0 l s _ hw tables_1 i0 i1 i2 i3 i4 i5 s.heap s.heap.size (Nat.le_refl _) p e ha hc hk s m _ below hf ((Spec.applies_iff_loose hf).mp happ).1 ⟨rfl, State.Warmed39.refl s, rfl⟩ trivial
  refine ⟨n, _, h1, h2, h3, hpost _ _ _ _ _ _ ⟨Cond.after_iff.mpr rfl, Cond.after_iff.mpr (eq_i res_at (Term.int_eval (1)) rfl), trivial⟩ ⟨hq.1, hq.2.1, (hq.2.2.sift fun y hy => Or.inr (N y hy)).mono (by decide) (by decide)⟩⟩
theorem main_1_1 : Claimed_1_1 := comes_1 fun _ _ _ _ _ _ h hF => ⟨h.1, hF⟩
theorem main_1_2 : Claimed_1_2 := comes_1 fun _ _ _ _ _ _ h hF => ⟨h.2.1, hF⟩
end Jvm.Pilot.@@N@@
namespace Jvm.Pilot.@@N@@
open Jvm Jvm.ClassFile Sem Op Lib Jvm.Free Jvm.Stand Jvm.Pilot.@@N@@.Jvm.D
/-! MADE BY PROGRAM (witnessworld.py) out of the Statement's table words and the real class files: 16 classes; the members and pool entries that the words name. The judged class is class 1, her method 1. -/
namespace start1
open Jvm.ClassFile
def u (s : String) : CpInfo := .utf8 (stringToUtf16 s)
/-- a pool by its gaps: so many unusable entries, then the entry; so many at the end -/
def gap : Nat → List CpInfo → List CpInfo
  | 0, r => r
  | n + 1, r => .unusable :: gap n r
def poolList (es : List (Nat × CpInfo)) (last : Nat) : List CpInfo := es.foldr (fun e r => gap e.1 (e.2 :: r)) (gap last [])
def pool (es : List (Nat × CpInfo)) (last : Nat) : Array CpInfo := ⟨poolList es last⟩
def fileOf (pool : Array CpInfo) (this : Nat) (attrs : Array Attribute := #[]) (ms : Array MethodInfo := #[]) (fl : Nat := 33) (sup : Nat := 0) (ifs : Array Nat := #[]) (fds : Array FieldInfo := #[]) : ClassFile where
  minorVersion := 0
  majorVersion := 65
  constantPool := pool
  accessFlags := fl
  thisClass := this
  superClass := sup
  interfaces := ifs
  fields := fds
  methods := ms
  attributes := attrs
def plain (name : String) (sup : Option ClassId) : Class where
  name := name
  kind := .ordinary
  loader := none
  accessFlags := 33
  super := sup
  interfaces := #[]
  cf := none
  fields := #[]
  methods := #[]
  instanceTypes := #[]
  staticTypes := #[]
  resolved := #[]
  callSites := []
  init := .initialized
  statics := none
  mirror := none

def pool0 : Array CpInfo := pool [(5, u "<init>"), (0, u "()V"), (1, .class_ 10), (1, u "java/lang/Object")] 113

def k0c0 : Code := { maxStack := 0, maxLocals := 1, code := object_method_1_code, exceptionTable := #[], attributes := #[] }
def k0m0 : Method := { name := "<init>", desc := "()V", sig := { parameters := [], returnType := none }, accessFlags := 1, code := some k0c0 }
/-- java/lang/Object -/
def k0 : Class := { plain "java/lang/Object" none with
  accessFlags := 33
  interfaces := #[]
  cf := some (fileOf pool0 8 #[] #[{ accessFlags := 1, nameIndex := 5, descriptorIndex := 6, attributes := #[] }] 33 0 #[] #[])
  fields := #[]
  methods := #[k0m0]
  instanceTypes := #[]
  staticTypes := #[]
  resolved := Array.replicate 124 none
  statics := none }

def pool1 : Array CpInfo := pool [(2, .class_ 4), (1, u "java/lang/Object"), (0, u "<init>"), (0, u "()V"), (2, .long 9223372036854775807), (1, .integer 65535), (0, .class_ 13), (0, u "com/example/meter/meter/wire/WeightMessage"), (0, .methodref 12 15), (0, .nameAndType 5 16), (0, u "(JJD)V"), (0, .methodref 12 18), (0, .nameAndType 19 20), (0, u "newerThan"), (0, u "(Lcom/example/meter/meter/wire/WeightMessage;)Z"), (0, .class_ 22), (0, u "com/example/meter/meter/wire/WeightMessageNewerThanPinLaw"), (2, u "law"), (0, u "(JJJJII)Z")] 3

def k1m0 : Method := { name := "<init>", desc := "()V", sig := { parameters := [], returnType := none }, accessFlags := 2, code := none }
def k1c1 : Code := { maxStack := 8, maxLocals := 26, code := code, exceptionTable := #[], attributes := #[] }
def k1m1 : Method := { name := "law", desc := "(JJJJII)Z", sig := { parameters := [.long, .long, .long, .long, .int, .int], returnType := some .boolean }, accessFlags := 9, code := some k1c1 }
/-- com/example/meter/meter/wire/WeightMessageNewerThanPinLaw -/
def k1 : Class := { plain "com/example/meter/meter/wire/WeightMessageNewerThanPinLaw" (some 0) with
  accessFlags := 49
  interfaces := #[]
  cf := some (fileOf pool1 21 #[] #[{ accessFlags := 2, nameIndex := 5, descriptorIndex := 6, attributes := #[] }, { accessFlags := 9, nameIndex := 25, descriptorIndex := 26, attributes := #[] }] 49 2 #[] #[])
  fields := #[]
  methods := #[k1m0, k1m1]
  instanceTypes := #[]
  staticTypes := #[]
  resolved := Array.replicate 30 none
  statics := none }

def pool2 : Array CpInfo := pool [(1, .methodref 2 3), (0, .class_ 4), (0, .nameAndType 5 6), (0, u "java/lang/Object"), (0, u "<init>"), (0, u "()V"), (0, .class_ 8), (0, u "java/lang/Record")] 13

def k2c0 : Code := { maxStack := 1, maxLocals := 1, code := jdk_30_method_1_code, exceptionTable := #[], attributes := #[] }
def k2m0 : Method := { name := "<init>", desc := "()V", sig := { parameters := [], returnType := none }, accessFlags := 4, code := some k2c0 }
/-- java/lang/Record -/
def k2 : Class := { plain "java/lang/Record" (some 0) with
  accessFlags := 1057
  interfaces := #[]
  cf := some (fileOf pool2 7 #[] #[{ accessFlags := 4, nameIndex := 5, descriptorIndex := 6, attributes := #[] }] 1057 2 #[] #[])
  fields := #[]
  methods := #[k2m0]
  instanceTypes := #[]
  staticTypes := #[]
  resolved := Array.replicate 22 none
  statics := none }

def pool3 : Array CpInfo := pool [(3, .class_ 4), (0, u "java/lang/Double"), (0, .methodref 6 7), (0, .class_ 8), (0, .nameAndType 9 10), (0, u "java/lang/Record"), (0, u "<init>"), (0, u "()V"), (9, .methodref 3 21), (0, .nameAndType 22 23), (0, u "isFinite"), (0, u "(D)Z"), (3, .fieldref 28 29), (0, .class_ 30), (0, .nameAndType 31 32), (0, u "com/example/meter/meter/wire/WeightMessage"), (0, u "incarnation"), (0, u "J"), (0, .fieldref 28 34), (0, .nameAndType 35 32), (0, u "sequence"), (0, .fieldref 28 37), (0, .nameAndType 38 39), (0, u "weight"), (0, u "D"), (20, u "(JJD)V"), (32, u "FORMAT"), (0, u "B"), (2, u "SIZE"), (0, u "I"), (8, u "newerThan"), (0, u "(Lcom/example/meter/meter/wire/WeightMessage;)Z")] 35

def k3c0 : Code := { maxStack := 4, maxLocals := 7, code := prog_22_method_1_code, exceptionTable := #[], attributes := #[] }
def k3m0 : Method := { name := "<init>", desc := "(JJD)V", sig := { parameters := [.long, .long, .double], returnType := none }, accessFlags := 1, code := some k3c0 }
def k3c1 : Code := { maxStack := 4, maxLocals := 2, code := prog_22_method_4_code, exceptionTable := #[], attributes := #[] }
def k3m1 : Method := { name := "newerThan", desc := "(Lcom/example/meter/meter/wire/WeightMessage;)Z", sig := { parameters := [(.object "com/example/meter/meter/wire/WeightMessage")], returnType := some .boolean }, accessFlags := 1, code := some k3c1 }
/-- com/example/meter/meter/wire/WeightMessage -/
def k3 : Class := { plain "com/example/meter/meter/wire/WeightMessage" (some 2) with
  accessFlags := 49
  interfaces := #[]
  cf := some (fileOf pool3 28 #[] #[{ accessFlags := 1, nameIndex := 9, descriptorIndex := 60, attributes := #[] }, { accessFlags := 1, nameIndex := 107, descriptorIndex := 108, attributes := #[] }] 49 6 #[] #[{ accessFlags := 18, nameIndex := 31, descriptorIndex := 32, attributes := #[] }, { accessFlags := 18, nameIndex := 35, descriptorIndex := 32, attributes := #[] }, { accessFlags := 18, nameIndex := 38, descriptorIndex := 39, attributes := #[] }, { accessFlags := 25, nameIndex := 93, descriptorIndex := 94, attributes := #[] }, { accessFlags := 25, nameIndex := 97, descriptorIndex := 98, attributes := #[] }])
  fields := #[{ name := "incarnation", type := .long, accessFlags := 18, slot := 0, constantValue := 0 }, { name := "sequence", type := .long, accessFlags := 18, slot := 1, constantValue := 0 }, { name := "weight", type := .double, accessFlags := 18, slot := 2, constantValue := 0 }, { name := "FORMAT", type := .byte, accessFlags := 25, slot := 0, constantValue := 0 }, { name := "SIZE", type := .int, accessFlags := 25, slot := 1, constantValue := 0 }]
  methods := #[k3m0, k3m1]
  instanceTypes := #[.long, .long, .double]
  staticTypes := #[.byte, .int]
  resolved := Array.replicate 144 none
  statics := none }

def pool4 : Array CpInfo := pool [(1, .class_ 2), (0, u "java/io/Serializable"), (0, .class_ 4), (0, u "java/lang/Object")] 2

/-- java/io/Serializable -/
def k4 : Class := { plain "java/io/Serializable" (some 0) with
  accessFlags := 1537
  interfaces := #[]
  cf := some (fileOf pool4 1 #[] #[] 1537 3 #[] #[])
  fields := #[]
  methods := #[]
  instanceTypes := #[]
  staticTypes := #[]
  resolved := Array.replicate 7 none
  statics := none }

def pool5 : Array CpInfo := pool [(2, .class_ 4), (1, u "java/lang/Object"), (0, u "<init>"), (0, u "()V"), (1, .class_ 10), (1, u "java/lang/Number"), (2, .class_ 14), (0, u "java/io/Serializable"), (0, u "serialVersionUID"), (0, u "J")] 20

def k5m0 : Method := { name := "<init>", desc := "()V", sig := { parameters := [], returnType := none }, accessFlags := 1, code := none }
/-- java/lang/Number -/
def k5 : Class := { plain "java/lang/Number" (some 0) with
  accessFlags := 1057
  interfaces := #[4]
  cf := some (fileOf pool5 8 #[] #[{ accessFlags := 1, nameIndex := 5, descriptorIndex := 6, attributes := #[] }] 1057 2 #[13] #[{ accessFlags := 26, nameIndex := 15, descriptorIndex := 16, attributes := #[] }])
  fields := #[{ name := "serialVersionUID", type := .long, accessFlags := 26, slot := 0, constantValue := 0 }]
  methods := #[k5m0]
  instanceTypes := #[]
  staticTypes := #[.long]
  resolved := Array.replicate 37 none
  statics := none }

def pool6 : Array CpInfo := pool [(1, .class_ 2), (0, u "java/lang/Comparable"), (0, .class_ 4), (0, u "java/lang/Object")] 7

/-- java/lang/Comparable -/
def k6 : Class := { plain "java/lang/Comparable" (some 0) with
  accessFlags := 1537
  interfaces := #[]
  cf := some (fileOf pool6 1 #[] #[] 1537 3 #[] #[])
  fields := #[]
  methods := #[]
  instanceTypes := #[]
  staticTypes := #[]
  resolved := Array.replicate 12 none
  statics := none }

def pool7 : Array CpInfo := pool [(1, .class_ 2), (0, u "java/lang/constant/Constable"), (0, .class_ 4), (0, u "java/lang/Object")] 6

/-- java/lang/constant/Constable -/
def k7 : Class := { plain "java/lang/constant/Constable" (some 0) with
  accessFlags := 1537
  interfaces := #[]
  cf := some (fileOf pool7 1 #[] #[] 1537 3 #[] #[])
  fields := #[]
  methods := #[]
  instanceTypes := #[]
  staticTypes := #[]
  resolved := Array.replicate 11 none
  statics := none }

def pool8 : Array CpInfo := pool [(1, .class_ 2), (0, u "java/lang/constant/ConstantDesc"), (0, .class_ 4), (0, u "java/lang/Object")] 32

/-- java/lang/constant/ConstantDesc -/
def k8 : Class := { plain "java/lang/constant/ConstantDesc" (some 0) with
  accessFlags := 1537
  interfaces := #[]
  cf := some (fileOf pool8 1 #[] #[] 1537 3 #[] #[])
  fields := #[]
  methods := #[]
  instanceTypes := #[]
  staticTypes := #[]
  resolved := Array.replicate 37 none
  statics := none }

def pool9 : Array CpInfo := pool [(1, .class_ 2), (0, u "java/lang/Double"), (10, u "isFinite"), (0, u "(D)Z"), (8, .class_ 25), (1, u "java/lang/Math"), (12, .methodref 23 39), (0, .nameAndType 40 41), (0, u "abs"), (0, u "(D)D"), (69, .double 9218868437227405311), (2, .class_ 116), (1, u "java/lang/Number"), (3, u "value"), (0, u "D"), (51, u "TYPE"), (0, u "Ljava/lang/Class;"), (0, .class_ 176), (0, u "java/lang/Comparable"), (0, .class_ 178), (0, u "java/lang/constant/Constable"), (0, .class_ 180), (0, u "java/lang/constant/ConstantDesc"), (0, u "POSITIVE_INFINITY"), (3, u "NEGATIVE_INFINITY"), (2, u "NaN"), (2, u "MAX_VALUE"), (0, u "MIN_NORMAL"), (0, u "MIN_VALUE"), (2, u "SIZE"), (0, u "I"), (1, u "PRECISION"), (1, u "MAX_EXPONENT"), (1, u "MIN_EXPONENT"), (1, u "BYTES"), (3, u "serialVersionUID"), (0, u "J")] 79

def k9c0 : Code := { maxStack := 4, maxLocals := 2, code := jdk_117_method_8_code, exceptionTable := #[], attributes := #[] }
def k9m0 : Method := { name := "isFinite", desc := "(D)Z", sig := { parameters := [.double], returnType := some .boolean }, accessFlags := 9, code := some k9c0 }
/-- java/lang/Double -/
def k9 : Class := { plain "java/lang/Double" (some 5) with
  accessFlags := 49
  interfaces := #[6, 7, 8]
  cf := some (fileOf pool9 1 #[] #[{ accessFlags := 9, nameIndex := 13, descriptorIndex := 14, attributes := #[] }] 49 114 #[175, 177, 179] #[{ accessFlags := 25, nameIndex := 181, descriptorIndex := 121, attributes := #[] }, { accessFlags := 25, nameIndex := 185, descriptorIndex := 121, attributes := #[] }, { accessFlags := 25, nameIndex := 188, descriptorIndex := 121, attributes := #[] }, { accessFlags := 25, nameIndex := 191, descriptorIndex := 121, attributes := #[] }, { accessFlags := 25, nameIndex := 192, descriptorIndex := 121, attributes := #[] }, { accessFlags := 25, nameIndex := 193, descriptorIndex := 121, attributes := #[] }, { accessFlags := 25, nameIndex := 196, descriptorIndex := 197, attributes := #[] }, { accessFlags := 25, nameIndex := 199, descriptorIndex := 197, attributes := #[] }, { accessFlags := 25, nameIndex := 201, descriptorIndex := 197, attributes := #[] }, { accessFlags := 25, nameIndex := 203, descriptorIndex := 197, attributes := #[] }, { accessFlags := 25, nameIndex := 205, descriptorIndex := 197, attributes := #[] }, { accessFlags := 25, nameIndex := 173, descriptorIndex := 174, attributes := #[] }, { accessFlags := 18, nameIndex := 120, descriptorIndex := 121, attributes := #[] }, { accessFlags := 26, nameIndex := 209, descriptorIndex := 210, attributes := #[] }])
  fields := #[{ name := "POSITIVE_INFINITY", type := .double, accessFlags := 25, slot := 0, constantValue := 0 }, { name := "NEGATIVE_INFINITY", type := .double, accessFlags := 25, slot := 1, constantValue := 0 }, { name := "NaN", type := .double, accessFlags := 25, slot := 2, constantValue := 0 }, { name := "MAX_VALUE", type := .double, accessFlags := 25, slot := 3, constantValue := 0 }, { name := "MIN_NORMAL", type := .double, accessFlags := 25, slot := 4, constantValue := 0 }, { name := "MIN_VALUE", type := .double, accessFlags := 25, slot := 5, constantValue := 0 }, { name := "SIZE", type := .int, accessFlags := 25, slot := 6, constantValue := 0 }, { name := "PRECISION", type := .int, accessFlags := 25, slot := 7, constantValue := 0 }, { name := "MAX_EXPONENT", type := .int, accessFlags := 25, slot := 8, constantValue := 0 }, { name := "MIN_EXPONENT", type := .int, accessFlags := 25, slot := 9, constantValue := 0 }, { name := "BYTES", type := .int, accessFlags := 25, slot := 10, constantValue := 0 }, { name := "TYPE", type := (.object "java/lang/Class"), accessFlags := 25, slot := 11, constantValue := 0 }, { name := "value", type := .double, accessFlags := 18, slot := 0, constantValue := 0 }, { name := "serialVersionUID", type := .long, accessFlags := 26, slot := 12, constantValue := 0 }]
  methods := #[k9m0]
  instanceTypes := #[.double]
  staticTypes := #[.double, .double, .double, .double, .double, .double, .int, .int, .int, .int, .int, (.object "java/lang/Class"), .long]
  resolved := Array.replicate 290 none
  statics := none }

def pool10 : Array CpInfo := pool [(1, .class_ 2), (0, u "java/lang/Math"), (1, .class_ 6), (1, u "java/lang/Object"), (0, u "<init>"), (0, u "()V"), (5, u "(D)D"), (83, .class_ 100), (1, u "java/lang/Math$RandomNumberGeneratorHolder"), (23, u "abs"), (47, u "negativeZeroFloatBits"), (0, u "J"), (2, u "negativeZeroDoubleBits"), (68, u "$assertionsDisabled"), (0, u "Z"), (91, u "twoToTheDoubleScaleDown"), (0, u "D"), (4, u "twoToTheDoubleScaleUp"), (9, u "E"), (3, u "PI"), (2, u "TAU"), (2, u "DEGREES_TO_RADIANS"), (0, u "RADIANS_TO_DEGREES")] 94

def k10m0 : Method := { name := "<init>", desc := "()V", sig := { parameters := [], returnType := none }, accessFlags := 2, code := none }
def k10c1 : Code := { maxStack := 4, maxLocals := 2, code := jdk_29_method_64_code, exceptionTable := #[], attributes := #[] }
def k10m1 : Method := { name := "abs", desc := "(D)D", sig := { parameters := [.double], returnType := some .double }, accessFlags := 9, code := some k10c1 }
/-- java/lang/Math -/
def k10 : Class := { plain "java/lang/Math" (some 0) with
  accessFlags := 49
  interfaces := #[]
  cf := some (fileOf pool10 1 #[.nestMembers #[98]] #[{ accessFlags := 2, nameIndex := 7, descriptorIndex := 8, attributes := #[] }, { accessFlags := 9, nameIndex := 124, descriptorIndex := 14, attributes := #[] }] 49 4 #[] #[{ accessFlags := 25, nameIndex := 354, descriptorIndex := 339, attributes := #[] }, { accessFlags := 25, nameIndex := 358, descriptorIndex := 339, attributes := #[] }, { accessFlags := 25, nameIndex := 361, descriptorIndex := 339, attributes := #[] }, { accessFlags := 26, nameIndex := 364, descriptorIndex := 339, attributes := #[] }, { accessFlags := 26, nameIndex := 365, descriptorIndex := 339, attributes := #[] }, { accessFlags := 26, nameIndex := 172, descriptorIndex := 173, attributes := #[] }, { accessFlags := 26, nameIndex := 176, descriptorIndex := 173, attributes := #[] }, { accessFlags := 8, nameIndex := 344, descriptorIndex := 339, attributes := #[] }, { accessFlags := 8, nameIndex := 338, descriptorIndex := 339, attributes := #[] }, { accessFlags := 4120, nameIndex := 245, descriptorIndex := 246, attributes := #[] }])
  fields := #[{ name := "E", type := .double, accessFlags := 25, slot := 0, constantValue := 0 }, { name := "PI", type := .double, accessFlags := 25, slot := 1, constantValue := 0 }, { name := "TAU", type := .double, accessFlags := 25, slot := 2, constantValue := 0 }, { name := "DEGREES_TO_RADIANS", type := .double, accessFlags := 26, slot := 3, constantValue := 0 }, { name := "RADIANS_TO_DEGREES", type := .double, accessFlags := 26, slot := 4, constantValue := 0 }, { name := "negativeZeroFloatBits", type := .long, accessFlags := 26, slot := 5, constantValue := 0 }, { name := "negativeZeroDoubleBits", type := .long, accessFlags := 26, slot := 6, constantValue := 0 }, { name := "twoToTheDoubleScaleUp", type := .double, accessFlags := 8, slot := 7, constantValue := 0 }, { name := "twoToTheDoubleScaleDown", type := .double, accessFlags := 8, slot := 8, constantValue := 0 }, { name := "$assertionsDisabled", type := .boolean, accessFlags := 4120, slot := 9, constantValue := 0 }]
  methods := #[k10m0, k10m1]
  instanceTypes := #[]
  staticTypes := #[.double, .double, .double, .double, .double, .long, .long, .double, .double, .boolean]
  resolved := Array.replicate 460 none
  statics := none }

def pool11 : Array CpInfo := pool [(1, u "java/lang/Cloneable"), (0, .class_ 1), (0, u "java/lang/Object"), (0, .class_ 3)] 3

/-- java/lang/Cloneable -/
def k11 : Class := { plain "java/lang/Cloneable" (some 0) with
  accessFlags := 1537
  interfaces := #[]
  cf := some (fileOf pool11 2 #[] #[] 1537 4 #[] #[])
  fields := #[]
  methods := #[]
  instanceTypes := #[]
  staticTypes := #[]
  resolved := Array.replicate 8 none
  statics := none }

/-- the primitive byte -/
def k12 : Class := { plain "byte" none with kind := .primitive 'B', accessFlags := 0x411 }
/-- [B -/
def k13 : Class := { plain "[B" (some 0) with kind := .array 12 .byte, interfaces := #[11, 4], accessFlags := 1041 }

/-- the primitive int -/
def k14 : Class := { plain "int" none with kind := .primitive 'I', accessFlags := 0x411 }
/-- [I -/
def k15 : Class := { plain "[I" (some 0) with kind := .array 14 .int, interfaces := #[11, 4], accessFlags := 1041 }

def heap : Heap := #[]
def classes : Array Class := #[k0, k1, k2, k3, k4, k5, k6, k7, k8, k9, k10, k11, k12, k13, k14, k15]
def interned : List (Array UInt16 × Addr) := []
def slotsUsed : Nat := 0
def theMethod : MethodId := ⟨1, 1⟩
def args0 : Array Value := #[.long 5, .long 7, .long 1, .long 2, .int 3, .int 4]
def aboutOver (below : List Frame) : State where
  vm := { classes := classes, interned := interned.toArray }
  heap := heap
  slotsUsed := slotsUsed
  threads := #[{ frames := .invoking theMethod args0 :: below }]
def below0 : List Frame := [.native { method := ⟨0, 0⟩, args := #[] }]
def about1 : State := aboutOver below0
def p0 : Program := .bare "" "" ""
def e0 : Env := launch0.env 0 0 0
theorem w_frames : about1.frames = Frame.invoking theMethod args0 :: below0 := rfl
set_option maxRecDepth 65536 in
theorem w_args : argsFit about1.vm theMethod args0 = true := by decide +kernel
set_option maxRecDepth 65536 in
theorem w_heap : heapFits about1 = true := by decide +kernel
set_option maxRecDepth 65536 in
theorem w_runnable : about1.curStatus? = some .runnable := by decide +kernel
set_option maxRecDepth 65536 in
theorem w_alone : about1.alone = true := by decide +kernel
set_option maxRecDepth 65536 in
theorem w_named : about1.methodNamed? x = some theMethod := by decide +kernel
set_option maxRecDepth 65536 in
theorem w_hears : about1.hears theMethod below0 = true := by decide +kernel
set_option maxRecDepth 65536 in
theorem w_ripe : about1.ripe theMethod args0 below0 = true := by decide +kernel
theorem w_running : about1.status = .running := rfl
set_option maxRecDepth 65536 in
theorem w_room : about1.hasRoom e0.platform room_1 = true :=
  launch0.hasRoom_least _ room_1 (by decide +kernel) (by decide +kernel) (by decide +kernel) (by decide +kernel) (by decide +kernel) (by decide +kernel)
theorem allAtoms_all (ts : List Jvm.Cond) (a : Array Jvm.Value) (st : Jvm.State) : (allAtoms ts).before a st = ts.all (fun c => c.before a st) := by
  induction ts with
  | nil => rfl
  | cons c t ih =>
    show (Jvm.Cond.and c (allAtoms t)).before a st = _
    rw [Jvm.Cond.before_and, ih, List.all_cons]
def words1 : List Jvm.Cond := Jvm.Cond.code x code maxLocals ret :: tables_1
/-- a 'code' word, met by the world's own term for the bytes: nothing is compared byte by byte -/
theorem code_word {y : MethodName} {bytes : ByteArray} {mx : Nat} {rt : Option FieldType} {a : Array Value} {s : State} {m : MethodId} {meth : Method} {c : Code} (h1 : s.methodNamed? y = some m) (h2 : s.vm.method? m = some meth) (h3 : meth.code = some c) (h4 : c.code = bytes)
    (h5 : (c.maxLocals == mx && c.exceptionTable.isEmpty && decide (c.maxStack ≤ mostOperands) && decide (meth.sig.returnType = rt) && !meth.locks && decide (parseMethodDescriptor y.desc = some meth.sig)) = true) : (Jvm.Cond.code y bytes mx rt).before a s = true := by
  simp only [Bool.and_eq_true, beq_iff_eq, Bool.not_eq_true', decide_eq_true_eq] at h5
  obtain ⟨⟨⟨⟨⟨g1, g2⟩, g3⟩, g4⟩, g5⟩, g6⟩ := h5
  simp [Cond.before, Cond.holds, Cond.value, h1, h2, h3, h4, g1, g2, g3, g4, g5, g6]
def isCode : Jvm.Cond → Bool
  | .code _ _ _ _ => true
  | _ => false
theorem all_split {L : List Jvm.Cond} {P : Jvm.Cond → Bool} (h1 : L.all (fun c => isCode c || P c) = true) (h2 : ∀ c ∈ L.filter isCode, P c = true) : L.all P = true := by
  refine List.all_eq_true.mpr fun c hc => ?_
  have h := List.all_eq_true.mp h1 c hc
  rcases Bool.eq_false_or_eq_true (isCode c) with hi | hi
  · exact h2 c (List.mem_filter.mpr ⟨hc, hi⟩)
  · simpa [hi] using h
set_option maxRecDepth 65536 in
theorem w_c0 : (Jvm.Cond.code x code maxLocals ret).before args0 about1 = true := code_word (m := ⟨1, 1⟩) (meth := k1m1) (c := k1c1) (by decide +kernel) rfl rfl rfl (by decide +kernel)
set_option maxRecDepth 65536 in
theorem w_c1 : (Jvm.Cond.code ({ cls := "com/example/meter/meter/wire/WeightMessage", name := "<init>", desc := "(JJD)V" } : Jvm.MethodName) prog_22_method_1_code (7 : Nat) (Option.none : Option Jvm.ClassFile.FieldType)).before args0 about1 = true := code_word (m := ⟨3, 0⟩) (meth := k3m0) (c := k3c0) (by decide +kernel) rfl rfl rfl (by decide +kernel)
set_option maxRecDepth 65536 in
theorem w_c2 : (Jvm.Cond.code ({ cls := "java/lang/Record", name := "<init>", desc := "()V" } : Jvm.MethodName) jdk_30_method_1_code (1 : Nat) (Option.none : Option Jvm.ClassFile.FieldType)).before args0 about1 = true := code_word (m := ⟨2, 0⟩) (meth := k2m0) (c := k2c0) (by decide +kernel) rfl rfl rfl (by decide +kernel)
set_option maxRecDepth 65536 in
theorem w_c3 : (Jvm.Cond.code ({ cls := "java/lang/Object", name := "<init>", desc := "()V" } : Jvm.MethodName) object_method_1_code (1 : Nat) (Option.none : Option Jvm.ClassFile.FieldType)).before args0 about1 = true := code_word (m := ⟨0, 0⟩) (meth := k0m0) (c := k0c0) (by decide +kernel) rfl rfl rfl (by decide +kernel)
set_option maxRecDepth 65536 in
theorem w_c4 : (Jvm.Cond.code ({ cls := "java/lang/Double", name := "isFinite", desc := "(D)Z" } : Jvm.MethodName) jdk_117_method_8_code (2 : Nat) (Option.some Jvm.ClassFile.FieldType.boolean)).before args0 about1 = true := code_word (m := ⟨9, 0⟩) (meth := k9m0) (c := k9c0) (by decide +kernel) rfl rfl rfl (by decide +kernel)
set_option maxRecDepth 65536 in
theorem w_c5 : (Jvm.Cond.code ({ cls := "java/lang/Math", name := "abs", desc := "(D)D" } : Jvm.MethodName) jdk_29_method_64_code (2 : Nat) (Option.some Jvm.ClassFile.FieldType.double)).before args0 about1 = true := code_word (m := ⟨10, 1⟩) (meth := k10m1) (c := k10c1) (by decide +kernel) rfl rfl rfl (by decide +kernel)
set_option maxRecDepth 65536 in
theorem w_c6 : (Jvm.Cond.code ({ cls := "com/example/meter/meter/wire/WeightMessage", name := "newerThan", desc := "(Lcom/example/meter/meter/wire/WeightMessage;)Z" } : Jvm.MethodName) prog_22_method_4_code (2 : Nat) (Option.some Jvm.ClassFile.FieldType.boolean)).before args0 about1 = true := code_word (m := ⟨3, 1⟩) (meth := k3m1) (c := k3c1) (by decide +kernel) rfl rfl rfl (by decide +kernel)
def codes1 : List Jvm.Cond := [Jvm.Cond.code x code maxLocals ret, Jvm.Cond.code ({ cls := "com/example/meter/meter/wire/WeightMessage", name := "<init>", desc := "(JJD)V" } : Jvm.MethodName) prog_22_method_1_code (7 : Nat) (Option.none : Option Jvm.ClassFile.FieldType), Jvm.Cond.code ({ cls := "java/lang/Record", name := "<init>", desc := "()V" } : Jvm.MethodName) jdk_30_method_1_code (1 : Nat) (Option.none : Option Jvm.ClassFile.FieldType), Jvm.Cond.code ({ cls := "java/lang/Object", name := "<init>", desc := "()V" } : Jvm.MethodName) object_method_1_code (1 : Nat) (Option.none : Option Jvm.ClassFile.FieldType), Jvm.Cond.code ({ cls := "java/lang/Double", name := "isFinite", desc := "(D)Z" } : Jvm.MethodName) jdk_117_method_8_code (2 : Nat) (Option.some Jvm.ClassFile.FieldType.boolean), Jvm.Cond.code ({ cls := "java/lang/Math", name := "abs", desc := "(D)D" } : Jvm.MethodName) jdk_29_method_64_code (2 : Nat) (Option.some Jvm.ClassFile.FieldType.double), Jvm.Cond.code ({ cls := "com/example/meter/meter/wire/WeightMessage", name := "newerThan", desc := "(Lcom/example/meter/meter/wire/WeightMessage;)Z" } : Jvm.MethodName) prog_22_method_4_code (2 : Nat) (Option.some Jvm.ClassFile.FieldType.boolean)]
set_option maxRecDepth 65536 in
theorem codes_eq : words1.filter isCode = codes1 := rfl
theorem w_codes : ∀ c ∈ words1.filter isCode, c.before args0 about1 = true := by
  rw [codes_eq]
  intro c hc
  simp only [codes1, List.mem_cons, List.not_mem_nil, or_false] at hc
  rcases hc with rfl | rfl | rfl | rfl | rfl | rfl | rfl
  · exact w_c0
  · exact w_c1
  · exact w_c2
  · exact w_c3
  · exact w_c4
  · exact w_c5
  · exact w_c6
set_option maxRecDepth 65536 in
theorem w_t1 : (words1.take 24).all (fun c => isCode c || c.before args0 about1) = true := by decide +kernel
set_option maxRecDepth 65536 in
theorem w_t2 : (words1.drop 24).all (fun c => isCode c || c.before args0 about1) = true := by decide +kernel
theorem w_tables : (allAtoms (Jvm.Cond.code x code maxLocals ret :: tables_1)).before args0 about1 = true := by
  rw [allAtoms_all]
  show words1.all (fun c => c.before args0 about1) = true
  refine all_split ?_ w_codes
  rw [← List.take_append_drop 24 words1, List.all_append, w_t1, w_t2]
  rfl
set_option maxRecDepth 65536 in
theorem w_case : (Jvm.Cond.and given_1 narrow_1).before args0 about1 = true := by decide +kernel
theorem w_applies : (headSpec (Jvm.Cond.code x code maxLocals ret :: tables_1) room_1).applies x e0.platform about1 = true :=
  (Spec.applies_iff w_frames).mpr ⟨w_running, w_runnable, w_alone, w_named, w_hears, w_ripe, w_room, w_tables⟩
theorem atStart : AtStart classFile x code maxLocals ret World_1 tables_1 room_1 Calls_1 rest_1 Pre_1 launch0 p0 e0 about1 theMethod args0 below0 :=
  ⟨lists_1, trivial, launch0.admits_env _ _ _, launch0.least_env, fairChoices_fair.cas, fairChoices_fair.clock, w_frames, w_args, w_heap, w_applies, trivial, trivial, w_case⟩
end start1
theorem witness_1 : WitnessClaimed_1 := ⟨start1.p0, start1.e0, start1.about1, start1.theMethod, start1.args0, start1.below0, start1.atStart⟩
end Jvm.Pilot.@@N@@
