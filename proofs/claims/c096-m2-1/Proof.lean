import JvmDerived
import JvmDerived.Pilot.@@N@@Statement
import JvmDerived.Pilot.@@N@@Code
set_option linter.unusedVariables false
set_option linter.unusedSimpArgs false
namespace Jvm.RoadKit
open Sem ClassFile Op Lib Jvm.Stand Jvm.Free Jvm.LawKit
section New
variable {p : Program} {l : Launch} {e : Env} {R : Room} {s : State} {m : MethodId} {args : Array Value} {below : List Frame} {meth : Method} {c : Code} {T : State} {locs : List Loc} {cells slots : Nat}
theorem retI (X : Stand p l e R s m args below meth c T locs cells slots) (hx : p.tables.exec = Jvm.exec) {pc : Nat} {Ls : Array Slot} {z : Int32} {rest : List Value} (hret : meth.sig.returnType = some .int) (hd : decode c.code pc = .ok (.ireturn, 1)) {fs : List Frame}
    (hl : ∀ (f : JFrame) (acts : List Action), f.method = m → f.locked = none → f.entered = [] → (doReturn e (T.setTop f) acts (some (.int z))).1 = T.setFrames fs) : Steps p.tables e below (T.setTop (mkF m pc Ls (.int z :: rest))) (T.setFrames fs) :=
  retOut X hx hret rfl (Or.inl ⟨rfl, Or.inl rfl, z, rfl⟩) hd hl
end New
end Jvm.RoadKit
namespace Jvm.Pilot.@@N@@
open Jvm Jvm.ClassFile Sem Op Lib Jvm.Free Jvm.Stand Jvm.LawKit Jvm.RoadKit Bundle Jvm.Pilot.@@N@@.Jvm.D
theorem own_dloadN {tb : Tables} [Ours tb] {e : Env} {below : List Frame} {T target : State} {m : MethodId} {c : Code} {g : JFrame} (h : At T m c below) (hx : tb.exec = Jvm.exec) (hg : g.method = m) {k : Fin 4} {v : UInt64} (hd : decode c.code g.pc = .ok (.dload_n k, 1)) (hl : g.locals[k.val]? = some (.val (.double v)))
    (hr : Steps tb e below (T.setTop { g with pc := g.pc + 1, stack := .double v :: g.stack }) target) : Steps tb e below (T.setTop g) target := by
  subst hg
  jvm_step h [h.top, hx, hd, hl]
  exact hr
theorem own_dload {tb : Tables} [Ours tb] {e : Env} {below : List Frame} {T target : State} {m : MethodId} {c : Code} {g : JFrame} (h : At T m c below) (hx : tb.exec = Jvm.exec) (hg : g.method = m) {k : Nat} {v : UInt64} (hd : decode c.code g.pc = .ok (.dload k, 2)) (hl : g.locals[k]? = some (.val (.double v)))
    (hr : Steps tb e below (T.setTop { g with pc := g.pc + 2, stack := .double v :: g.stack }) target) : Steps tb e below (T.setTop g) target := by
  subst hg
  jvm_step h [h.top, hx, hd, hl]
  exact hr
theorem own_dstoreN {tb : Tables} [Ours tb] {e : Env} {below : List Frame} {T target : State} {m : MethodId} {c : Code} {g : JFrame} (h : At T m c below) (hx : tb.exec = Jvm.exec) (hg : g.method = m) {k : Fin 4} {x : UInt64} {rest : List Value} {l' : Array Slot} (hd : decode c.code g.pc = .ok (.dstore_n k, 1)) (hs : g.stack = .double x :: rest) (hl : storeLocals g.locals k.val (.double x) = some l')
    (hr : Steps tb e below (T.setTop { g with pc := g.pc + 1, stack := rest, locals := l' }) target) : Steps tb e below (T.setTop g) target := by
  subst hg
  jvm_step h [h.top, hx, hd, hs, hl]
  exact hr
theorem own_dstore {tb : Tables} [Ours tb] {e : Env} {below : List Frame} {T target : State} {m : MethodId} {c : Code} {g : JFrame} (h : At T m c below) (hx : tb.exec = Jvm.exec) (hg : g.method = m) {k : Nat} {x : UInt64} {rest : List Value} {l' : Array Slot} (hd : decode c.code g.pc = .ok (.dstore k, 2)) (hs : g.stack = .double x :: rest) (hl : storeLocals g.locals k (.double x) = some l')
    (hr : Steps tb e below (T.setTop { g with pc := g.pc + 2, stack := rest, locals := l' }) target) : Steps tb e below (T.setTop g) target := by
  subst hg
  jvm_step h [h.top, hx, hd, hs, hl]
  exact hr
theorem own_dconst0 {tb : Tables} [Ours tb] {e : Env} {below : List Frame} {T target : State} {m : MethodId} {c : Code} {g : JFrame} (h : At T m c below) (hx : tb.exec = Jvm.exec) (hg : g.method = m) (hd : decode c.code g.pc = .ok (.dconst 0, 1))
    (hr : Steps tb e below (T.setTop { g with pc := g.pc + 1, stack := .double FP.dconst0 :: g.stack }) target) : Steps tb e below (T.setTop g) target := by
  subst hg
  jvm_step h [h.top, hx, hd]
  exact hr
theorem own_dconst1 {tb : Tables} [Ours tb] {e : Env} {below : List Frame} {T target : State} {m : MethodId} {c : Code} {g : JFrame} (h : At T m c below) (hx : tb.exec = Jvm.exec) (hg : g.method = m) (hd : decode c.code g.pc = .ok (.dconst 1, 1))
    (hr : Steps tb e below (T.setTop { g with pc := g.pc + 1, stack := .double FP.dconst1 :: g.stack }) target) : Steps tb e below (T.setTop g) target := by
  subst hg
  jvm_step h [h.top, hx, hd]
  exact hr
theorem own_i2d {tb : Tables} [Ours tb] {e : Env} {below : List Frame} {T target : State} {m : MethodId} {c : Code} {g : JFrame} (h : At T m c below) (hx : tb.exec = Jvm.exec) (hg : g.method = m) {x : Int32} {rest : List Value} (hd : decode c.code g.pc = .ok (.i2d, 1)) (hs : g.stack = .int x :: rest)
    (hr : Steps tb e below (T.setTop { g with pc := g.pc + 1, stack := .double (FP.i2d x) :: rest }) target) : Steps tb e below (T.setTop g) target := by
  subst hg
  jvm_step h [h.top, hx, hd, hs]
  exact hr
theorem own_l2d {tb : Tables} [Ours tb] {e : Env} {below : List Frame} {T target : State} {m : MethodId} {c : Code} {g : JFrame} (h : At T m c below) (hx : tb.exec = Jvm.exec) (hg : g.method = m) {x : Int64} {rest : List Value} (hd : decode c.code g.pc = .ok (.l2d, 1)) (hs : g.stack = .long x :: rest)
    (hr : Steps tb e below (T.setTop { g with pc := g.pc + 1, stack := .double (FP.l2d x) :: rest }) target) : Steps tb e below (T.setTop g) target := by
  subst hg
  jvm_step h [h.top, hx, hd, hs]
  exact hr
theorem own_d2l {tb : Tables} [Ours tb] {e : Env} {below : List Frame} {T target : State} {m : MethodId} {c : Code} {g : JFrame} (h : At T m c below) (hx : tb.exec = Jvm.exec) (hg : g.method = m) {x : UInt64} {rest : List Value} (hd : decode c.code g.pc = .ok (.d2l, 1)) (hs : g.stack = .double x :: rest)
    (hr : Steps tb e below (T.setTop { g with pc := g.pc + 1, stack := .long (FP.d2l x) :: rest }) target) : Steps tb e below (T.setTop g) target := by
  subst hg
  jvm_step h [h.top, hx, hd, hs]
  exact hr
theorem own_d2i {tb : Tables} [Ours tb] {e : Env} {below : List Frame} {T target : State} {m : MethodId} {c : Code} {g : JFrame} (h : At T m c below) (hx : tb.exec = Jvm.exec) (hg : g.method = m) {x : UInt64} {rest : List Value} (hd : decode c.code g.pc = .ok (.d2i, 1)) (hs : g.stack = .double x :: rest)
    (hr : Steps tb e below (T.setTop { g with pc := g.pc + 1, stack := .int (FP.d2i x) :: rest }) target) : Steps tb e below (T.setTop g) target := by
  subst hg
  jvm_step h [h.top, hx, hd, hs]
  exact hr
theorem own_dneg {tb : Tables} [Ours tb] {e : Env} {below : List Frame} {T target : State} {m : MethodId} {c : Code} {g : JFrame} (h : At T m c below) (hx : tb.exec = Jvm.exec) (hg : g.method = m) {x : UInt64} {rest : List Value} (hd : decode c.code g.pc = .ok (.dneg, 1)) (hs : g.stack = .double x :: rest)
    (hr : Steps tb e below (T.setTop { g with pc := g.pc + 1, stack := .double (FP.dneg x) :: rest }) target) : Steps tb e below (T.setTop g) target := by
  subst hg
  jvm_step h [h.top, hx, hd, hs]
  exact hr
theorem own_dcmp {tb : Tables} [Ours tb] {e : Env} {below : List Frame} {T target : State} {m : MethodId} {c : Code} {g : JFrame} (h : At T m c below) (hx : tb.exec = Jvm.exec) (hg : g.method = m) {op : CmpOp} {x y : UInt64} {rest : List Value} (hd : decode c.code g.pc = .ok (.dcmp op, 1)) (hs : g.stack = .double y :: .double x :: rest)
    (hr : Steps tb e below (T.setTop { g with pc := g.pc + 1, stack := .int (cmpValue (FP.dcmp x y) op) :: rest }) target) : Steps tb e below (T.setTop g) target := by
  subst hg
  jvm_step h [h.top, hx, hd, hs]
  exact hr
theorem own_dadd {tb : Tables} [Ours tb] {e : Env} {below : List Frame} {T target : State} {m : MethodId} {c : Code} {g : JFrame} (h : At T m c below) (hx : tb.exec = Jvm.exec) (hg : g.method = m) {x y : UInt64} {rest : List Value} (hd : decode c.code g.pc = .ok (.dadd, 1)) (hs : g.stack = .double y :: .double x :: rest) (hn : Jvm.Free.Fl.NoNaN64 (FP.dadd x y))
    (hr : Steps tb e below (T.setTop { g with pc := g.pc + 1, stack := .double (FP.dadd x y) :: rest }) target) : Steps tb e below (T.setTop g) target := by
  obtain ⟨gm, gpc, gl, gs, glk, gen, gmr⟩ := g
  subst hg
  dsimp only at hs
  subst hs
  jvm_step h [hx, hd, Op.dadd.at_number h.top hn]
  exact hr
theorem own_dsub {tb : Tables} [Ours tb] {e : Env} {below : List Frame} {T target : State} {m : MethodId} {c : Code} {g : JFrame} (h : At T m c below) (hx : tb.exec = Jvm.exec) (hg : g.method = m) {x y : UInt64} {rest : List Value} (hd : decode c.code g.pc = .ok (.dsub, 1)) (hs : g.stack = .double y :: .double x :: rest) (hn : Jvm.Free.Fl.NoNaN64 (FP.dsub x y))
    (hr : Steps tb e below (T.setTop { g with pc := g.pc + 1, stack := .double (FP.dsub x y) :: rest }) target) : Steps tb e below (T.setTop g) target := by
  obtain ⟨gm, gpc, gl, gs, glk, gen, gmr⟩ := g
  subst hg
  dsimp only at hs
  subst hs
  jvm_step h [hx, hd, Op.dsub.at_number h.top hn]
  exact hr
theorem own_dmul {tb : Tables} [Ours tb] {e : Env} {below : List Frame} {T target : State} {m : MethodId} {c : Code} {g : JFrame} (h : At T m c below) (hx : tb.exec = Jvm.exec) (hg : g.method = m) {x y : UInt64} {rest : List Value} (hd : decode c.code g.pc = .ok (.dmul, 1)) (hs : g.stack = .double y :: .double x :: rest) (hn : Jvm.Free.Fl.NoNaN64 (FP.dmul x y))
    (hr : Steps tb e below (T.setTop { g with pc := g.pc + 1, stack := .double (FP.dmul x y) :: rest }) target) : Steps tb e below (T.setTop g) target := by
  obtain ⟨gm, gpc, gl, gs, glk, gen, gmr⟩ := g
  subst hg
  dsimp only at hs
  subst hs
  jvm_step h [hx, hd, Op.dmul.at_number h.top hn]
  exact hr
theorem own_ddiv {tb : Tables} [Ours tb] {e : Env} {below : List Frame} {T target : State} {m : MethodId} {c : Code} {g : JFrame} (h : At T m c below) (hx : tb.exec = Jvm.exec) (hg : g.method = m) {x y : UInt64} {rest : List Value} (hd : decode c.code g.pc = .ok (.ddiv, 1)) (hs : g.stack = .double y :: .double x :: rest) (hn : Jvm.Free.Fl.NoNaN64 (FP.ddiv x y))
    (hr : Steps tb e below (T.setTop { g with pc := g.pc + 1, stack := .double (FP.ddiv x y) :: rest }) target) : Steps tb e below (T.setTop g) target := by
  obtain ⟨gm, gpc, gl, gs, glk, gen, gmr⟩ := g
  subst hg
  dsimp only at hs
  subst hs
  jvm_step h [hx, hd, Op.ddiv.at_number h.top hn]
  exact hr
theorem own_dup2D {tb : Tables} [Ours tb] {e : Env} {below : List Frame} {T target : State} {m : MethodId} {c : Code} {g : JFrame} (h : At T m c below) (hx : tb.exec = Jvm.exec) (hg : g.method = m) {x : UInt64} {rest : List Value} (hd : decode c.code g.pc = .ok (.dup2, 1)) (hs : g.stack = .double x :: rest)
    (hr : Steps tb e below (T.setTop { g with pc := g.pc + 1, stack := .double x :: .double x :: rest }) target) : Steps tb e below (T.setTop g) target := by
  subst hg
  jvm_step h [h.top, hx, hd, hs, Value.category]
  exact hr
theorem own_retD {p : Program} {l : Launch} {e : Env} {R : Room} {s : State} {m : MethodId} {args : Array Value} {below : List Frame} {meth : Method} {c : Code} {T : State} {locs : List Loc} {cells slots : Nat} (Y : Stand p l e R s m args below meth c T locs cells slots) (hexec : p.tables.exec = Jvm.exec) {pc : Nat} {Ls : Array Slot} {w : UInt64} {rest : List Value} (hret : meth.sig.returnType = some .double)
    (hdg : decode c.code pc = .ok (.dreturn, 1)) {fs : List Frame} (hleave : ∀ (f : JFrame) (acts : List Action), f.method = m → f.locked = none → f.entered = [] → (doReturn e (T.setTop f) acts (some (.double w))).1 = T.setFrames fs) :
    Steps p.tables e below (T.setTop (mkF m pc Ls (.double w :: rest))) (T.setFrames fs) :=
  retOut Y hexec hret rfl (Or.inr (Or.inr (Or.inl ⟨rfl, rfl, w, rfl⟩))) hdg hleave
theorem own_stD {p : Program} {l : Launch} {e : Env} {R : Room} {s : State} {m : MethodId} {args : Array Value} {below : List Frame} {meth : Method} {c : Code} {T : State} {locs : List Loc} {cells slots : Nat} {Z : State} {h : Heap}
    (X : Stand p l e R s m args below meth c T locs cells slots) (hx : p.tables.exec = Jvm.exec) (hZ : Z.Warmed39 s.vm) (eT : T.heap = h) {a : Addr} {cl : Cell} (A : Arr Z h a cl .double) {j : Int32} {x : UInt64} (hj : ¬ (j < 0 ∨ cl.slots.size ≤ j.toNatClampNeg)) {g : JFrame} (hg : g.method = m) {rest : List Value} (hs : g.stack = .double x :: .int j :: .ref a :: rest) (hd : decode c.code g.pc = .ok (.dastore, 1)) :
    ∃ T' h', Stand p l e R s m args below meth c T' (locs ++ [⟨a, j.toNatClampNeg⟩]) cells slots ∧ T'.heap = h' ∧ Wr h h' a j.toNatClampNeg (.double x) ∧ ∀ target, Steps p.tables e below (T'.setTop { g with pc := g.pc + 1, stack := rest }) target → Steps p.tables e below (T.setTop g) target := by
  obtain ⟨X', st⟩ := X.dastore hx (by rw [eT]; exact A.1) (State.isArrayOf_alike hZ.alike A.2.1) A.2.2 hj hg hs hd
  exact ⟨_, _, X', rfl, ⟨cl, A.1, A.plain, Nat.lt_of_not_le fun q => hj (Or.inr q), by rw [← eT]; rfl⟩, st⟩
section OwnDy
open Jvm.FP Jvm.FP.Core
/-- the datum's exponent moved by j -/
def own_sh (j : Int) : Datum → Datum
  | .fin s c q => .fin s c (q + j)
  | d => d
/-- the datum is n * 2^k -/
def own_Dy (n k : Int) (d : Datum) : Prop := Whole n (own_sh (-k) d)
theorem own_dy0 {n : Int} {d : Datum} : own_Dy n 0 d ↔ Whole n d := by
  cases d with
  | nan => exact Iff.rfl
  | inf => exact Iff.rfl
  | fin s c q =>
    show Whole n (.fin s c (q + -0)) ↔ _
    rw [show q + -0 = q by omega]
theorem own_sh_sum (j : Int) (x y : Datum) : exactSum (own_sh j x) (own_sh j y) = own_sh j (exactSum x y) := by
  cases x <;> cases y <;> try rfl
  · simp only [own_sh, exactSum]; split <;> rfl
  · rename_i s c q t d r
    have hm : min (q + j) (r + j) = min q r + j := by omega
    have hu : sumUnits s c (q + j) t d (r + j) (min q r + j) = sumUnits s c q t d r (min q r) := by
      unfold sumUnits inUnits
      rw [show q + j - (min q r + j) = q - min q r by omega, show r + j - (min q r + j) = r - min q r by omega]
    simp only [own_sh, exactSum, hm, hu]
theorem own_sh_prod (i j : Int) (x y : Datum) : exactProduct (own_sh i x) (own_sh j y) = own_sh (i + j) (exactProduct x y) := by
  cases x <;> cases y <;> try rfl
  · simp only [own_sh, exactProduct]; split <;> rfl
  · simp only [own_sh, exactProduct]; split <;> rfl
  · simp only [own_sh, exactProduct, Datum.fin.injEq, true_and]; omega
theorem own_sh_order (j : Int) (x y : Datum) : order (own_sh j x) (own_sh j y) = order x y := by
  cases x <;> cases y <;> try rfl
  rename_i s c q t d r
  simp only [own_sh, order]
  unfold inUnits
  rw [show q + j - min (q + j) (r + j) = q - min q r by omega, show r + j - min (q + j) (r + j) = r - min q r by omega]
theorem own_sh_neg (j : Int) (x : Datum) : negate (own_sh j x) = own_sh j (negate x) := by cases x <;> rfl
theorem own_dy_sum {n m k : Int} {x y : Datum} (hx : own_Dy n k x) (hy : own_Dy m k y) : own_Dy (n + m) k (exactSum x y) := by
  unfold own_Dy; rw [← own_sh_sum]; exact whole_sum hx hy
theorem own_dy_neg {n k : Int} {x : Datum} (hx : own_Dy n k x) : own_Dy (-n) k (negate x) := by
  unfold own_Dy; rw [← own_sh_neg]; exact whole_negate hx
theorem own_dy_prod {n m k l : Int} {x y : Datum} (hx : own_Dy n k x) (hy : own_Dy m l y) : own_Dy (n * m) (k + l) (exactProduct x y) := by
  unfold own_Dy; rw [show -(k + l) = -k + -l by omega, ← own_sh_prod]; exact whole_product hx hy
theorem own_dy_order {n m k : Int} {x y : Datum} (hx : own_Dy n k x) (hy : own_Dy m k y) : order x y = some (compare n m) := by
  rw [← own_sh_order (-k)]; exact order_whole hx hy
theorem own_dy_fin {n k : Int} {x : Datum} (h : own_Dy n k x) : ∃ s c q, x = .fin s c q := by
  cases x with
  | nan => exact h.elim
  | inf => exact h.elim
  | fin s c q => exact ⟨s, c, q, rfl⟩
theorem own_dy_abs {n k q : Int} {s : Bool} {c : Nat} (h : own_Dy n k (.fin s c q)) : c * 2 ^ (q - k).toNat = n.natAbs * 2 ^ (k - q).toNat := by
  have := whole_natAbs (q := q + -k) h
  rw [show q + -k = q - k by omega, show -(q - k) = k - q by omega] at this
  exact this
theorem own_dy_sign {n k q : Int} {s : Bool} {c : Nat} (h : own_Dy n k (.fin s c q)) (hn : n ≠ 0) : s = decide (n < 0) := whole_sign (q := q + -k) h hn
theorem own_dy_mk {n k q : Int} {s : Bool} {c : Nat} (h : c * 2 ^ (q - k).toNat = n.natAbs * 2 ^ (k - q).toNat) (hs : n ≠ 0 → s = decide (n < 0)) : own_Dy n k (.fin s c q) := by
  show signed s (c * 2 ^ (q + -k).toNat) = n * ((2 ^ (-(q + -k)).toNat : Nat) : Int)
  rw [show q + -k = q - k by omega, show -(q - k) = k - q by omega, h]
  by_cases h0 : n = 0
  · subst h0; simp [signed]
  · rw [hs h0, signed_mul]
    congr 1
    unfold signed
    by_cases h : n < 0 <;> simp [h] <;> omega
/-- the same number in smaller units -/
theorem own_dy_scale {n k : Int} {x : Datum} (h : own_Dy n k x) (j : Nat) : own_Dy (n * ((2 ^ j : Nat) : Int)) (k - j) x := by
  obtain ⟨s, c, q, rfl⟩ := own_dy_fin h
  have p : 0 < 2 ^ j := Nat.two_pow_pos j
  refine own_dy_mk ?_ fun hn => ?_
  · have ha := own_dy_abs h
    rw [Int.natAbs_mul, Int.natAbs_natCast]
    have e1 : (q - (k - (j : Int))).toNat + (k - q).toNat = (q - k).toNat + j + (k - (j : Int) - q).toNat := by omega
    refine Nat.eq_of_mul_eq_mul_right (Nat.two_pow_pos (k - q).toNat) ?_
    calc c * 2 ^ (q - (k - (j : Int))).toNat * 2 ^ (k - q).toNat = c * 2 ^ ((q - (k - (j : Int))).toNat + (k - q).toNat) := by rw [Nat.pow_add, Nat.mul_assoc]
      _ = (c * 2 ^ (q - k).toNat) * 2 ^ j * 2 ^ (k - (j : Int) - q).toNat := by rw [e1, Nat.pow_add, Nat.pow_add]; simp only [Nat.mul_assoc]
      _ = n.natAbs * 2 ^ j * 2 ^ (k - (j : Int) - q).toNat * 2 ^ (k - q).toNat := by rw [ha]; ac_rfl
  · have p' : (0 : Int) < ((2 ^ j : Nat) : Int) := by omega
    have h0 : n ≠ 0 := fun h => hn (by rw [h, Int.zero_mul])
    rw [own_dy_sign h h0, decide_eq_decide]
    constructor
    · intro hl; exact Int.mul_neg_of_neg_of_pos hl p'
    · intro hl; exact Int.lt_of_not_ge fun hg => by have := Int.mul_nonneg hg (Int.le_of_lt p'); omega
/-- whole multiples of 2^k of at most 53 digits are doubles -/
theorem own_fit {n : Nat} {k : Int} (s : Bool) (hn : n ≤ 2 ^ 53) (h1 : -1074 ≤ k) (h2 : k ≤ 971) (h3 : n = 2 ^ 53 → k ≤ 970) : ∃ c q, Core.fits b64 (.fin s c q) ∧ n * 2 ^ (k - q).toNat = c * 1 * 2 ^ (q - k).toNat := by
  have ht : b64.tails = 2 ^ 52 := by decide
  have hp : b64.p = 53 := rfl
  have hm : b64.qmin = -1074 := by decide
  have hM : b64.qmax = 971 := by decide
  by_cases h0 : n = 0
  · subst h0
    exact ⟨0, b64.qmin, zero_fits good_b64 s, by simp⟩
  by_cases hp2 : n = 2 ^ 53
  · have h3 := h3 hp2
    refine ⟨2 ^ 52, k + 1, ⟨by rw [hp]; decide, by omega, by omega, .inr (by omega)⟩, ?_⟩
    rw [hp2, show (k - (k + 1)).toNat = 0 by omega, show (k + 1 - k).toNat = 1 by omega]
  · have l1 : 2 ^ n.log2 ≤ n := Nat.log2_self_le h0
    have l2 : n < 2 ^ (n.log2 + 1) := Nat.lt_log2_self
    have l3 : n.log2 < 53 := (Nat.pow_lt_pow_iff_right (by decide : 1 < 2)).mp (Nat.lt_of_le_of_lt l1 (by omega))
    generalize n.log2 = L at l1 l2 l3
    have hq : ∃ q : Int, q = max (-1074) ((L : Int) + k - 52) := ⟨_, rfl⟩
    obtain ⟨q, hq⟩ := hq
    have q1 : q ≤ k := by omega
    refine ⟨n * 2 ^ (k - q).toNat, q, ⟨?_, by omega, by omega, ?_⟩, ?_⟩
    · rw [hp]
      calc n * 2 ^ (k - q).toNat < 2 ^ (L + 1) * 2 ^ (k - q).toNat := Nat.mul_lt_mul_of_pos_right l2 (Nat.two_pow_pos _)
        _ = 2 ^ (L + 1 + (k - q).toNat) := by rw [← Nat.pow_add]
        _ ≤ 2 ^ 53 := Nat.pow_le_pow_right (by decide) (by omega)
    · by_cases hm2 : q = -1074
      · left; rw [hm]; exact hm2
      · right
        rw [ht]
        calc 2 ^ 52 = 2 ^ L * 2 ^ (k - q).toNat := by rw [← Nat.pow_add]; congr 1; omega
          _ ≤ n * 2 ^ (k - q).toNat := Nat.mul_le_mul_right _ l1
    · rw [show (q - k).toNat = 0 by omega]; simp
theorem own_dy_roundRatio {n k e : Int} {A B : Nat} {s : Bool} (hB : 0 < B) (hn : n.natAbs ≤ 2 ^ 53) (h1 : -1074 ≤ k) (h2 : k ≤ 970) (hA : A * 2 ^ (e - k).toNat = n.natAbs * B * 2 ^ (k - e).toNat) (hs : n ≠ 0 → s = decide (n < 0)) : own_Dy n k (roundRatio b64 s A B e) := by
  obtain ⟨c, q, hf, hv⟩ := own_fit (n := n.natAbs) s hn h1 (by omega) (fun _ => h2)
  have : roundRatio b64 s A B e = .fin s c q := by
    rw [roundRatio_congr (A' := n.natAbs) (B' := 1) (e' := k) hB (by decide) (by rw [Nat.mul_one]; exact hA)]
    exact roundRatio_exact good_b64 (by decide) hf hv
  rw [this]
  refine own_dy_mk ?_ hs
  rw [Nat.mul_one] at hv
  exact hv.symm
theorem own_dy_round {n k : Int} {d : Datum} (hn : n.natAbs ≤ 2 ^ 53) (h1 : -1074 ≤ k) (h2 : k ≤ 970) (h : own_Dy n k d) : own_Dy n k (round b64 d) := by
  obtain ⟨s, c, q, rfl⟩ := own_dy_fin h
  refine own_dy_roundRatio (by decide) hn h1 h2 ?_ (own_dy_sign h)
  rw [Nat.mul_one]; exact own_dy_abs h
theorem own_pow_cancel {a b x y : Nat} {u : Int} (h : a * 2 ^ x = b * 2 ^ y) (hu : u = (x : Int) - y) : a * 2 ^ u.toNat = b * 2 ^ (-u).toNat := by
  have hx : x = u.toNat + min x y := by omega
  have hy : y = (-u).toNat + min x y := by omega
  generalize u.toNat = v at *
  generalize (-u).toNat = w at *
  generalize min x y = t at hx hy
  subst hx hy
  rw [Nat.pow_add, Nat.pow_add, ← Nat.mul_assoc, ← Nat.mul_assoc] at h
  exact Nat.eq_of_mul_eq_mul_right (Nat.two_pow_pos t) h
/-- an exact quotient -/
theorem own_dy_quot {r m k l : Int} {x y : Datum} (hm : m ≠ 0) (hn : r.natAbs ≤ 2 ^ 53) (h1 : -1074 ≤ k) (h2 : k ≤ 970) (hx : own_Dy (r * m) (k + l) x) (hy : own_Dy m l y) : own_Dy r k (quotient b64 x y) := by
  obtain ⟨s, c, q, rfl⟩ := own_dy_fin hx
  obtain ⟨t, d, q', rfl⟩ := own_dy_fin hy
  have ha := own_dy_abs hx
  have hb := own_dy_abs hy
  have hd : d ≠ 0 := by
    rintro rfl
    rw [Nat.zero_mul] at hb
    rcases Nat.mul_eq_zero.mp hb.symm with h | h
    · exact hm (Int.natAbs_eq_zero.mp h)
    · have := Nat.two_pow_pos (l - q').toNat; omega
  show own_Dy r k (if d = 0 then _ else _)
  rw [if_neg hd]
  refine own_dy_roundRatio (Nat.pos_of_ne_zero hd) hn h1 h2 ?_ fun h0 => ?_
  · rw [Int.natAbs_mul] at ha
    have e1 : (q - q' - k) = (((q - (k + l)).toNat + (l - q').toNat : Nat) : Int) - (((k + l - q).toNat + (q' - l).toNat : Nat) : Int) := by omega
    have e2 : k - (q - q') = -(q - q' - k) := by omega
    rw [e2]
    refine own_pow_cancel (x := (q - (k + l)).toNat + (l - q').toNat) (y := (k + l - q).toNat + (q' - l).toNat) ?_ e1
    calc c * 2 ^ ((q - (k + l)).toNat + (l - q').toNat) = (c * 2 ^ (q - (k + l)).toNat) * 2 ^ (l - q').toNat := by rw [Nat.pow_add, Nat.mul_assoc]
      _ = r.natAbs * (m.natAbs * 2 ^ (l - q').toNat) * 2 ^ (k + l - q).toNat := by rw [ha]; ac_rfl
      _ = r.natAbs * d * 2 ^ ((k + l - q).toNat + (q' - l).toNat) := by rw [← hb, Nat.pow_add]; ac_rfl
  · have h3 : r * m ≠ 0 := fun h => (Int.mul_eq_zero.mp h).elim h0 hm
    rw [own_dy_sign hx h3, own_dy_sign hy hm]
    rcases Int.lt_or_gt_of_ne h0 with a | a <;> rcases Int.lt_or_gt_of_ne hm with b | b
    · have := Int.mul_pos_of_neg_of_neg a b; simp [a, b]; omega
    · have := Int.mul_neg_of_neg_of_pos a b; simp [a, this]; omega
    · have := Int.mul_neg_of_pos_of_neg a b; simp [b, this]; omega
    · have := Int.mul_pos a b; simp [show ¬ r < 0 by omega, show ¬ m < 0 by omega]; omega
theorem own_dy_unscale {n k : Int} {x : Datum} (j : Nat) (h : own_Dy (n * ((2 ^ j : Nat) : Int)) k x) : own_Dy n (k + j) x := by
  obtain ⟨s, c, q, rfl⟩ := own_dy_fin h
  have p : 0 < 2 ^ j := Nat.two_pow_pos j
  have p' : (0 : Int) < ((2 ^ j : Nat) : Int) := by omega
  refine own_dy_mk ?_ fun h0 => ?_
  · have ha := own_dy_abs h
    rw [Int.natAbs_mul, Int.natAbs_natCast] at ha
    have e1 : (q - (k + (j : Int))) = (((q - k).toNat : Nat) : Int) - (((k - q).toNat + j : Nat) : Int) := by omega
    have e2 : k + (j : Int) - q = -(q - (k + (j : Int))) := by omega
    rw [e2]
    refine own_pow_cancel (x := (q - k).toNat) (y := (k - q).toNat + j) ?_ e1
    rw [ha, Nat.pow_add]; ac_rfl
  · have hn : n * ((2 ^ j : Nat) : Int) ≠ 0 := fun h => (Int.mul_eq_zero.mp h).elim h0 (by omega)
    rw [own_dy_sign h hn, decide_eq_decide]
    constructor
    · intro hl; exact Int.lt_of_not_ge fun hg => by have := Int.mul_nonneg hg (Int.le_of_lt p'); omega
    · intro hl; exact Int.mul_neg_of_neg_of_pos hl p'
/-- the number in units of 2^e -/
theorem own_dy_units {n k q e : Int} {s : Bool} {c : Nat} (h : own_Dy n k (.fin s c q)) (h1 : e ≤ k) (h2 : e ≤ q) : signed s (inUnits c q e) = n * ((2 ^ (k - e).toNat : Nat) : Int) := by
  have ha := own_dy_abs h
  have e1 : inUnits c q e = n.natAbs * 2 ^ (k - e).toNat := by
    unfold inUnits
    refine Nat.eq_of_mul_eq_mul_right (Nat.two_pow_pos (k - q).toNat) ?_
    calc c * 2 ^ (q - e).toNat * 2 ^ (k - q).toNat = (c * 2 ^ (q - k).toNat) * 2 ^ (k - e).toNat := by
          rw [Nat.mul_assoc, ← Nat.pow_add, Nat.mul_assoc, ← Nat.pow_add]; congr 2; omega
      _ = n.natAbs * 2 ^ (k - e).toNat * 2 ^ (k - q).toNat := by rw [ha]; ac_rfl
  rw [e1, signed_mul]
  congr 1
  by_cases h0 : n = 0
  · subst h0; simp [signed]
  · rw [own_dy_sign h h0]
    unfold signed
    by_cases hl : n < 0 <;> simp [hl] <;> omega
theorem own_pow_split (n : Int) {k e : Int} (h1 : -1074 ≤ k) (h2 : e ≤ -1074) : n * ((2 ^ (k - e).toNat : Nat) : Int) = n * ((2 ^ (k + 1074).toNat : Nat) : Int) * ((2 ^ (b64.qmin - e).toNat : Nat) : Int) := by
  have hm : b64.qmin = -1074 := by decide
  rw [hm, Int.mul_assoc, ← Int.natCast_mul, ← Nat.pow_add]
  congr 4
  omega
/-- rounding is monotone -/
theorem own_round_le {n k w : Int} {d V : Datum} (h : own_Dy n k d) (h1 : -1074 ≤ k) (hV : Core.fits b64 V) (hn : V ≠ .nan) (hz : zval b64 V = w) (hw : n * ((2 ^ (k + 1074).toNat : Nat) : Int) ≤ w) : zval b64 (round b64 d) ≤ w := by
  obtain ⟨s, c, q, rfl⟩ := own_dy_fin h
  have hm : b64.qmin = -1074 := by decide
  have p := Nat.two_pow_pos (b64.qmin - min (-1074) q).toNat
  rw [← hz]
  refine zval_round_le good_b64 hV hn (e0 := min (-1074) q) (by omega) (by omega) ?_
  rw [own_dy_units h (by omega) (by omega), own_pow_split n h1 (by omega), hz]
  exact Int.mul_le_mul_of_nonneg_right hw (by omega)
theorem own_round_ge {n k w : Int} {d V : Datum} (h : own_Dy n k d) (h1 : -1074 ≤ k) (hV : Core.fits b64 V) (hn : V ≠ .nan) (hz : zval b64 V = w) (hw : w ≤ n * ((2 ^ (k + 1074).toNat : Nat) : Int)) : w ≤ zval b64 (round b64 d) := by
  obtain ⟨s, c, q, rfl⟩ := own_dy_fin h
  have hm : b64.qmin = -1074 := by decide
  have p := Nat.two_pow_pos (b64.qmin - min (-1074) q).toNat
  rw [← hz]
  refine zval_round_ge good_b64 hV hn (e0 := min (-1074) q) (by omega) (by omega) ?_
  rw [own_dy_units h (by omega) (by omega), own_pow_split n h1 (by omega), hz]
  exact Int.mul_le_mul_of_nonneg_right hw (by omega)
/-! ### on doubles -/
def own_D (n k : Int) (a : UInt64) : Prop := own_Dy n k (val64 a)
theorem own_d_int {n : Int} {a : UInt64} : own_D n 0 a ↔ DInt n a := own_dy0
theorem own_d_ne {n k : Int} {a : UInt64} (h : own_D n k a) : val64 a ≠ .nan := by
  obtain ⟨s, c, q, e⟩ := own_dy_fin h; rw [e]; exact Datum.noConfusion
theorem own_d_no {n k : Int} {a : UInt64} (h : own_D n k a) : Jvm.Free.Fl.NoNaN64 a := Jvm.Free.Fl.val64_no.mpr (own_d_ne h)
theorem own_d_scale {n k : Int} {a : UInt64} (h : own_D n k a) (j : Nat) : own_D (n * ((2 ^ j : Nat) : Int)) (k - j) a := own_dy_scale h j
theorem own_d_add {n m k : Int} {a b : UInt64} (ha : own_D n k a) (hb : own_D m k b) (hn : (n + m).natAbs ≤ 2 ^ 53) (h1 : -1074 ≤ k) (h2 : k ≤ 970) : own_D (n + m) k (FP.dadd a b) := by
  unfold own_D; rw [show FP.dadd a b = Core.dadd a b from rfl, val64_dadd]; exact own_dy_round hn h1 h2 (own_dy_sum ha hb)
theorem own_d_sub {n m k : Int} {a b : UInt64} (ha : own_D n k a) (hb : own_D m k b) (hn : (n - m).natAbs ≤ 2 ^ 53) (h1 : -1074 ≤ k) (h2 : k ≤ 970) : own_D (n - m) k (FP.dsub a b) := by
  unfold own_D; rw [show FP.dsub a b = Core.dsub a b from rfl, val64_dsub]; exact own_dy_round hn h1 h2 (own_dy_sum ha (own_dy_neg hb))
theorem own_d_mul {n m k l : Int} {a b : UInt64} (ha : own_D n k a) (hb : own_D m l b) (hn : (n * m).natAbs ≤ 2 ^ 53) (h1 : -1074 ≤ k + l) (h2 : k + l ≤ 970) : own_D (n * m) (k + l) (FP.dmul a b) := by
  unfold own_D; rw [show FP.dmul a b = Core.dmul a b from rfl, val64_dmul]; exact own_dy_round hn h1 h2 (own_dy_prod ha hb)
theorem own_d_div {r m k l : Int} {a b : UInt64} (hm : m ≠ 0) (ha : own_D (r * m) (k + l) a) (hb : own_D m l b) (hn : r.natAbs ≤ 2 ^ 53) (h1 : -1074 ≤ k) (h2 : k ≤ 970) : own_D r k (FP.ddiv a b) := by
  unfold own_D; rw [show FP.ddiv a b = Core.ddiv a b from rfl, val64_ddiv]; exact own_dy_quot hm hn h1 h2 ha hb
theorem own_d_neg {n k : Int} {a : UInt64} (ha : own_D n k a) : own_D (-n) k (FP.dneg a) := by
  unfold own_D; rw [FP.val64_dneg]; exact own_dy_neg ha
theorem own_d_cmp {n m k : Int} {a b : UInt64} (ha : own_D n k a) (hb : own_D m k b) : FP.dcmp a b = some (compare n m) := own_dy_order ha hb
theorem own_d_i2d (x : Int32) : own_D x.toInt 0 (FP.i2d x) := own_d_int.mpr (i2d_int x)
theorem own_d_l2d {x : Int64} (h : x.toInt.natAbs ≤ 2 ^ 53) : own_D x.toInt 0 (FP.l2d x) := own_d_int.mpr (l2d_int h)
theorem own_d_unscale {n k : Int} {a : UInt64} (j : Nat) (h : own_D (n * ((2 ^ j : Nat) : Int)) k a) : own_D n (k + j) a := own_dy_unscale j h
theorem own_d_zv {n k : Int} {a : UInt64} (h : own_D n k a) (h1 : -1074 ≤ k) : zval b64 (val64 a) = n * ((2 ^ (k + 1074).toNat : Nat) : Int) := by
  obtain ⟨s, c, q, e⟩ := own_dy_fin h
  have hf := val64_fits a
  unfold own_D at h
  rw [e] at h hf ⊢
  have hm : b64.qmin = -1074 := by decide
  have := own_dy_units h (e := b64.qmin) (by omega) (by have := hf.2.1; omega)
  show signed s (inUnits c q b64.qmin) = _
  rw [this, hm]
  congr 4
theorem own_cmp_eq (n : Int) : compare n n = .eq := by simp [compare, compareOfLessAndEq]
theorem own_cmp0 {r : Option Ordering} {op : CmpOp} : cmpValue r op = 0 ↔ r = some .eq := by
  rcases r with _ | o
  · cases op <;> simp [cmpValue] <;> decide
  · cases o <;> simp [cmpValue]
theorem own_d_of {n k q : Int} {s : Bool} {c : Nat} {a : UInt64} (h : val64 a = .fin s c q) (h' : c * 2 ^ (q - k).toNat = n.natAbs * 2 ^ (k - q).toNat) (hs : n = 0 ∨ s = decide (n < 0)) : own_D n k a := by
  unfold own_D; rw [h]; exact own_dy_mk h' fun h0 => hs.resolve_left h0
theorem own_d_0 {k l : Int} {a : UInt64} (h : own_D 0 k a) : own_D 0 l a := by
  obtain ⟨s, c, q, e⟩ := own_dy_fin h
  unfold own_D at h ⊢
  rw [e] at h ⊢
  have := own_dy_abs h
  refine own_dy_mk ?_ fun h0 => absurd rfl h0
  have p := Nat.two_pow_pos (q - k).toNat
  rw [show (0 : Int).natAbs = 0 from rfl, Nat.zero_mul] at this
  rcases Nat.mul_eq_zero.mp this with h | h
  · rw [h]; simp
  · omega
theorem own_d_zero : own_D 0 0 FP.dconst0 := own_d_of (s := false) (c := 0) (q := -1074) (by decide +kernel) (by decide +kernel) (Or.inl rfl)
theorem own_d_one : own_D 1 0 FP.dconst1 := own_d_of (s := false) (c := 4503599627370496) (q := -52) (by decide +kernel) (by decide +kernel) (Or.inr rfl)
end OwnDy
/-- a long moved left by a small int -/
theorem own_shl {u : Int32} {j : Nat} (hu : u.toInt = j) (hj : j < 64) (x : Int64) (h1 : -2 ^ 63 ≤ x.toInt * ((2 ^ j : Nat) : Int)) (h2 : x.toInt * ((2 ^ j : Nat) : Int) < 2 ^ 63) : (x <<< (u.toInt64 &&& 63)).toInt = x.toInt * ((2 ^ j : Nat) : Int) := by
  have he : u = Int32.ofNat j := by
    apply Int32.toInt_inj.mp
    rw [Int32.toInt_ofNat_of_lt (by omega)]
    omega
  subst he
  have hk : ((Int32.ofNat j).toInt64 &&& 63) = (Int32.ofNat j &&& 0x3f).toInt64 := by
    clear hu h1 h2
    revert hj
    revert j
    decide +kernel
  have hm : (Int32.ofNat j).toBitVec.toNat % 64 = j := by
    clear hu h1 h2 hk
    revert hj
    revert j
    decide +kernel
  have hc := c_lshl x (Int32.ofNat j) j hm
  rw [hk]
  have r := rng64 (x <<< (Int32.ofNat j &&& 0x3f).toInt64)
  generalize x.toInt * ((2 ^ j : Nat) : Int) = M at *
  omega
section OwnFlow
open Jvm.FP Jvm.FP.Core
def own_sc (s : Int32) : UInt64 := if s = 0 then FP.dconst1 else if s = 1 then 1 else if s = 2 then 553942754166571008 else if s = 3 then 4602678819172646912 else if s = 4 then 4742290407621132288 else if s = 5 then 6858982232485265408 else if s = 6 then 8660422083433463808 else 9110782046170513408
theorem own_sc_spec (s : Int32) : ∃ N K : Int, 0 < N ∧ N ≤ 1073741824 ∧ -1074 ≤ K ∧ K ≤ 970 ∧ own_D N K (own_sc s) := by
  unfold own_sc
  split
  · exact ⟨1, 0, by decide, by decide, by decide, by decide, own_d_one⟩
  split
  · exact ⟨1, -1074, by decide, by decide, by decide, by decide, own_d_of (s := false) (c := 1) (q := -1074) (by decide +kernel) (by decide +kernel) (Or.inr rfl)⟩
  split
  · exact ⟨1, -900, by decide, by decide, by decide, by decide, own_d_of (s := false) (c := 4503599627370496) (q := -952) (by decide +kernel) (by decide +kernel) (Or.inr rfl)⟩
  split
  · exact ⟨1, -1, by decide, by decide, by decide, by decide, own_d_of (s := false) (c := 4503599627370496) (q := -53) (by decide +kernel) (by decide +kernel) (Or.inr rfl)⟩
  split
  · exact ⟨1, 30, by decide, by decide, by decide, by decide, own_d_of (s := false) (c := 4503599627370496) (q := -22) (by decide +kernel) (by decide +kernel) (Or.inr rfl)⟩
  split
  · exact ⟨1, 500, by decide, by decide, by decide, by decide, own_d_of (s := false) (c := 4503599627370496) (q := 448) (by decide +kernel) (by decide +kernel) (Or.inr rfl)⟩
  split
  · exact ⟨1, 900, by decide, by decide, by decide, by decide, own_d_of (s := false) (c := 4503599627370496) (q := 848) (by decide +kernel) (by decide +kernel) (Or.inr rfl)⟩
  · exact ⟨1073741824, 970, by decide, by decide, by decide, by decide, own_d_of (s := false) (c := 4503599627370496) (q := 948) (by decide +kernel) (by decide +kernel) (Or.inr rfl)⟩
theorem own_cmpv_gt (a b : Int) (op : CmpOp) : (0 : Int32) < cmpValue (some (compare a b)) op ↔ b < a := by
  rcases Int.lt_trichotomy a b with h | h | h
  · rw [show compare a b = .lt from Int.compare_eq_lt.mpr h]; exact ⟨fun q => absurd q (by cases op <;> decide), fun q => by omega⟩
  · rw [show compare a b = .eq from Int.compare_eq_eq.mpr h]; exact ⟨fun q => absurd q (by cases op <;> decide), fun q => by omega⟩
  · rw [show compare a b = .gt from Int.compare_eq_gt.mpr h]; exact ⟨fun _ => h, fun _ => by cases op <;> decide⟩
theorem own_d_any0 (k : Int) : own_D 0 k FP.dconst0 := own_d_0 (k := 0) own_d_zero
/-- global * (own / (own + others)), all of it exact -/
theorem own_flow {g a t N K : Int} {j : Nat} {G A T sc : UInt64} (hsc : own_D N K sc) (hN : 0 < N) (hN' : N ≤ 1073741824) (hK : -1074 ≤ K) (hK' : K ≤ 970) (hj : j ≤ 15) (ht : t = ((2 ^ j : Nat) : Int)) (ha : 0 ≤ a) (hat : a ≤ t) (hg : 0 ≤ g) (hg' : g ≤ 1048575)
    (hG : own_D g 0 G) (hA : own_D a 0 A) (hT : own_D (t - a) 0 T) :
    own_D (a * N) K (FP.dmul A sc) ∧ own_D ((t - a) * N) K (FP.dmul T sc) ∧ own_D (t * N) K (FP.dadd (FP.dmul A sc) (FP.dmul T sc)) ∧ (0 : Int32) < cmpValue (FP.dcmp (FP.dadd (FP.dmul A sc) (FP.dmul T sc)) FP.dconst0) .l ∧
      own_D a (-j) (FP.ddiv (FP.dmul A sc) (FP.dadd (FP.dmul A sc) (FP.dmul T sc))) ∧ own_D (g * a) (-j) (FP.dmul G (FP.ddiv (FP.dmul A sc) (FP.dadd (FP.dmul A sc) (FP.dmul T sc)))) := by
  have pj : (2 ^ j : Nat) ≤ 2 ^ 15 := Nat.pow_le_pow_right (by decide) hj
  have pj0 := Nat.two_pow_pos j
  have m1 : a * N ≤ 32768 * 1073741824 := Int.mul_le_mul (by omega) hN' (by omega) (by decide)
  have m1' : 0 ≤ a * N := Int.mul_nonneg ha (by omega)
  have m2 : (t - a) * N ≤ 32768 * 1073741824 := Int.mul_le_mul (by omega) hN' (by omega) (by decide)
  have m2' : 0 ≤ (t - a) * N := Int.mul_nonneg (by omega) (by omega)
  have m3 : t * N ≤ 32768 * 1073741824 := Int.mul_le_mul (by omega) hN' (by omega) (by decide)
  have m3' : 0 < t * N := Int.mul_pos (by omega) hN
  have m4 : g * a ≤ 1048575 * 32768 := Int.mul_le_mul hg' (by omega) ha (by decide)
  have m4' : 0 ≤ g * a := Int.mul_nonneg hg ha
  have h1 : own_D (a * N) K (FP.dmul A sc) := by
    have := own_d_mul hA hsc (by omega) (by omega) (by omega)
    rwa [Int.zero_add] at this
  have h2 : own_D ((t - a) * N) K (FP.dmul T sc) := by
    have := own_d_mul hT hsc (by omega) (by omega) (by omega)
    rwa [Int.zero_add] at this
  have h3 : own_D (t * N) K (FP.dadd (FP.dmul A sc) (FP.dmul T sc)) := by
    have e : a * N + (t - a) * N = t * N := by rw [← Int.add_mul]; congr 1; omega
    have := own_d_add h1 h2 (by omega) hK hK'
    rwa [e] at this
  have h4 : (0 : Int32) < cmpValue (FP.dcmp (FP.dadd (FP.dmul A sc) (FP.dmul T sc)) FP.dconst0) .l := by
    rw [own_d_cmp h3 (own_d_any0 K), own_cmpv_gt]; exact m3'
  have h5 : own_D a (-j) (FP.ddiv (FP.dmul A sc) (FP.dadd (FP.dmul A sc) (FP.dmul T sc))) := by
    refine own_d_div (m := N) (l := K + j) (by omega) ?_ (own_d_unscale j ?_) (by omega) (by omega) (by omega)
    · rw [show -(j : Int) + (K + j) = K by omega]; exact h1
    · rw [← ht, Int.mul_comm]; exact h3
  have h6 := own_d_mul hG h5 (by omega) (by omega) (by omega)
  rw [Int.zero_add] at h6
  exact ⟨h1, h2, h3, h4, h5, h6⟩
def own_inf : UInt64 := 9218868437227405312
theorem own_val_inf : val64 own_inf = .inf false := by decide +kernel
/-- others infinite -/
theorem own_flow_inf {g n K : Int} {G O : UInt64} (hO : own_D n K O) (hG : own_D g 0 G) : FP.dadd O own_inf = own_inf ∧ own_D 0 0 (FP.ddiv O own_inf) ∧ own_D 0 0 (FP.dmul G (FP.ddiv O own_inf)) := by
  obtain ⟨s, c, q, e⟩ := own_dy_fin hO
  have h1 : FP.dadd O own_inf = own_inf := by
    symm
    refine val64_inj (by rw [own_val_inf]; exact Datum.noConfusion) ?_
    rw [show FP.dadd O own_inf = Core.dadd O own_inf from rfl, val64_dadd, e, own_val_inf]
    rfl
  have h2 : own_D 0 0 (FP.ddiv O own_inf) := by
    unfold own_D
    rw [show FP.ddiv O own_inf = Core.ddiv O own_inf from rfl, val64_ddiv, e, own_val_inf]
    show own_Dy 0 0 (.fin (s != false) 0 b64.qmin)
    exact own_dy_mk (by simp) (fun h => absurd rfl h)
  have h3 := own_d_mul hG h2 (by simp) (by decide) (by decide)
  rw [Int.mul_zero] at h3
  exact ⟨h1, h2, h3⟩
end OwnFlow
theorem own_pd__I_D : parseMethodDescriptor "(I)D" = some ⟨[.int], some .double⟩ := by decide +kernel
theorem own_pd__DDDI_D : parseMethodDescriptor "(DDDI)D" = some ⟨[.double, .double, .double, .int], some .double⟩ := by decide +kernel
theorem d1_0 : decode method_2_code 0 = .ok (.iload_n 0, 1) := by decide +kernel
theorem d1_1 : decode method_2_code 1 = .ok (.ifCond .ne 5, 3) := by decide +kernel
theorem d1_4 : decode method_2_code 4 = .ok (.dconst 1, 1) := by decide +kernel
theorem d1_5 : decode method_2_code 5 = .ok (.dreturn, 1) := by decide +kernel
theorem d1_6 : decode method_2_code 6 = .ok (.iload_n 0, 1) := by decide +kernel
theorem d1_7 : decode method_2_code 7 = .ok (.iconst 1, 1) := by decide +kernel
theorem d1_8 : decode method_2_code 8 = .ok (.if_icmp .ne 7, 3) := by decide +kernel
theorem d1_11 : decode method_2_code 11 = .ok (.ldc2_w 7, 3) := by decide +kernel
theorem d1_14 : decode method_2_code 14 = .ok (.dreturn, 1) := by decide +kernel
theorem d1_15 : decode method_2_code 15 = .ok (.iload_n 0, 1) := by decide +kernel
theorem d1_16 : decode method_2_code 16 = .ok (.iconst 2, 1) := by decide +kernel
theorem d1_17 : decode method_2_code 17 = .ok (.if_icmp .ne 7, 3) := by decide +kernel
theorem d1_20 : decode method_2_code 20 = .ok (.ldc2_w 9, 3) := by decide +kernel
theorem d1_23 : decode method_2_code 23 = .ok (.dreturn, 1) := by decide +kernel
theorem d1_24 : decode method_2_code 24 = .ok (.iload_n 0, 1) := by decide +kernel
theorem d1_25 : decode method_2_code 25 = .ok (.iconst 3, 1) := by decide +kernel
theorem d1_26 : decode method_2_code 26 = .ok (.if_icmp .ne 7, 3) := by decide +kernel
theorem d1_29 : decode method_2_code 29 = .ok (.ldc2_w 11, 3) := by decide +kernel
theorem d1_32 : decode method_2_code 32 = .ok (.dreturn, 1) := by decide +kernel
theorem d1_33 : decode method_2_code 33 = .ok (.iload_n 0, 1) := by decide +kernel
theorem d1_34 : decode method_2_code 34 = .ok (.iconst 4, 1) := by decide +kernel
theorem d1_35 : decode method_2_code 35 = .ok (.if_icmp .ne 7, 3) := by decide +kernel
theorem d1_38 : decode method_2_code 38 = .ok (.ldc2_w 13, 3) := by decide +kernel
theorem d1_41 : decode method_2_code 41 = .ok (.dreturn, 1) := by decide +kernel
theorem d1_42 : decode method_2_code 42 = .ok (.iload_n 0, 1) := by decide +kernel
theorem d1_43 : decode method_2_code 43 = .ok (.iconst 5, 1) := by decide +kernel
theorem d1_44 : decode method_2_code 44 = .ok (.if_icmp .ne 7, 3) := by decide +kernel
theorem d1_47 : decode method_2_code 47 = .ok (.ldc2_w 15, 3) := by decide +kernel
theorem d1_50 : decode method_2_code 50 = .ok (.dreturn, 1) := by decide +kernel
theorem d1_51 : decode method_2_code 51 = .ok (.iload_n 0, 1) := by decide +kernel
theorem d1_52 : decode method_2_code 52 = .ok (.bipush 6, 2) := by decide +kernel
theorem d1_54 : decode method_2_code 54 = .ok (.if_icmp .ne 7, 3) := by decide +kernel
theorem d1_57 : decode method_2_code 57 = .ok (.ldc2_w 17, 3) := by decide +kernel
theorem d1_60 : decode method_2_code 60 = .ok (.dreturn, 1) := by decide +kernel
theorem d1_61 : decode method_2_code 61 = .ok (.ldc2_w 19, 3) := by decide +kernel
theorem d1_64 : decode method_2_code 64 = .ok (.dreturn, 1) := by decide +kernel
theorem own_pn_com_example_meter_meter_allocation_FlowShareLocalLimitPinLaw : plainName "com/example/meter/meter/allocation/FlowShareLocalLimitPinLaw" = true := by first | (simp [plainName, overriddenIn]; done) | decide +kernel
theorem own_ef1 (m : MethodId) (x0 : Int32) : entryFrame m #[(.int x0)] 1 = mkF m 0 #[.val (.int x0)] [] := by first | (simp [entryFrame, mkF, argsToLocals, Value.category]; done) | rfl
def QR (z : UInt64) (h0 : Heap) (n0 : Nat) (v : Option Value) (h : Heap) (L : List Loc) : Prop := v = some (.double z) ∧ Fr n0 L ∧ h = h0
set_option maxRecDepth 65536 in
set_option maxHeartbeats 40000000 in
theorem rmS (l : Launch) (Z : State) (a0 : Array Value) (hw : ∀ d ∈ tables_1, d.before a0 Z = true) (ws : List Jvm.Cond) (k : Int32)  (h0 : Heap) (n0 : Nat) (Z0 : n0 ≤ h0.size)  :
    MetFree l (⟨"com/example/meter/meter/allocation/FlowShareLocalLimitPinLaw", "scaleOf", "(I)D"⟩ : MethodName) (head1 (Jvm.Cond.code (⟨"com/example/meter/meter/allocation/FlowShareLocalLimitPinLaw", "scaleOf", "(I)D"⟩ : MethodName) method_2_code 1 (some .double) :: ws) ({ frames := 0, cells := 0, slots := 0, locals := 0 } : Room)) (fun α U => α = #[(.int k)] ∧ Z.Warmed39 U.vm ∧ U.heap = h0) (fun _ _ _ _ _ => True) (fun _ U ω U' => ∃ ν Λ, ω = .returned ν ∧ QR (own_sc k) h0 n0 ν U'.heap Λ ∧ FrameEnd U ω U' Λ ({ frames := 0, cells := 0, slots := 0, locals := 0 } : Room).cells ({ frames := 0, cells := 0, slots := 0, locals := 0 } : Room).slots) := by
  refine MetFree.of_bodySF (plainFor_of_name own_pn_com_example_meter_meter_allocation_FlowShareLocalLimitPinLaw) hisR ?_
  intro p e s m args below meth c s₁ Bd hml0 hP hK
  obtain ⟨rfl, hZ, hh⟩ := hP
  have hx := Bd.exec
  have hby := Bd.bytes
  have hml : c.maxLocals = 1 := hml0
  have hown : s.vm.findClass "com/example/meter/meter/allocation/FlowShareLocalLimitPinLaw" = some m.cls := findClass_of_methodNamed Bd.named
  have hnm := (name_of_methodNamed Bd.named Bd.method).1
  have X0 : Stand p l e ({ frames := 0, cells := 0, slots := 0, locals := 0 } : Room) s m #[(.int k)] below meth c s₁ [] 0 0 := Stand.of_body Bd
  have e0 : s₁.heap = h0 := by rw [← hh, Bd.state]; rfl
  have N0 := Fr.nil n0
  have KK0 : Keep h0 h0 [] := Keep.refl h0 []
  have pre0 : ∀ τ, Steps p.tables e below (s₁.setTop (mkF m 0 #[.val (.int k)] [])) τ → Steps p.tables e below (s₁.setTop (entryFrame m #[(.int k)] 1)) τ := fun τ κ => castTop (own_ef1 m k) κ
  have pre1 : ∀ τ, Steps p.tables e below (s₁.setTop (mkF m 1 #[.val (.int k)] [(.int k)])) τ → Steps p.tables e below (s₁.setTop (entryFrame m #[(.int k)] 1)) τ := fun τ kt => pre0 τ (by
    show Steps p.tables e below (s₁.setTop (mkF m 0 #[.val (.int k)] [])) τ
    refine XS.iloadN X0.here hx rfl (hb hby d1_0) rfl ?_
    exact kt)
  by_cases q0 : k = (0 : Int32)
  · skip
    have hr : own_sc k = FP.dconst1 := if_pos q0
    have pre2 : ∀ τ, Steps p.tables e below (s₁.setTop (mkF m 5 #[.val (.int k)] [(.double FP.dconst1)])) τ → Steps p.tables e below (s₁.setTop (entryFrame m #[(.int k)] 1)) τ := fun τ kt => pre1 τ (by
      show Steps p.tables e below (s₁.setTop (mkF m 1 #[.val (.int k)] [(.int k)])) τ
      refine XS.ifNo X0.here hx rfl (hb hby d1_1) rfl ((if0 _ _).trans (teq q0).2) ?_
      show Steps p.tables e below (s₁.setTop (mkF m 4 #[.val (.int k)] [])) τ
      refine own_dconst1 X0.here hx rfl (hb hby d1_4) ?_
      exact kt)
    obtain ⟨fs, hrL, hrun, hended, hW, hsame⟩ := X0.leave (v := some (.double FP.dconst1)) (fun h => by rw [Bd.returns] at h; cases h)
    refine ⟨_, _, pre2 _ ?_, hrun, hended, _, _, rfl, ?_, ⟨_, rfl⟩, hW, hsame.mono (by decide) (by decide)⟩
    · show Steps p.tables e below (s₁.setTop (mkF m 5 #[.val (.int k)] [(.double FP.dconst1)])) _
      exact own_retD X0 hx Bd.returns (hb hby d1_5) hrL
    · show QR (own_sc k) h0 n0 _ s₁.heap _
      rw [e0]
      exact ⟨congrArg (fun z => some (Value.double z)) hr.symm, N0, rfl⟩
  · skip
    have pre3 : ∀ τ, Steps p.tables e below (s₁.setTop (mkF m 8 #[.val (.int k)] [(.int (1 : Int32)), (.int k)])) τ → Steps p.tables e below (s₁.setTop (entryFrame m #[(.int k)] 1)) τ := fun τ kt => pre1 τ (by
      show Steps p.tables e below (s₁.setTop (mkF m 1 #[.val (.int k)] [(.int k)])) τ
      refine XS.ifYes X0.here hx rfl (pc0 := 1) (pc' := 6) rfl (hb hby d1_1) rfl ((if0 _ _).trans (feq q0).2) (by decide) (by decide) ?_
      show Steps p.tables e below (s₁.setTop (mkF m 6 #[.val (.int k)] [])) τ
      refine XS.iloadN X0.here hx rfl (hb hby d1_6) rfl ?_
      show Steps p.tables e below (s₁.setTop (mkF m 7 #[.val (.int k)] [(.int k)])) τ
      refine XS.iconst X0.here hx rfl (hb hby d1_7) ?_
      exact kt)
    by_cases q1 : k = (1 : Int32)
    · skip
      have hr : own_sc k = (1 : UInt64) := (if_neg q0).trans (if_pos q1)
      have pre4 : ∀ τ, Steps p.tables e below (s₁.setTop (mkF m 14 #[.val (.int k)] [(.double (1 : UInt64))])) τ → Steps p.tables e below (s₁.setTop (entryFrame m #[(.int k)] 1)) τ := fun τ kt => pre3 τ (by
        show Steps p.tables e below (s₁.setTop (mkF m 8 #[.val (.int k)] [(.int (1 : Int32)), (.int k)])) τ
        refine XS.icmpNo X0.here hx rfl (hb hby d1_8) rfl (teq q1).2 ?_
        show Steps p.tables e below (s₁.setTop (mkF m 11 #[.val (.int k)] [])) τ
        refine X0.ldc2DoubleC hx hown (mvT hZ (hw _ (List.mem_of_getElem? (i := 6) rfl))) (g := (mkF m 11 #[.val (.int k)] [])) rfl (hb hby d1_11) _ ?_
        exact kt)
      obtain ⟨fs, hrL, hrun, hended, hW, hsame⟩ := X0.leave (v := some (.double (1 : UInt64))) (fun h => by rw [Bd.returns] at h; cases h)
      refine ⟨_, _, pre4 _ ?_, hrun, hended, _, _, rfl, ?_, ⟨_, rfl⟩, hW, hsame.mono (by decide) (by decide)⟩
      · show Steps p.tables e below (s₁.setTop (mkF m 14 #[.val (.int k)] [(.double (1 : UInt64))])) _
        exact own_retD X0 hx Bd.returns (hb hby d1_14) hrL
      · show QR (own_sc k) h0 n0 _ s₁.heap _
        rw [e0]
        exact ⟨congrArg (fun z => some (Value.double z)) hr.symm, N0, rfl⟩
    · skip
      have pre5 : ∀ τ, Steps p.tables e below (s₁.setTop (mkF m 17 #[.val (.int k)] [(.int (2 : Int32)), (.int k)])) τ → Steps p.tables e below (s₁.setTop (entryFrame m #[(.int k)] 1)) τ := fun τ kt => pre3 τ (by
        show Steps p.tables e below (s₁.setTop (mkF m 8 #[.val (.int k)] [(.int (1 : Int32)), (.int k)])) τ
        refine XS.icmpYes X0.here hx rfl (pc0 := 8) (pc' := 15) rfl (hb hby d1_8) rfl (feq q1).2 (by decide) (by decide) ?_
        show Steps p.tables e below (s₁.setTop (mkF m 15 #[.val (.int k)] [])) τ
        refine XS.iloadN X0.here hx rfl (hb hby d1_15) rfl ?_
        show Steps p.tables e below (s₁.setTop (mkF m 16 #[.val (.int k)] [(.int k)])) τ
        refine XS.iconst X0.here hx rfl (hb hby d1_16) ?_
        exact kt)
      by_cases q2 : k = (2 : Int32)
      · skip
        have hr : own_sc k = (553942754166571008 : UInt64) := (if_neg q0).trans ((if_neg q1).trans (if_pos q2))
        have pre6 : ∀ τ, Steps p.tables e below (s₁.setTop (mkF m 23 #[.val (.int k)] [(.double (553942754166571008 : UInt64))])) τ → Steps p.tables e below (s₁.setTop (entryFrame m #[(.int k)] 1)) τ := fun τ kt => pre5 τ (by
          show Steps p.tables e below (s₁.setTop (mkF m 17 #[.val (.int k)] [(.int (2 : Int32)), (.int k)])) τ
          refine XS.icmpNo X0.here hx rfl (hb hby d1_17) rfl (teq q2).2 ?_
          show Steps p.tables e below (s₁.setTop (mkF m 20 #[.val (.int k)] [])) τ
          refine X0.ldc2DoubleC hx hown (mvT hZ (hw _ (List.mem_of_getElem? (i := 14) rfl))) (g := (mkF m 20 #[.val (.int k)] [])) rfl (hb hby d1_20) _ ?_
          exact kt)
        obtain ⟨fs, hrL, hrun, hended, hW, hsame⟩ := X0.leave (v := some (.double (553942754166571008 : UInt64))) (fun h => by rw [Bd.returns] at h; cases h)
        refine ⟨_, _, pre6 _ ?_, hrun, hended, _, _, rfl, ?_, ⟨_, rfl⟩, hW, hsame.mono (by decide) (by decide)⟩
        · show Steps p.tables e below (s₁.setTop (mkF m 23 #[.val (.int k)] [(.double (553942754166571008 : UInt64))])) _
          exact own_retD X0 hx Bd.returns (hb hby d1_23) hrL
        · show QR (own_sc k) h0 n0 _ s₁.heap _
          rw [e0]
          exact ⟨congrArg (fun z => some (Value.double z)) hr.symm, N0, rfl⟩
      · skip
        have pre7 : ∀ τ, Steps p.tables e below (s₁.setTop (mkF m 26 #[.val (.int k)] [(.int (3 : Int32)), (.int k)])) τ → Steps p.tables e below (s₁.setTop (entryFrame m #[(.int k)] 1)) τ := fun τ kt => pre5 τ (by
          show Steps p.tables e below (s₁.setTop (mkF m 17 #[.val (.int k)] [(.int (2 : Int32)), (.int k)])) τ
          refine XS.icmpYes X0.here hx rfl (pc0 := 17) (pc' := 24) rfl (hb hby d1_17) rfl (feq q2).2 (by decide) (by decide) ?_
          show Steps p.tables e below (s₁.setTop (mkF m 24 #[.val (.int k)] [])) τ
          refine XS.iloadN X0.here hx rfl (hb hby d1_24) rfl ?_
          show Steps p.tables e below (s₁.setTop (mkF m 25 #[.val (.int k)] [(.int k)])) τ
          refine XS.iconst X0.here hx rfl (hb hby d1_25) ?_
          exact kt)
        by_cases q3 : k = (3 : Int32)
        · skip
          have hr : own_sc k = (4602678819172646912 : UInt64) := (if_neg q0).trans ((if_neg q1).trans ((if_neg q2).trans (if_pos q3)))
          have pre8 : ∀ τ, Steps p.tables e below (s₁.setTop (mkF m 32 #[.val (.int k)] [(.double (4602678819172646912 : UInt64))])) τ → Steps p.tables e below (s₁.setTop (entryFrame m #[(.int k)] 1)) τ := fun τ kt => pre7 τ (by
            show Steps p.tables e below (s₁.setTop (mkF m 26 #[.val (.int k)] [(.int (3 : Int32)), (.int k)])) τ
            refine XS.icmpNo X0.here hx rfl (hb hby d1_26) rfl (teq q3).2 ?_
            show Steps p.tables e below (s₁.setTop (mkF m 29 #[.val (.int k)] [])) τ
            refine X0.ldc2DoubleC hx hown (mvT hZ (hw _ (List.mem_of_getElem? (i := 13) rfl))) (g := (mkF m 29 #[.val (.int k)] [])) rfl (hb hby d1_29) _ ?_
            exact kt)
          obtain ⟨fs, hrL, hrun, hended, hW, hsame⟩ := X0.leave (v := some (.double (4602678819172646912 : UInt64))) (fun h => by rw [Bd.returns] at h; cases h)
          refine ⟨_, _, pre8 _ ?_, hrun, hended, _, _, rfl, ?_, ⟨_, rfl⟩, hW, hsame.mono (by decide) (by decide)⟩
          · show Steps p.tables e below (s₁.setTop (mkF m 32 #[.val (.int k)] [(.double (4602678819172646912 : UInt64))])) _
            exact own_retD X0 hx Bd.returns (hb hby d1_32) hrL
          · show QR (own_sc k) h0 n0 _ s₁.heap _
            rw [e0]
            exact ⟨congrArg (fun z => some (Value.double z)) hr.symm, N0, rfl⟩
        · skip
          have pre9 : ∀ τ, Steps p.tables e below (s₁.setTop (mkF m 35 #[.val (.int k)] [(.int (4 : Int32)), (.int k)])) τ → Steps p.tables e below (s₁.setTop (entryFrame m #[(.int k)] 1)) τ := fun τ kt => pre7 τ (by
            show Steps p.tables e below (s₁.setTop (mkF m 26 #[.val (.int k)] [(.int (3 : Int32)), (.int k)])) τ
            refine XS.icmpYes X0.here hx rfl (pc0 := 26) (pc' := 33) rfl (hb hby d1_26) rfl (feq q3).2 (by decide) (by decide) ?_
            show Steps p.tables e below (s₁.setTop (mkF m 33 #[.val (.int k)] [])) τ
            refine XS.iloadN X0.here hx rfl (hb hby d1_33) rfl ?_
            show Steps p.tables e below (s₁.setTop (mkF m 34 #[.val (.int k)] [(.int k)])) τ
            refine XS.iconst X0.here hx rfl (hb hby d1_34) ?_
            exact kt)
          by_cases q4 : k = (4 : Int32)
          · skip
            have hr : own_sc k = (4742290407621132288 : UInt64) := (if_neg q0).trans ((if_neg q1).trans ((if_neg q2).trans ((if_neg q3).trans (if_pos q4))))
            have pre10 : ∀ τ, Steps p.tables e below (s₁.setTop (mkF m 41 #[.val (.int k)] [(.double (4742290407621132288 : UInt64))])) τ → Steps p.tables e below (s₁.setTop (entryFrame m #[(.int k)] 1)) τ := fun τ kt => pre9 τ (by
              show Steps p.tables e below (s₁.setTop (mkF m 35 #[.val (.int k)] [(.int (4 : Int32)), (.int k)])) τ
              refine XS.icmpNo X0.here hx rfl (hb hby d1_35) rfl (teq q4).2 ?_
              show Steps p.tables e below (s₁.setTop (mkF m 38 #[.val (.int k)] [])) τ
              refine X0.ldc2DoubleC hx hown (mvT hZ (hw _ (List.mem_of_getElem? (i := 15) rfl))) (g := (mkF m 38 #[.val (.int k)] [])) rfl (hb hby d1_38) _ ?_
              exact kt)
            obtain ⟨fs, hrL, hrun, hended, hW, hsame⟩ := X0.leave (v := some (.double (4742290407621132288 : UInt64))) (fun h => by rw [Bd.returns] at h; cases h)
            refine ⟨_, _, pre10 _ ?_, hrun, hended, _, _, rfl, ?_, ⟨_, rfl⟩, hW, hsame.mono (by decide) (by decide)⟩
            · show Steps p.tables e below (s₁.setTop (mkF m 41 #[.val (.int k)] [(.double (4742290407621132288 : UInt64))])) _
              exact own_retD X0 hx Bd.returns (hb hby d1_41) hrL
            · show QR (own_sc k) h0 n0 _ s₁.heap _
              rw [e0]
              exact ⟨congrArg (fun z => some (Value.double z)) hr.symm, N0, rfl⟩
          · skip
            have pre11 : ∀ τ, Steps p.tables e below (s₁.setTop (mkF m 44 #[.val (.int k)] [(.int (5 : Int32)), (.int k)])) τ → Steps p.tables e below (s₁.setTop (entryFrame m #[(.int k)] 1)) τ := fun τ kt => pre9 τ (by
              show Steps p.tables e below (s₁.setTop (mkF m 35 #[.val (.int k)] [(.int (4 : Int32)), (.int k)])) τ
              refine XS.icmpYes X0.here hx rfl (pc0 := 35) (pc' := 42) rfl (hb hby d1_35) rfl (feq q4).2 (by decide) (by decide) ?_
              show Steps p.tables e below (s₁.setTop (mkF m 42 #[.val (.int k)] [])) τ
              refine XS.iloadN X0.here hx rfl (hb hby d1_42) rfl ?_
              show Steps p.tables e below (s₁.setTop (mkF m 43 #[.val (.int k)] [(.int k)])) τ
              refine XS.iconst X0.here hx rfl (hb hby d1_43) ?_
              exact kt)
            by_cases q5 : k = (5 : Int32)
            · skip
              have hr : own_sc k = (6858982232485265408 : UInt64) := (if_neg q0).trans ((if_neg q1).trans ((if_neg q2).trans ((if_neg q3).trans ((if_neg q4).trans (if_pos q5)))))
              have pre12 : ∀ τ, Steps p.tables e below (s₁.setTop (mkF m 50 #[.val (.int k)] [(.double (6858982232485265408 : UInt64))])) τ → Steps p.tables e below (s₁.setTop (entryFrame m #[(.int k)] 1)) τ := fun τ kt => pre11 τ (by
                show Steps p.tables e below (s₁.setTop (mkF m 44 #[.val (.int k)] [(.int (5 : Int32)), (.int k)])) τ
                refine XS.icmpNo X0.here hx rfl (hb hby d1_44) rfl (teq q5).2 ?_
                show Steps p.tables e below (s₁.setTop (mkF m 47 #[.val (.int k)] [])) τ
                refine X0.ldc2DoubleC hx hown (mvT hZ (hw _ (List.mem_of_getElem? (i := 16) rfl))) (g := (mkF m 47 #[.val (.int k)] [])) rfl (hb hby d1_47) _ ?_
                exact kt)
              obtain ⟨fs, hrL, hrun, hended, hW, hsame⟩ := X0.leave (v := some (.double (6858982232485265408 : UInt64))) (fun h => by rw [Bd.returns] at h; cases h)
              refine ⟨_, _, pre12 _ ?_, hrun, hended, _, _, rfl, ?_, ⟨_, rfl⟩, hW, hsame.mono (by decide) (by decide)⟩
              · show Steps p.tables e below (s₁.setTop (mkF m 50 #[.val (.int k)] [(.double (6858982232485265408 : UInt64))])) _
                exact own_retD X0 hx Bd.returns (hb hby d1_50) hrL
              · show QR (own_sc k) h0 n0 _ s₁.heap _
                rw [e0]
                exact ⟨congrArg (fun z => some (Value.double z)) hr.symm, N0, rfl⟩
            · skip
              have pre13 : ∀ τ, Steps p.tables e below (s₁.setTop (mkF m 54 #[.val (.int k)] [(.int (6 : Int32)), (.int k)])) τ → Steps p.tables e below (s₁.setTop (entryFrame m #[(.int k)] 1)) τ := fun τ kt => pre11 τ (by
                show Steps p.tables e below (s₁.setTop (mkF m 44 #[.val (.int k)] [(.int (5 : Int32)), (.int k)])) τ
                refine XS.icmpYes X0.here hx rfl (pc0 := 44) (pc' := 51) rfl (hb hby d1_44) rfl (feq q5).2 (by decide) (by decide) ?_
                show Steps p.tables e below (s₁.setTop (mkF m 51 #[.val (.int k)] [])) τ
                refine XS.iloadN X0.here hx rfl (hb hby d1_51) rfl ?_
                show Steps p.tables e below (s₁.setTop (mkF m 52 #[.val (.int k)] [(.int k)])) τ
                refine XS.bipush X0.here hx rfl (hb hby d1_52) ?_
                exact kt)
              by_cases q6 : k = (6 : Int32)
              · skip
                have hr : own_sc k = (8660422083433463808 : UInt64) := (if_neg q0).trans ((if_neg q1).trans ((if_neg q2).trans ((if_neg q3).trans ((if_neg q4).trans ((if_neg q5).trans (if_pos q6))))))
                have pre14 : ∀ τ, Steps p.tables e below (s₁.setTop (mkF m 60 #[.val (.int k)] [(.double (8660422083433463808 : UInt64))])) τ → Steps p.tables e below (s₁.setTop (entryFrame m #[(.int k)] 1)) τ := fun τ kt => pre13 τ (by
                  show Steps p.tables e below (s₁.setTop (mkF m 54 #[.val (.int k)] [(.int (6 : Int32)), (.int k)])) τ
                  refine XS.icmpNo X0.here hx rfl (hb hby d1_54) rfl (teq q6).2 ?_
                  show Steps p.tables e below (s₁.setTop (mkF m 57 #[.val (.int k)] [])) τ
                  refine X0.ldc2DoubleC hx hown (mvT hZ (hw _ (List.mem_of_getElem? (i := 17) rfl))) (g := (mkF m 57 #[.val (.int k)] [])) rfl (hb hby d1_57) _ ?_
                  exact kt)
                obtain ⟨fs, hrL, hrun, hended, hW, hsame⟩ := X0.leave (v := some (.double (8660422083433463808 : UInt64))) (fun h => by rw [Bd.returns] at h; cases h)
                refine ⟨_, _, pre14 _ ?_, hrun, hended, _, _, rfl, ?_, ⟨_, rfl⟩, hW, hsame.mono (by decide) (by decide)⟩
                · show Steps p.tables e below (s₁.setTop (mkF m 60 #[.val (.int k)] [(.double (8660422083433463808 : UInt64))])) _
                  exact own_retD X0 hx Bd.returns (hb hby d1_60) hrL
                · show QR (own_sc k) h0 n0 _ s₁.heap _
                  rw [e0]
                  exact ⟨congrArg (fun z => some (Value.double z)) hr.symm, N0, rfl⟩
              · skip
                have hr : own_sc k = (9110782046170513408 : UInt64) := (if_neg q0).trans ((if_neg q1).trans ((if_neg q2).trans ((if_neg q3).trans ((if_neg q4).trans ((if_neg q5).trans (if_neg q6))))))
                have pre15 : ∀ τ, Steps p.tables e below (s₁.setTop (mkF m 64 #[.val (.int k)] [(.double (9110782046170513408 : UInt64))])) τ → Steps p.tables e below (s₁.setTop (entryFrame m #[(.int k)] 1)) τ := fun τ kt => pre13 τ (by
                  show Steps p.tables e below (s₁.setTop (mkF m 54 #[.val (.int k)] [(.int (6 : Int32)), (.int k)])) τ
                  refine XS.icmpYes X0.here hx rfl (pc0 := 54) (pc' := 61) rfl (hb hby d1_54) rfl (feq q6).2 (by decide) (by decide) ?_
                  show Steps p.tables e below (s₁.setTop (mkF m 61 #[.val (.int k)] [])) τ
                  refine X0.ldc2DoubleC hx hown (mvT hZ (hw _ (List.mem_of_getElem? (i := 11) rfl))) (g := (mkF m 61 #[.val (.int k)] [])) rfl (hb hby d1_61) _ ?_
                  exact kt)
                obtain ⟨fs, hrL, hrun, hended, hW, hsame⟩ := X0.leave (v := some (.double (9110782046170513408 : UInt64))) (fun h => by rw [Bd.returns] at h; cases h)
                refine ⟨_, _, pre15 _ ?_, hrun, hended, _, _, rfl, ?_, ⟨_, rfl⟩, hW, hsame.mono (by decide) (by decide)⟩
                · show Steps p.tables e below (s₁.setTop (mkF m 64 #[.val (.int k)] [(.double (9110782046170513408 : UInt64))])) _
                  exact own_retD X0 hx Bd.returns (hb hby d1_64) hrL
                · show QR (own_sc k) h0 n0 _ s₁.heap _
                  rw [e0]
                  exact ⟨congrArg (fun z => some (Value.double z)) hr.symm, N0, rfl⟩
theorem d2_0 : decode prog_1_method_3_code 0 = .ok (.dload_n 2, 1) := by decide +kernel
theorem d2_1 : decode prog_1_method_3_code 1 = .ok (.dload 4, 2) := by decide +kernel
theorem d2_3 : decode prog_1_method_3_code 3 = .ok (.dadd, 1) := by decide +kernel
theorem d2_4 : decode prog_1_method_3_code 4 = .ok (.dstore 7, 2) := by decide +kernel
theorem d2_6 : decode prog_1_method_3_code 6 = .ok (.dload 7, 2) := by decide +kernel
theorem d2_8 : decode prog_1_method_3_code 8 = .ok (.dconst 0, 1) := by decide +kernel
theorem d2_9 : decode prog_1_method_3_code 9 = .ok (.dcmp .l, 1) := by decide +kernel
theorem d2_10 : decode prog_1_method_3_code 10 = .ok (.ifCond .le 12, 3) := by decide +kernel
theorem d2_13 : decode prog_1_method_3_code 13 = .ok (.dload_n 0, 1) := by decide +kernel
theorem d2_14 : decode prog_1_method_3_code 14 = .ok (.dload_n 2, 1) := by decide +kernel
theorem d2_15 : decode prog_1_method_3_code 15 = .ok (.dload 7, 2) := by decide +kernel
theorem d2_17 : decode prog_1_method_3_code 17 = .ok (.ddiv, 1) := by decide +kernel
theorem d2_18 : decode prog_1_method_3_code 18 = .ok (.dmul, 1) := by decide +kernel
theorem d2_19 : decode prog_1_method_3_code 19 = .ok (.goto 8, 3) := by decide +kernel
theorem d2_22 : decode prog_1_method_3_code 22 = .ok (.dload_n 0, 1) := by decide +kernel
theorem d2_23 : decode prog_1_method_3_code 23 = .ok (.iload 6, 2) := by decide +kernel
theorem d2_25 : decode prog_1_method_3_code 25 = .ok (.i2d, 1) := by decide +kernel
theorem d2_26 : decode prog_1_method_3_code 26 = .ok (.ddiv, 1) := by decide +kernel
theorem d2_27 : decode prog_1_method_3_code 27 = .ok (.dreturn, 1) := by decide +kernel
theorem own_pn_com_example_meter_meter_allocation_FlowShare : plainName "com/example/meter/meter/allocation/FlowShare" = true := by first | (simp [plainName, overriddenIn]; done) | decide +kernel
theorem own_ef2 (m : MethodId) (x0 : UInt64) (x1 : UInt64) (x2 : UInt64) (x3 : Int32) : entryFrame m #[(.double x0), (.double x1), (.double x2), (.int x3)] 9 = mkF m 0 #[.val (.double x0), .second, .val (.double x1), .second, .val (.double x2), .second, .val (.int x3), .unset, .unset] [] := by first | (simp [entryFrame, mkF, argsToLocals, Value.category]; done) | rfl
set_option maxRecDepth 65536 in
set_option maxHeartbeats 40000000 in
theorem rmL (l : Launch) (Z : State) (a0 : Array Value) (hw : ∀ d ∈ tables_1, d.before a0 Z = true) (ws : List Jvm.Cond) (g : UInt64) (o : UInt64) (z : UInt64) (mem : Int32)  (h0 : Heap) (n0 : Nat) (Z0 : n0 ≤ h0.size) (k1 : Jvm.Free.Fl.NoNaN64 (FP.dadd o z)) (hc : (0 : Int32) < cmpValue (FP.dcmp (FP.dadd o z) FP.dconst0) .l) (k2 : Jvm.Free.Fl.NoNaN64 (FP.ddiv o (FP.dadd o z))) (k3 : Jvm.Free.Fl.NoNaN64 (FP.dmul g (FP.ddiv o (FP.dadd o z)))) :
    MetFree l (⟨"com/example/meter/meter/allocation/FlowShare", "localLimit", "(DDDI)D"⟩ : MethodName) (head1 (Jvm.Cond.code (⟨"com/example/meter/meter/allocation/FlowShare", "localLimit", "(DDDI)D"⟩ : MethodName) prog_1_method_3_code 9 (some .double) :: ws) ({ frames := 0, cells := 0, slots := 0, locals := 0 } : Room)) (fun α U => α = #[(.double g), (.double o), (.double z), (.int mem)] ∧ Z.Warmed39 U.vm ∧ U.heap = h0) (fun _ _ _ _ _ => True) (fun _ U ω U' => ∃ ν Λ, ω = .returned ν ∧ QR (FP.dmul g (FP.ddiv o (FP.dadd o z))) h0 n0 ν U'.heap Λ ∧ FrameEnd U ω U' Λ ({ frames := 0, cells := 0, slots := 0, locals := 0 } : Room).cells ({ frames := 0, cells := 0, slots := 0, locals := 0 } : Room).slots) := by
  refine MetFree.of_bodySF (plainFor_of_name own_pn_com_example_meter_meter_allocation_FlowShare) hisR ?_
  intro p e s m args below meth c s₁ Bd hml0 hP hK
  obtain ⟨rfl, hZ, hh⟩ := hP
  have hx := Bd.exec
  have hby := Bd.bytes
  have hml : c.maxLocals = 9 := hml0
  have hown : s.vm.findClass "com/example/meter/meter/allocation/FlowShare" = some m.cls := findClass_of_methodNamed Bd.named
  have hnm := (name_of_methodNamed Bd.named Bd.method).1
  have X0 : Stand p l e ({ frames := 0, cells := 0, slots := 0, locals := 0 } : Room) s m #[(.double g), (.double o), (.double z), (.int mem)] below meth c s₁ [] 0 0 := Stand.of_body Bd
  have e0 : s₁.heap = h0 := by rw [← hh, Bd.state]; rfl
  have N0 := Fr.nil n0
  have KK0 : Keep h0 h0 [] := Keep.refl h0 []
  have pre0 : ∀ τ, Steps p.tables e below (s₁.setTop (mkF m 0 #[.val (.double g), .second, .val (.double o), .second, .val (.double z), .second, .val (.int mem), .unset, .unset] [])) τ → Steps p.tables e below (s₁.setTop (entryFrame m #[(.double g), (.double o), (.double z), (.int mem)] 9)) τ := fun τ κ => castTop (own_ef2 m g o z mem) κ
  have pre16 : ∀ τ, Steps p.tables e below (s₁.setTop (mkF m 27 #[.val (.double g), .second, .val (.double o), .second, .val (.double z), .second, .val (.int mem), .val (.double (FP.dadd o z)), .second] [(.double (FP.dmul g (FP.ddiv o (FP.dadd o z))))])) τ → Steps p.tables e below (s₁.setTop (entryFrame m #[(.double g), (.double o), (.double z), (.int mem)] 9)) τ := fun τ kt => pre0 τ (by
    show Steps p.tables e below (s₁.setTop (mkF m 0 #[.val (.double g), .second, .val (.double o), .second, .val (.double z), .second, .val (.int mem), .unset, .unset] [])) τ
    refine own_dloadN X0.here hx rfl (hb hby d2_0) rfl ?_
    show Steps p.tables e below (s₁.setTop (mkF m 1 #[.val (.double g), .second, .val (.double o), .second, .val (.double z), .second, .val (.int mem), .unset, .unset] [(.double o)])) τ
    refine own_dload X0.here hx rfl (hb hby d2_1) rfl ?_
    show Steps p.tables e below (s₁.setTop (mkF m 3 #[.val (.double g), .second, .val (.double o), .second, .val (.double z), .second, .val (.int mem), .unset, .unset] [(.double z), (.double o)])) τ
    refine own_dadd X0.here hx rfl (hb hby d2_3) rfl (k1) ?_
    show Steps p.tables e below (s₁.setTop (mkF m 4 #[.val (.double g), .second, .val (.double o), .second, .val (.double z), .second, .val (.int mem), .unset, .unset] [(.double (FP.dadd o z))])) τ
    refine own_dstore X0.here hx rfl (hb hby d2_4) rfl (l' := #[.val (.double g), .second, .val (.double o), .second, .val (.double z), .second, .val (.int mem), .val (.double (FP.dadd o z)), .second]) rfl ?_
    show Steps p.tables e below (s₁.setTop (mkF m 6 #[.val (.double g), .second, .val (.double o), .second, .val (.double z), .second, .val (.int mem), .val (.double (FP.dadd o z)), .second] [])) τ
    refine own_dload X0.here hx rfl (hb hby d2_6) rfl ?_
    show Steps p.tables e below (s₁.setTop (mkF m 8 #[.val (.double g), .second, .val (.double o), .second, .val (.double z), .second, .val (.int mem), .val (.double (FP.dadd o z)), .second] [(.double (FP.dadd o z))])) τ
    refine own_dconst0 X0.here hx rfl (hb hby d2_8) ?_
    show Steps p.tables e below (s₁.setTop (mkF m 9 #[.val (.double g), .second, .val (.double o), .second, .val (.double z), .second, .val (.int mem), .val (.double (FP.dadd o z)), .second] [(.double FP.dconst0), (.double (FP.dadd o z))])) τ
    refine own_dcmp X0.here hx rfl (hb hby d2_9) rfl ?_
    show Steps p.tables e below (s₁.setTop (mkF m 10 #[.val (.double g), .second, .val (.double o), .second, .val (.double z), .second, .val (.int mem), .val (.double (FP.dadd o z)), .second] [(.int (cmpValue (FP.dcmp (FP.dadd o z) FP.dconst0) .l))])) τ
    refine XS.ifNo X0.here hx rfl (hb hby d2_10) rfl ((if0 _ _).trans (tlt hc).2.2.2) ?_
    show Steps p.tables e below (s₁.setTop (mkF m 13 #[.val (.double g), .second, .val (.double o), .second, .val (.double z), .second, .val (.int mem), .val (.double (FP.dadd o z)), .second] [])) τ
    refine own_dloadN X0.here hx rfl (hb hby d2_13) rfl ?_
    show Steps p.tables e below (s₁.setTop (mkF m 14 #[.val (.double g), .second, .val (.double o), .second, .val (.double z), .second, .val (.int mem), .val (.double (FP.dadd o z)), .second] [(.double g)])) τ
    refine own_dloadN X0.here hx rfl (hb hby d2_14) rfl ?_
    show Steps p.tables e below (s₁.setTop (mkF m 15 #[.val (.double g), .second, .val (.double o), .second, .val (.double z), .second, .val (.int mem), .val (.double (FP.dadd o z)), .second] [(.double o), (.double g)])) τ
    refine own_dload X0.here hx rfl (hb hby d2_15) rfl ?_
    show Steps p.tables e below (s₁.setTop (mkF m 17 #[.val (.double g), .second, .val (.double o), .second, .val (.double z), .second, .val (.int mem), .val (.double (FP.dadd o z)), .second] [(.double (FP.dadd o z)), (.double o), (.double g)])) τ
    refine own_ddiv X0.here hx rfl (hb hby d2_17) rfl (k2) ?_
    show Steps p.tables e below (s₁.setTop (mkF m 18 #[.val (.double g), .second, .val (.double o), .second, .val (.double z), .second, .val (.int mem), .val (.double (FP.dadd o z)), .second] [(.double (FP.ddiv o (FP.dadd o z))), (.double g)])) τ
    refine own_dmul X0.here hx rfl (hb hby d2_18) rfl (k3) ?_
    show Steps p.tables e below (s₁.setTop (mkF m 19 #[.val (.double g), .second, .val (.double o), .second, .val (.double z), .second, .val (.int mem), .val (.double (FP.dadd o z)), .second] [(.double (FP.dmul g (FP.ddiv o (FP.dadd o z))))])) τ
    refine XS.goto X0.here hx rfl (pc0 := 19) (pc' := 27) rfl (hb hby d2_19) (by decide) (by decide) ?_
    exact kt)
  obtain ⟨fs, hrL, hrun, hended, hW, hsame⟩ := X0.leave (v := some (.double (FP.dmul g (FP.ddiv o (FP.dadd o z))))) (fun h => by rw [Bd.returns] at h; cases h)
  refine ⟨_, _, pre16 _ ?_, hrun, hended, _, _, rfl, ?_, ⟨_, rfl⟩, hW, hsame.mono (by decide) (by decide)⟩
  · show Steps p.tables e below (s₁.setTop (mkF m 27 #[.val (.double g), .second, .val (.double o), .second, .val (.double z), .second, .val (.int mem), .val (.double (FP.dadd o z)), .second] [(.double (FP.dmul g (FP.ddiv o (FP.dadd o z))))])) _
    exact own_retD X0 hx Bd.returns (hb hby d2_27) hrL
  · show QR (FP.dmul g (FP.ddiv o (FP.dadd o z))) h0 n0 _ s₁.heap _
    rw [e0]
    exact ⟨rfl, N0, rfl⟩
set_option maxRecDepth 65536 in
set_option maxHeartbeats 40000000 in
theorem rmM (l : Launch) (Z : State) (a0 : Array Value) (hw : ∀ d ∈ tables_1, d.before a0 Z = true) (ws : List Jvm.Cond) (g : UInt64) (o : UInt64) (z : UInt64) (mem : Int32)  (h0 : Heap) (n0 : Nat) (Z0 : n0 ≤ h0.size) (k1 : Jvm.Free.Fl.NoNaN64 (FP.dadd o z)) (hc : ¬ ((0 : Int32) < cmpValue (FP.dcmp (FP.dadd o z) FP.dconst0) .l)) (k2 : Jvm.Free.Fl.NoNaN64 (FP.ddiv g (FP.i2d mem))) :
    MetFree l (⟨"com/example/meter/meter/allocation/FlowShare", "localLimit", "(DDDI)D"⟩ : MethodName) (head1 (Jvm.Cond.code (⟨"com/example/meter/meter/allocation/FlowShare", "localLimit", "(DDDI)D"⟩ : MethodName) prog_1_method_3_code 9 (some .double) :: ws) ({ frames := 0, cells := 0, slots := 0, locals := 0 } : Room)) (fun α U => α = #[(.double g), (.double o), (.double z), (.int mem)] ∧ Z.Warmed39 U.vm ∧ U.heap = h0) (fun _ _ _ _ _ => True) (fun _ U ω U' => ∃ ν Λ, ω = .returned ν ∧ QR (FP.ddiv g (FP.i2d mem)) h0 n0 ν U'.heap Λ ∧ FrameEnd U ω U' Λ ({ frames := 0, cells := 0, slots := 0, locals := 0 } : Room).cells ({ frames := 0, cells := 0, slots := 0, locals := 0 } : Room).slots) := by
  refine MetFree.of_bodySF (plainFor_of_name own_pn_com_example_meter_meter_allocation_FlowShare) hisR ?_
  intro p e s m args below meth c s₁ Bd hml0 hP hK
  obtain ⟨rfl, hZ, hh⟩ := hP
  have hx := Bd.exec
  have hby := Bd.bytes
  have hml : c.maxLocals = 9 := hml0
  have hown : s.vm.findClass "com/example/meter/meter/allocation/FlowShare" = some m.cls := findClass_of_methodNamed Bd.named
  have hnm := (name_of_methodNamed Bd.named Bd.method).1
  have X0 : Stand p l e ({ frames := 0, cells := 0, slots := 0, locals := 0 } : Room) s m #[(.double g), (.double o), (.double z), (.int mem)] below meth c s₁ [] 0 0 := Stand.of_body Bd
  have e0 : s₁.heap = h0 := by rw [← hh, Bd.state]; rfl
  have N0 := Fr.nil n0
  have KK0 : Keep h0 h0 [] := Keep.refl h0 []
  have pre0 : ∀ τ, Steps p.tables e below (s₁.setTop (mkF m 0 #[.val (.double g), .second, .val (.double o), .second, .val (.double z), .second, .val (.int mem), .unset, .unset] [])) τ → Steps p.tables e below (s₁.setTop (entryFrame m #[(.double g), (.double o), (.double z), (.int mem)] 9)) τ := fun τ κ => castTop (own_ef2 m g o z mem) κ
  have pre17 : ∀ τ, Steps p.tables e below (s₁.setTop (mkF m 27 #[.val (.double g), .second, .val (.double o), .second, .val (.double z), .second, .val (.int mem), .val (.double (FP.dadd o z)), .second] [(.double (FP.ddiv g (FP.i2d mem)))])) τ → Steps p.tables e below (s₁.setTop (entryFrame m #[(.double g), (.double o), (.double z), (.int mem)] 9)) τ := fun τ kt => pre0 τ (by
    show Steps p.tables e below (s₁.setTop (mkF m 0 #[.val (.double g), .second, .val (.double o), .second, .val (.double z), .second, .val (.int mem), .unset, .unset] [])) τ
    refine own_dloadN X0.here hx rfl (hb hby d2_0) rfl ?_
    show Steps p.tables e below (s₁.setTop (mkF m 1 #[.val (.double g), .second, .val (.double o), .second, .val (.double z), .second, .val (.int mem), .unset, .unset] [(.double o)])) τ
    refine own_dload X0.here hx rfl (hb hby d2_1) rfl ?_
    show Steps p.tables e below (s₁.setTop (mkF m 3 #[.val (.double g), .second, .val (.double o), .second, .val (.double z), .second, .val (.int mem), .unset, .unset] [(.double z), (.double o)])) τ
    refine own_dadd X0.here hx rfl (hb hby d2_3) rfl (k1) ?_
    show Steps p.tables e below (s₁.setTop (mkF m 4 #[.val (.double g), .second, .val (.double o), .second, .val (.double z), .second, .val (.int mem), .unset, .unset] [(.double (FP.dadd o z))])) τ
    refine own_dstore X0.here hx rfl (hb hby d2_4) rfl (l' := #[.val (.double g), .second, .val (.double o), .second, .val (.double z), .second, .val (.int mem), .val (.double (FP.dadd o z)), .second]) rfl ?_
    show Steps p.tables e below (s₁.setTop (mkF m 6 #[.val (.double g), .second, .val (.double o), .second, .val (.double z), .second, .val (.int mem), .val (.double (FP.dadd o z)), .second] [])) τ
    refine own_dload X0.here hx rfl (hb hby d2_6) rfl ?_
    show Steps p.tables e below (s₁.setTop (mkF m 8 #[.val (.double g), .second, .val (.double o), .second, .val (.double z), .second, .val (.int mem), .val (.double (FP.dadd o z)), .second] [(.double (FP.dadd o z))])) τ
    refine own_dconst0 X0.here hx rfl (hb hby d2_8) ?_
    show Steps p.tables e below (s₁.setTop (mkF m 9 #[.val (.double g), .second, .val (.double o), .second, .val (.double z), .second, .val (.int mem), .val (.double (FP.dadd o z)), .second] [(.double FP.dconst0), (.double (FP.dadd o z))])) τ
    refine own_dcmp X0.here hx rfl (hb hby d2_9) rfl ?_
    show Steps p.tables e below (s₁.setTop (mkF m 10 #[.val (.double g), .second, .val (.double o), .second, .val (.double z), .second, .val (.int mem), .val (.double (FP.dadd o z)), .second] [(.int (cmpValue (FP.dcmp (FP.dadd o z) FP.dconst0) .l))])) τ
    refine XS.ifYes X0.here hx rfl (pc0 := 10) (pc' := 22) rfl (hb hby d2_10) rfl ((if0 _ _).trans (flt hc).2.2.2) (by decide) (by decide) ?_
    show Steps p.tables e below (s₁.setTop (mkF m 22 #[.val (.double g), .second, .val (.double o), .second, .val (.double z), .second, .val (.int mem), .val (.double (FP.dadd o z)), .second] [])) τ
    refine own_dloadN X0.here hx rfl (hb hby d2_22) rfl ?_
    show Steps p.tables e below (s₁.setTop (mkF m 23 #[.val (.double g), .second, .val (.double o), .second, .val (.double z), .second, .val (.int mem), .val (.double (FP.dadd o z)), .second] [(.double g)])) τ
    refine XS.iload X0.here hx rfl (hb hby d2_23) rfl ?_
    show Steps p.tables e below (s₁.setTop (mkF m 25 #[.val (.double g), .second, .val (.double o), .second, .val (.double z), .second, .val (.int mem), .val (.double (FP.dadd o z)), .second] [(.int mem), (.double g)])) τ
    refine own_i2d X0.here hx rfl (hb hby d2_25) rfl ?_
    show Steps p.tables e below (s₁.setTop (mkF m 26 #[.val (.double g), .second, .val (.double o), .second, .val (.double z), .second, .val (.int mem), .val (.double (FP.dadd o z)), .second] [(.double (FP.i2d mem)), (.double g)])) τ
    refine own_ddiv X0.here hx rfl (hb hby d2_26) rfl (k2) ?_
    exact kt)
  obtain ⟨fs, hrL, hrun, hended, hW, hsame⟩ := X0.leave (v := some (.double (FP.ddiv g (FP.i2d mem)))) (fun h => by rw [Bd.returns] at h; cases h)
  refine ⟨_, _, pre17 _ ?_, hrun, hended, _, _, rfl, ?_, ⟨_, rfl⟩, hW, hsame.mono (by decide) (by decide)⟩
  · show Steps p.tables e below (s₁.setTop (mkF m 27 #[.val (.double g), .second, .val (.double o), .second, .val (.double z), .second, .val (.int mem), .val (.double (FP.dadd o z)), .second] [(.double (FP.ddiv g (FP.i2d mem)))])) _
    exact own_retD X0 hx Bd.returns (hb hby d2_27) hrL
  · show QR (FP.ddiv g (FP.i2d mem)) h0 n0 _ s₁.heap _
    rw [e0]
    exact ⟨rfl, N0, rfl⟩
theorem own_args (p1 p2 p3 p5 : Int32) : ∃ (g a t mem : Int) (j : Nat), j ≤ 15 ∧ t = ((2 ^ j : Nat) : Int) ∧ 0 ≤ a ∧ a ≤ t ∧ 0 ≤ g ∧ g ≤ 1048575 ∧ 1 ≤ mem ∧ mem ≤ 1024 ∧ ((p1 &&& (1048575 : Int32)).toInt64).toInt = g ∧ ((1 : Int32) + (p5 &&& (1023 : Int32))).toInt = mem ∧
    ((1 : Int64) <<< ((p3 &&& (15 : Int32)).toInt64 &&& 63)).toInt = t ∧ (((p2.toInt64 &&& (2147483647 : Int64)) - ((p2.toInt64 &&& (2147483647 : Int64)) / (((1 : Int64) <<< ((p3 &&& (15 : Int32)).toInt64 &&& 63)) + (1 : Int64))) * (((1 : Int64) <<< ((p3 &&& (15 : Int32)).toInt64 &&& 63)) + (1 : Int64)))).toInt = a ∧ ¬ (((1 : Int64) <<< ((p3 &&& (15 : Int32)).toInt64 &&& 63)) + (1 : Int64)) = 0 := by
  have hg := c_and p1 1048575 (by decide)
  have hm := c_and p5 1023 (by decide)
  have hk := c_and p3 15 (by decide)
  rw [show (1048575 : Int32).toInt = 1048575 by decide] at hg
  rw [show (1023 : Int32).toInt = 1023 by decide] at hm
  rw [show (15 : Int32).toInt = 15 by decide] at hk
  generalize p3 &&& 15 = u at *
  have hu : u.toInt = (u.toInt.toNat : Int) := by omega
  have hj : u.toInt.toNat ≤ 15 := by omega
  generalize u.toInt.toNat = j at *
  have p : (2 ^ j : Nat) ≤ 2 ^ 15 := Nat.pow_le_pow_right (by decide) hj
  have p0 := Nat.two_pow_pos j
  have ht := own_shl hu (by omega) 1 (by rw [show (1 : Int64).toInt = 1 by decide]; omega) (by rw [show (1 : Int64).toInt = 1 by decide]; omega)
  rw [show (1 : Int64).toInt = 1 by decide, Int.one_mul] at ht
  generalize (1 : Int64) <<< (u.toInt64 &&& 63) = T at *
  have hy : (T + 1).toInt = T.toInt + 1 := by
    have := FP.Core.int64_add (a := T) (b := 1) (by rw [show (1 : Int64).toInt = 1 by decide]; omega) (by rw [show (1 : Int64).toInt = 1 by decide]; omega)
    rw [this]; rfl
  have hx := c_maskL p2.toInt64 2147483647 31 (by decide) (by decide)
  have hx0 : 0 ≤ (p2.toInt64 &&& 2147483647).toInt := by rw [hx]; exact Int.emod_nonneg _ (by decide)
  have hr := (c_lrem (p2.toInt64 &&& 2147483647) (T + 1) (T.toInt + 1) hy).1 hx0
  have e1 := Int.emod_nonneg (p2.toInt64 &&& 2147483647).toInt (b := T.toInt + 1) (by omega)
  have e2 := Int.emod_lt_of_pos (p2.toInt64 &&& 2147483647).toInt (b := T.toInt + 1) (by omega)
  have hmm : ((1 : Int32) + (p5 &&& (1023 : Int32))).toInt = 1 + (p5 &&& (1023 : Int32)).toInt := by
    have hc := c_iadd 1 (p5 &&& 1023)
    have r := rng32 ((1 : Int32) + (p5 &&& 1023))
    rw [show (1 : Int32).toInt = 1 by decide] at hc
    omega
  refine ⟨_, _, _, _, j, hj, ht, ?_, ?_, ?_, ?_, ?_, ?_, rfl, rfl, rfl, rfl, ?_⟩
  · rw [hr]; exact e1
  · rw [hr]; omega
  · rw [c_i2l]; exact hg.1
  · rw [c_i2l]; exact hg.2
  · omega
  · omega
  · intro q
    rw [q] at hy
    rw [show (0 : Int64).toInt = 0 by decide] at hy
    omega
theorem own_ef0 (m : MethodId) (x0 : Int32) (x1 : Int32) (x2 : Int32) (x3 : Int32) (x4 : Int32) (x5 : Int32) : entryFrame m #[(.int x0), (.int x1), (.int x2), (.int x3), (.int x4), (.int x5)] maxLocals = mkF m 0 #[.val (.int x0), .val (.int x1), .val (.int x2), .val (.int x3), .val (.int x4), .val (.int x5), .unset, .unset, .unset, .unset, .unset, .unset, .unset, .unset, .unset, .unset, .unset, .unset, .unset, .unset, .unset, .unset, .unset, .unset, .unset, .unset, .unset] [] := by first | (simp [entryFrame, mkF, argsToLocals, Value.category, maxLocals]; done) | rfl
def Q0 (n0 : Nat) (v : Option Value) (h : Heap) (L : List Loc) : Prop := v = some (.int 1) ∧ Fr n0 L
set_option maxRecDepth 65536 in
set_option maxHeartbeats 40000000 in
theorem rm0 (l : Launch) (Z : State) (a0 : Array Value) (hw : ∀ d ∈ tables_1, d.before a0 Z = true) (ws : List Jvm.Cond) (p1 : Int32) (p2 : Int32) (p3 : Int32) (p4 : Int32) (p5 : Int32) (p6 : Int32)  (h0 : Heap) (n0 : Nat) (Z0 : n0 ≤ h0.size)  :
    MetFree l x (head1 (Jvm.Cond.code x code maxLocals ret :: ws) room_1) (fun α U => α = #[(.int p1), (.int p2), (.int p3), (.int p4), (.int p5), (.int p6)] ∧ Z.Warmed39 U.vm ∧ U.heap = h0) (fun _ _ _ _ _ => True) (fun _ U ω U' => ∃ ν Λ, ω = .returned ν ∧ Q0 n0 ν U'.heap Λ ∧ FrameEnd U ω U' Λ room_1.cells room_1.slots) := by
  refine MetFree.of_bodySF (plainFor_of_name own_pn_com_example_meter_meter_allocation_FlowShareLocalLimitPinLaw) hisR ?_
  intro p e s m args below meth c s₁ Bd hml0 hP hK
  obtain ⟨rfl, hZ, hh⟩ := hP
  have hx := Bd.exec
  have hby := Bd.bytes
  have hml : c.maxLocals = 27 := hml0
  have hown : s.vm.findClass "com/example/meter/meter/allocation/FlowShareLocalLimitPinLaw" = some m.cls := findClass_of_methodNamed Bd.named
  have hnm := (name_of_methodNamed Bd.named Bd.method).1
  have X0 : Stand p l e room_1 s m #[(.int p1), (.int p2), (.int p3), (.int p4), (.int p5), (.int p6)] below meth c s₁ [] 0 0 := Stand.of_body Bd
  have e0 : s₁.heap = h0 := by rw [← hh, Bd.state]; rfl
  have N0 := Fr.nil n0
  have KK0 : Keep h0 h0 [] := Keep.refl h0 []
  have pre0 : ∀ τ, Steps p.tables e below (s₁.setTop (mkF m 0 #[.val (.int p1), .val (.int p2), .val (.int p3), .val (.int p4), .val (.int p5), .val (.int p6), .unset, .unset, .unset, .unset, .unset, .unset, .unset, .unset, .unset, .unset, .unset, .unset, .unset, .unset, .unset, .unset, .unset, .unset, .unset, .unset, .unset] [])) τ → Steps p.tables e below (s₁.setTop (entryFrame m #[(.int p1), (.int p2), (.int p3), (.int p4), (.int p5), (.int p6)] maxLocals)) τ := fun τ κ => castTop (own_ef0 m p1 p2 p3 p4 p5 p6) κ
  obtain ⟨g, a, t, mem, j, hj, ht, ha, hat, hg, hg', hm, hm', eg, em, et, ea, hnz⟩ := own_args p1 p2 p3 p5
  have pre18 : ∀ τ, Steps p.tables e below (s₁.setTop (mkF m 46 #[.val (.int p1), .val (.int p2), .val (.int p3), .val (.int p4), .val (.int p5), .val (.int p6), .val (.int ((1 : Int32) + (p5 &&& (1023 : Int32)))), .val (.long ((p1 &&& (1048575 : Int32))).toInt64), .second, .val (.int (p3 &&& (15 : Int32))), .val (.long ((1 : Int64) <<< ((p3 &&& (15 : Int32)).toInt64 &&& 63))), .second, .val (.long (((p2).toInt64 &&& (2147483647 : Int64)) - (((p2).toInt64 &&& (2147483647 : Int64)) / (((1 : Int64) <<< ((p3 &&& (15 : Int32)).toInt64 &&& 63)) + (1 : Int64))) * (((1 : Int64) <<< ((p3 &&& (15 : Int32)).toInt64 &&& 63)) + (1 : Int64)))), .second, .unset, .unset, .unset, .unset, .unset, .unset, .unset, .unset, .unset, .unset, .unset, .unset, .unset] [(.int (p4 &&& (7 : Int32)))])) τ → Steps p.tables e below (s₁.setTop (entryFrame m #[(.int p1), (.int p2), (.int p3), (.int p4), (.int p5), (.int p6)] maxLocals)) τ := fun τ kt => pre0 τ (by
    show Steps p.tables e below (s₁.setTop (mkF m 0 #[.val (.int p1), .val (.int p2), .val (.int p3), .val (.int p4), .val (.int p5), .val (.int p6), .unset, .unset, .unset, .unset, .unset, .unset, .unset, .unset, .unset, .unset, .unset, .unset, .unset, .unset, .unset, .unset, .unset, .unset, .unset, .unset, .unset] [])) τ
    refine XS.iconst X0.here hx rfl (hb hby at_0) ?_
    show Steps p.tables e below (s₁.setTop (mkF m 1 #[.val (.int p1), .val (.int p2), .val (.int p3), .val (.int p4), .val (.int p5), .val (.int p6), .unset, .unset, .unset, .unset, .unset, .unset, .unset, .unset, .unset, .unset, .unset, .unset, .unset, .unset, .unset, .unset, .unset, .unset, .unset, .unset, .unset] [(.int (1 : Int32))])) τ
    refine XS.iload X0.here hx rfl (hb hby at_1) rfl ?_
    show Steps p.tables e below (s₁.setTop (mkF m 3 #[.val (.int p1), .val (.int p2), .val (.int p3), .val (.int p4), .val (.int p5), .val (.int p6), .unset, .unset, .unset, .unset, .unset, .unset, .unset, .unset, .unset, .unset, .unset, .unset, .unset, .unset, .unset, .unset, .unset, .unset, .unset, .unset, .unset] [(.int p5), (.int (1 : Int32))])) τ
    refine XS.sipush X0.here hx rfl (hb hby at_3) ?_
    show Steps p.tables e below (s₁.setTop (mkF m 6 #[.val (.int p1), .val (.int p2), .val (.int p3), .val (.int p4), .val (.int p5), .val (.int p6), .unset, .unset, .unset, .unset, .unset, .unset, .unset, .unset, .unset, .unset, .unset, .unset, .unset, .unset, .unset, .unset, .unset, .unset, .unset, .unset, .unset] [(.int (1023 : Int32)), (.int p5), (.int (1 : Int32))])) τ
    refine XS.iand X0.here hx rfl (hb hby at_6) rfl ?_
    show Steps p.tables e below (s₁.setTop (mkF m 7 #[.val (.int p1), .val (.int p2), .val (.int p3), .val (.int p4), .val (.int p5), .val (.int p6), .unset, .unset, .unset, .unset, .unset, .unset, .unset, .unset, .unset, .unset, .unset, .unset, .unset, .unset, .unset, .unset, .unset, .unset, .unset, .unset, .unset] [(.int (p5 &&& (1023 : Int32))), (.int (1 : Int32))])) τ
    refine XS.iadd X0.here hx rfl (hb hby at_7) rfl ?_
    show Steps p.tables e below (s₁.setTop (mkF m 8 #[.val (.int p1), .val (.int p2), .val (.int p3), .val (.int p4), .val (.int p5), .val (.int p6), .unset, .unset, .unset, .unset, .unset, .unset, .unset, .unset, .unset, .unset, .unset, .unset, .unset, .unset, .unset, .unset, .unset, .unset, .unset, .unset, .unset] [(.int ((1 : Int32) + (p5 &&& (1023 : Int32))))])) τ
    refine XS.istore X0.here hx rfl (hb hby at_8) rfl (l' := #[.val (.int p1), .val (.int p2), .val (.int p3), .val (.int p4), .val (.int p5), .val (.int p6), .val (.int ((1 : Int32) + (p5 &&& (1023 : Int32)))), .unset, .unset, .unset, .unset, .unset, .unset, .unset, .unset, .unset, .unset, .unset, .unset, .unset, .unset, .unset, .unset, .unset, .unset, .unset, .unset]) rfl ?_
    show Steps p.tables e below (s₁.setTop (mkF m 10 #[.val (.int p1), .val (.int p2), .val (.int p3), .val (.int p4), .val (.int p5), .val (.int p6), .val (.int ((1 : Int32) + (p5 &&& (1023 : Int32)))), .unset, .unset, .unset, .unset, .unset, .unset, .unset, .unset, .unset, .unset, .unset, .unset, .unset, .unset, .unset, .unset, .unset, .unset, .unset, .unset] [])) τ
    refine XS.iloadN X0.here hx rfl (hb hby at_10) rfl ?_
    show Steps p.tables e below (s₁.setTop (mkF m 11 #[.val (.int p1), .val (.int p2), .val (.int p3), .val (.int p4), .val (.int p5), .val (.int p6), .val (.int ((1 : Int32) + (p5 &&& (1023 : Int32)))), .unset, .unset, .unset, .unset, .unset, .unset, .unset, .unset, .unset, .unset, .unset, .unset, .unset, .unset, .unset, .unset, .unset, .unset, .unset, .unset] [(.int p1)])) τ
    refine X0.ldcInt hx hown (mvT hZ (hw _ (List.mem_of_getElem? (i := 0) rfl))) (g := (mkF m 11 #[.val (.int p1), .val (.int p2), .val (.int p3), .val (.int p4), .val (.int p5), .val (.int p6), .val (.int ((1 : Int32) + (p5 &&& (1023 : Int32)))), .unset, .unset, .unset, .unset, .unset, .unset, .unset, .unset, .unset, .unset, .unset, .unset, .unset, .unset, .unset, .unset, .unset, .unset, .unset, .unset] [(.int p1)])) rfl (hb hby at_11) _ ?_
    show Steps p.tables e below (s₁.setTop (mkF m 13 #[.val (.int p1), .val (.int p2), .val (.int p3), .val (.int p4), .val (.int p5), .val (.int p6), .val (.int ((1 : Int32) + (p5 &&& (1023 : Int32)))), .unset, .unset, .unset, .unset, .unset, .unset, .unset, .unset, .unset, .unset, .unset, .unset, .unset, .unset, .unset, .unset, .unset, .unset, .unset, .unset] [(.int (1048575 : Int32)), (.int p1)])) τ
    refine XS.iand X0.here hx rfl (hb hby at_13) rfl ?_
    show Steps p.tables e below (s₁.setTop (mkF m 14 #[.val (.int p1), .val (.int p2), .val (.int p3), .val (.int p4), .val (.int p5), .val (.int p6), .val (.int ((1 : Int32) + (p5 &&& (1023 : Int32)))), .unset, .unset, .unset, .unset, .unset, .unset, .unset, .unset, .unset, .unset, .unset, .unset, .unset, .unset, .unset, .unset, .unset, .unset, .unset, .unset] [(.int (p1 &&& (1048575 : Int32)))])) τ
    refine XT.i2l X0.here hx rfl (hb hby at_14) rfl ?_
    show Steps p.tables e below (s₁.setTop (mkF m 15 #[.val (.int p1), .val (.int p2), .val (.int p3), .val (.int p4), .val (.int p5), .val (.int p6), .val (.int ((1 : Int32) + (p5 &&& (1023 : Int32)))), .unset, .unset, .unset, .unset, .unset, .unset, .unset, .unset, .unset, .unset, .unset, .unset, .unset, .unset, .unset, .unset, .unset, .unset, .unset, .unset] [(.long ((p1 &&& (1048575 : Int32))).toInt64)])) τ
    refine XT.lstore X0.here hx rfl (hb hby at_15) rfl (l' := #[.val (.int p1), .val (.int p2), .val (.int p3), .val (.int p4), .val (.int p5), .val (.int p6), .val (.int ((1 : Int32) + (p5 &&& (1023 : Int32)))), .val (.long ((p1 &&& (1048575 : Int32))).toInt64), .second, .unset, .unset, .unset, .unset, .unset, .unset, .unset, .unset, .unset, .unset, .unset, .unset, .unset, .unset, .unset, .unset, .unset, .unset]) rfl ?_
    show Steps p.tables e below (s₁.setTop (mkF m 17 #[.val (.int p1), .val (.int p2), .val (.int p3), .val (.int p4), .val (.int p5), .val (.int p6), .val (.int ((1 : Int32) + (p5 &&& (1023 : Int32)))), .val (.long ((p1 &&& (1048575 : Int32))).toInt64), .second, .unset, .unset, .unset, .unset, .unset, .unset, .unset, .unset, .unset, .unset, .unset, .unset, .unset, .unset, .unset, .unset, .unset, .unset] [])) τ
    refine XS.iloadN X0.here hx rfl (hb hby at_17) rfl ?_
    show Steps p.tables e below (s₁.setTop (mkF m 18 #[.val (.int p1), .val (.int p2), .val (.int p3), .val (.int p4), .val (.int p5), .val (.int p6), .val (.int ((1 : Int32) + (p5 &&& (1023 : Int32)))), .val (.long ((p1 &&& (1048575 : Int32))).toInt64), .second, .unset, .unset, .unset, .unset, .unset, .unset, .unset, .unset, .unset, .unset, .unset, .unset, .unset, .unset, .unset, .unset, .unset, .unset] [(.int p3)])) τ
    refine XS.bipush X0.here hx rfl (hb hby at_18) ?_
    show Steps p.tables e below (s₁.setTop (mkF m 20 #[.val (.int p1), .val (.int p2), .val (.int p3), .val (.int p4), .val (.int p5), .val (.int p6), .val (.int ((1 : Int32) + (p5 &&& (1023 : Int32)))), .val (.long ((p1 &&& (1048575 : Int32))).toInt64), .second, .unset, .unset, .unset, .unset, .unset, .unset, .unset, .unset, .unset, .unset, .unset, .unset, .unset, .unset, .unset, .unset, .unset, .unset] [(.int (15 : Int32)), (.int p3)])) τ
    refine XS.iand X0.here hx rfl (hb hby at_20) rfl ?_
    show Steps p.tables e below (s₁.setTop (mkF m 21 #[.val (.int p1), .val (.int p2), .val (.int p3), .val (.int p4), .val (.int p5), .val (.int p6), .val (.int ((1 : Int32) + (p5 &&& (1023 : Int32)))), .val (.long ((p1 &&& (1048575 : Int32))).toInt64), .second, .unset, .unset, .unset, .unset, .unset, .unset, .unset, .unset, .unset, .unset, .unset, .unset, .unset, .unset, .unset, .unset, .unset, .unset] [(.int (p3 &&& (15 : Int32)))])) τ
    refine XS.istore X0.here hx rfl (hb hby at_21) rfl (l' := #[.val (.int p1), .val (.int p2), .val (.int p3), .val (.int p4), .val (.int p5), .val (.int p6), .val (.int ((1 : Int32) + (p5 &&& (1023 : Int32)))), .val (.long ((p1 &&& (1048575 : Int32))).toInt64), .second, .val (.int (p3 &&& (15 : Int32))), .unset, .unset, .unset, .unset, .unset, .unset, .unset, .unset, .unset, .unset, .unset, .unset, .unset, .unset, .unset, .unset, .unset]) rfl ?_
    show Steps p.tables e below (s₁.setTop (mkF m 23 #[.val (.int p1), .val (.int p2), .val (.int p3), .val (.int p4), .val (.int p5), .val (.int p6), .val (.int ((1 : Int32) + (p5 &&& (1023 : Int32)))), .val (.long ((p1 &&& (1048575 : Int32))).toInt64), .second, .val (.int (p3 &&& (15 : Int32))), .unset, .unset, .unset, .unset, .unset, .unset, .unset, .unset, .unset, .unset, .unset, .unset, .unset, .unset, .unset, .unset, .unset] [])) τ
    refine XT.lconst X0.here hx rfl (hb hby at_23) ?_
    show Steps p.tables e below (s₁.setTop (mkF m 24 #[.val (.int p1), .val (.int p2), .val (.int p3), .val (.int p4), .val (.int p5), .val (.int p6), .val (.int ((1 : Int32) + (p5 &&& (1023 : Int32)))), .val (.long ((p1 &&& (1048575 : Int32))).toInt64), .second, .val (.int (p3 &&& (15 : Int32))), .unset, .unset, .unset, .unset, .unset, .unset, .unset, .unset, .unset, .unset, .unset, .unset, .unset, .unset, .unset, .unset, .unset] [(.long (1 : Int64))])) τ
    refine XS.iload X0.here hx rfl (hb hby at_24) rfl ?_
    show Steps p.tables e below (s₁.setTop (mkF m 26 #[.val (.int p1), .val (.int p2), .val (.int p3), .val (.int p4), .val (.int p5), .val (.int p6), .val (.int ((1 : Int32) + (p5 &&& (1023 : Int32)))), .val (.long ((p1 &&& (1048575 : Int32))).toInt64), .second, .val (.int (p3 &&& (15 : Int32))), .unset, .unset, .unset, .unset, .unset, .unset, .unset, .unset, .unset, .unset, .unset, .unset, .unset, .unset, .unset, .unset, .unset] [(.int (p3 &&& (15 : Int32))), (.long (1 : Int64))])) τ
    refine XT.lshl X0.here hx rfl (hb hby at_26) rfl ?_
    show Steps p.tables e below (s₁.setTop (mkF m 27 #[.val (.int p1), .val (.int p2), .val (.int p3), .val (.int p4), .val (.int p5), .val (.int p6), .val (.int ((1 : Int32) + (p5 &&& (1023 : Int32)))), .val (.long ((p1 &&& (1048575 : Int32))).toInt64), .second, .val (.int (p3 &&& (15 : Int32))), .unset, .unset, .unset, .unset, .unset, .unset, .unset, .unset, .unset, .unset, .unset, .unset, .unset, .unset, .unset, .unset, .unset] [(.long ((1 : Int64) <<< ((p3 &&& (15 : Int32)).toInt64 &&& 63)))])) τ
    refine XT.lstore X0.here hx rfl (hb hby at_27) rfl (l' := #[.val (.int p1), .val (.int p2), .val (.int p3), .val (.int p4), .val (.int p5), .val (.int p6), .val (.int ((1 : Int32) + (p5 &&& (1023 : Int32)))), .val (.long ((p1 &&& (1048575 : Int32))).toInt64), .second, .val (.int (p3 &&& (15 : Int32))), .val (.long ((1 : Int64) <<< ((p3 &&& (15 : Int32)).toInt64 &&& 63))), .second, .unset, .unset, .unset, .unset, .unset, .unset, .unset, .unset, .unset, .unset, .unset, .unset, .unset, .unset, .unset]) rfl ?_
    show Steps p.tables e below (s₁.setTop (mkF m 29 #[.val (.int p1), .val (.int p2), .val (.int p3), .val (.int p4), .val (.int p5), .val (.int p6), .val (.int ((1 : Int32) + (p5 &&& (1023 : Int32)))), .val (.long ((p1 &&& (1048575 : Int32))).toInt64), .second, .val (.int (p3 &&& (15 : Int32))), .val (.long ((1 : Int64) <<< ((p3 &&& (15 : Int32)).toInt64 &&& 63))), .second, .unset, .unset, .unset, .unset, .unset, .unset, .unset, .unset, .unset, .unset, .unset, .unset, .unset, .unset, .unset] [])) τ
    refine XS.iloadN X0.here hx rfl (hb hby at_29) rfl ?_
    show Steps p.tables e below (s₁.setTop (mkF m 30 #[.val (.int p1), .val (.int p2), .val (.int p3), .val (.int p4), .val (.int p5), .val (.int p6), .val (.int ((1 : Int32) + (p5 &&& (1023 : Int32)))), .val (.long ((p1 &&& (1048575 : Int32))).toInt64), .second, .val (.int (p3 &&& (15 : Int32))), .val (.long ((1 : Int64) <<< ((p3 &&& (15 : Int32)).toInt64 &&& 63))), .second, .unset, .unset, .unset, .unset, .unset, .unset, .unset, .unset, .unset, .unset, .unset, .unset, .unset, .unset, .unset] [(.int p2)])) τ
    refine XT.i2l X0.here hx rfl (hb hby at_30) rfl ?_
    show Steps p.tables e below (s₁.setTop (mkF m 31 #[.val (.int p1), .val (.int p2), .val (.int p3), .val (.int p4), .val (.int p5), .val (.int p6), .val (.int ((1 : Int32) + (p5 &&& (1023 : Int32)))), .val (.long ((p1 &&& (1048575 : Int32))).toInt64), .second, .val (.int (p3 &&& (15 : Int32))), .val (.long ((1 : Int64) <<< ((p3 &&& (15 : Int32)).toInt64 &&& 63))), .second, .unset, .unset, .unset, .unset, .unset, .unset, .unset, .unset, .unset, .unset, .unset, .unset, .unset, .unset, .unset] [(.long (p2).toInt64)])) τ
    refine X0.ldc2Long hx hown (mvT hZ (hw _ (List.mem_of_getElem? (i := 1) rfl))) (g := (mkF m 31 #[.val (.int p1), .val (.int p2), .val (.int p3), .val (.int p4), .val (.int p5), .val (.int p6), .val (.int ((1 : Int32) + (p5 &&& (1023 : Int32)))), .val (.long ((p1 &&& (1048575 : Int32))).toInt64), .second, .val (.int (p3 &&& (15 : Int32))), .val (.long ((1 : Int64) <<< ((p3 &&& (15 : Int32)).toInt64 &&& 63))), .second, .unset, .unset, .unset, .unset, .unset, .unset, .unset, .unset, .unset, .unset, .unset, .unset, .unset, .unset, .unset] [(.long (p2).toInt64)])) rfl (hb hby at_31) _ ?_
    show Steps p.tables e below (s₁.setTop (mkF m 34 #[.val (.int p1), .val (.int p2), .val (.int p3), .val (.int p4), .val (.int p5), .val (.int p6), .val (.int ((1 : Int32) + (p5 &&& (1023 : Int32)))), .val (.long ((p1 &&& (1048575 : Int32))).toInt64), .second, .val (.int (p3 &&& (15 : Int32))), .val (.long ((1 : Int64) <<< ((p3 &&& (15 : Int32)).toInt64 &&& 63))), .second, .unset, .unset, .unset, .unset, .unset, .unset, .unset, .unset, .unset, .unset, .unset, .unset, .unset, .unset, .unset] [(.long (2147483647 : Int64)), (.long (p2).toInt64)])) τ
    refine XT.land X0.here hx rfl (hb hby at_34) rfl ?_
    show Steps p.tables e below (s₁.setTop (mkF m 35 #[.val (.int p1), .val (.int p2), .val (.int p3), .val (.int p4), .val (.int p5), .val (.int p6), .val (.int ((1 : Int32) + (p5 &&& (1023 : Int32)))), .val (.long ((p1 &&& (1048575 : Int32))).toInt64), .second, .val (.int (p3 &&& (15 : Int32))), .val (.long ((1 : Int64) <<< ((p3 &&& (15 : Int32)).toInt64 &&& 63))), .second, .unset, .unset, .unset, .unset, .unset, .unset, .unset, .unset, .unset, .unset, .unset, .unset, .unset, .unset, .unset] [(.long ((p2).toInt64 &&& (2147483647 : Int64)))])) τ
    refine XT.lload X0.here hx rfl (hb hby at_35) rfl ?_
    show Steps p.tables e below (s₁.setTop (mkF m 37 #[.val (.int p1), .val (.int p2), .val (.int p3), .val (.int p4), .val (.int p5), .val (.int p6), .val (.int ((1 : Int32) + (p5 &&& (1023 : Int32)))), .val (.long ((p1 &&& (1048575 : Int32))).toInt64), .second, .val (.int (p3 &&& (15 : Int32))), .val (.long ((1 : Int64) <<< ((p3 &&& (15 : Int32)).toInt64 &&& 63))), .second, .unset, .unset, .unset, .unset, .unset, .unset, .unset, .unset, .unset, .unset, .unset, .unset, .unset, .unset, .unset] [(.long ((1 : Int64) <<< ((p3 &&& (15 : Int32)).toInt64 &&& 63))), (.long ((p2).toInt64 &&& (2147483647 : Int64)))])) τ
    refine XT.lconst X0.here hx rfl (hb hby at_37) ?_
    show Steps p.tables e below (s₁.setTop (mkF m 38 #[.val (.int p1), .val (.int p2), .val (.int p3), .val (.int p4), .val (.int p5), .val (.int p6), .val (.int ((1 : Int32) + (p5 &&& (1023 : Int32)))), .val (.long ((p1 &&& (1048575 : Int32))).toInt64), .second, .val (.int (p3 &&& (15 : Int32))), .val (.long ((1 : Int64) <<< ((p3 &&& (15 : Int32)).toInt64 &&& 63))), .second, .unset, .unset, .unset, .unset, .unset, .unset, .unset, .unset, .unset, .unset, .unset, .unset, .unset, .unset, .unset] [(.long (1 : Int64)), (.long ((1 : Int64) <<< ((p3 &&& (15 : Int32)).toInt64 &&& 63))), (.long ((p2).toInt64 &&& (2147483647 : Int64)))])) τ
    refine XT.ladd X0.here hx rfl (hb hby at_38) rfl ?_
    show Steps p.tables e below (s₁.setTop (mkF m 39 #[.val (.int p1), .val (.int p2), .val (.int p3), .val (.int p4), .val (.int p5), .val (.int p6), .val (.int ((1 : Int32) + (p5 &&& (1023 : Int32)))), .val (.long ((p1 &&& (1048575 : Int32))).toInt64), .second, .val (.int (p3 &&& (15 : Int32))), .val (.long ((1 : Int64) <<< ((p3 &&& (15 : Int32)).toInt64 &&& 63))), .second, .unset, .unset, .unset, .unset, .unset, .unset, .unset, .unset, .unset, .unset, .unset, .unset, .unset, .unset, .unset] [(.long (((1 : Int64) <<< ((p3 &&& (15 : Int32)).toInt64 &&& 63)) + (1 : Int64))), (.long ((p2).toInt64 &&& (2147483647 : Int64)))])) τ
    refine XT.lrem X0.here hx rfl (hb hby at_39) rfl (hnz) ?_
    show Steps p.tables e below (s₁.setTop (mkF m 40 #[.val (.int p1), .val (.int p2), .val (.int p3), .val (.int p4), .val (.int p5), .val (.int p6), .val (.int ((1 : Int32) + (p5 &&& (1023 : Int32)))), .val (.long ((p1 &&& (1048575 : Int32))).toInt64), .second, .val (.int (p3 &&& (15 : Int32))), .val (.long ((1 : Int64) <<< ((p3 &&& (15 : Int32)).toInt64 &&& 63))), .second, .unset, .unset, .unset, .unset, .unset, .unset, .unset, .unset, .unset, .unset, .unset, .unset, .unset, .unset, .unset] [(.long (((p2).toInt64 &&& (2147483647 : Int64)) - (((p2).toInt64 &&& (2147483647 : Int64)) / (((1 : Int64) <<< ((p3 &&& (15 : Int32)).toInt64 &&& 63)) + (1 : Int64))) * (((1 : Int64) <<< ((p3 &&& (15 : Int32)).toInt64 &&& 63)) + (1 : Int64))))])) τ
    refine XT.lstore X0.here hx rfl (hb hby at_40) rfl (l' := #[.val (.int p1), .val (.int p2), .val (.int p3), .val (.int p4), .val (.int p5), .val (.int p6), .val (.int ((1 : Int32) + (p5 &&& (1023 : Int32)))), .val (.long ((p1 &&& (1048575 : Int32))).toInt64), .second, .val (.int (p3 &&& (15 : Int32))), .val (.long ((1 : Int64) <<< ((p3 &&& (15 : Int32)).toInt64 &&& 63))), .second, .val (.long (((p2).toInt64 &&& (2147483647 : Int64)) - (((p2).toInt64 &&& (2147483647 : Int64)) / (((1 : Int64) <<< ((p3 &&& (15 : Int32)).toInt64 &&& 63)) + (1 : Int64))) * (((1 : Int64) <<< ((p3 &&& (15 : Int32)).toInt64 &&& 63)) + (1 : Int64)))), .second, .unset, .unset, .unset, .unset, .unset, .unset, .unset, .unset, .unset, .unset, .unset, .unset, .unset]) rfl ?_
    show Steps p.tables e below (s₁.setTop (mkF m 42 #[.val (.int p1), .val (.int p2), .val (.int p3), .val (.int p4), .val (.int p5), .val (.int p6), .val (.int ((1 : Int32) + (p5 &&& (1023 : Int32)))), .val (.long ((p1 &&& (1048575 : Int32))).toInt64), .second, .val (.int (p3 &&& (15 : Int32))), .val (.long ((1 : Int64) <<< ((p3 &&& (15 : Int32)).toInt64 &&& 63))), .second, .val (.long (((p2).toInt64 &&& (2147483647 : Int64)) - (((p2).toInt64 &&& (2147483647 : Int64)) / (((1 : Int64) <<< ((p3 &&& (15 : Int32)).toInt64 &&& 63)) + (1 : Int64))) * (((1 : Int64) <<< ((p3 &&& (15 : Int32)).toInt64 &&& 63)) + (1 : Int64)))), .second, .unset, .unset, .unset, .unset, .unset, .unset, .unset, .unset, .unset, .unset, .unset, .unset, .unset] [])) τ
    refine XS.iloadN X0.here hx rfl (hb hby at_42) rfl ?_
    show Steps p.tables e below (s₁.setTop (mkF m 43 #[.val (.int p1), .val (.int p2), .val (.int p3), .val (.int p4), .val (.int p5), .val (.int p6), .val (.int ((1 : Int32) + (p5 &&& (1023 : Int32)))), .val (.long ((p1 &&& (1048575 : Int32))).toInt64), .second, .val (.int (p3 &&& (15 : Int32))), .val (.long ((1 : Int64) <<< ((p3 &&& (15 : Int32)).toInt64 &&& 63))), .second, .val (.long (((p2).toInt64 &&& (2147483647 : Int64)) - (((p2).toInt64 &&& (2147483647 : Int64)) / (((1 : Int64) <<< ((p3 &&& (15 : Int32)).toInt64 &&& 63)) + (1 : Int64))) * (((1 : Int64) <<< ((p3 &&& (15 : Int32)).toInt64 &&& 63)) + (1 : Int64)))), .second, .unset, .unset, .unset, .unset, .unset, .unset, .unset, .unset, .unset, .unset, .unset, .unset, .unset] [(.int p4)])) τ
    refine XS.bipush X0.here hx rfl (hb hby at_43) ?_
    show Steps p.tables e below (s₁.setTop (mkF m 45 #[.val (.int p1), .val (.int p2), .val (.int p3), .val (.int p4), .val (.int p5), .val (.int p6), .val (.int ((1 : Int32) + (p5 &&& (1023 : Int32)))), .val (.long ((p1 &&& (1048575 : Int32))).toInt64), .second, .val (.int (p3 &&& (15 : Int32))), .val (.long ((1 : Int64) <<< ((p3 &&& (15 : Int32)).toInt64 &&& 63))), .second, .val (.long (((p2).toInt64 &&& (2147483647 : Int64)) - (((p2).toInt64 &&& (2147483647 : Int64)) / (((1 : Int64) <<< ((p3 &&& (15 : Int32)).toInt64 &&& 63)) + (1 : Int64))) * (((1 : Int64) <<< ((p3 &&& (15 : Int32)).toInt64 &&& 63)) + (1 : Int64)))), .second, .unset, .unset, .unset, .unset, .unset, .unset, .unset, .unset, .unset, .unset, .unset, .unset, .unset] [(.int (7 : Int32)), (.int p4)])) τ
    refine XS.iand X0.here hx rfl (hb hby at_45) rfl ?_
    exact kt)
  obtain ⟨_, _, ⟨T19, L19, k19, n19⟩, -, X19, ⟨Lc19, hQ19, l19, y19, z19⟩, st19⟩ := Jvm.LawKit.callS X0 hx (y := (⟨"com/example/meter/meter/allocation/FlowShareLocalLimitPinLaw", "scaleOf", "(I)D"⟩ : MethodName)) hown (mvT hZ (hw _ (List.mem_of_getElem? (i := 2) rfl))) (mvT hZ (hw _ (List.mem_of_getElem? (i := 3) rfl))) (mvT hZ (hw _ (List.mem_of_getElem? (i := 4) rfl))) (mvT hZ (hw _ (List.mem_of_getElem? (i := 5) rfl))) (by decide) (backOf (W := 0) (rmS l Z a0 hw [] (p4 &&& (7 : Int32)) h0 n0 Z0) hZ (hw _ (List.mem_of_getElem? (i := 5) rfl)) (hw _ (List.mem_of_getElem? (i := 4) rfl)) (by decide) (by decide)) (g := (mkF m 46 #[.val (.int p1), .val (.int p2), .val (.int p3), .val (.int p4), .val (.int p5), .val (.int p6), .val (.int ((1 : Int32) + (p5 &&& (1023 : Int32)))), .val (.long ((p1 &&& (1048575 : Int32))).toInt64), .second, .val (.int (p3 &&& (15 : Int32))), .val (.long ((1 : Int64) <<< ((p3 &&& (15 : Int32)).toInt64 &&& 63))), .second, .val (.long (((p2).toInt64 &&& (2147483647 : Int64)) - (((p2).toInt64 &&& (2147483647 : Int64)) / (((1 : Int64) <<< ((p3 &&& (15 : Int32)).toInt64 &&& 63)) + (1 : Int64))) * (((1 : Int64) <<< ((p3 &&& (15 : Int32)).toInt64 &&& 63)) + (1 : Int64)))), .second, .unset, .unset, .unset, .unset, .unset, .unset, .unset, .unset, .unset, .unset, .unset, .unset, .unset] [(.int (p4 &&& (7 : Int32)))])) rfl (by rw [hml]; rfl) (argsL := [(.int (p4 &&& (7 : Int32)))]) (rest := []) (lenOf own_pd__I_D rfl) rfl (by show 2 * 0 + _ ≤ _; exact Nat.le_of_eq rfl) (hb hby at_46) (fun _ _ => ⟨rfl, e0, (by decide : 0 + 0 ≤ _), (by decide : 0 + 0 ≤ _)⟩)
  dsimp only [Pt.U, Pt.locs, Pt.cells, Pt.slots] at X19 l19 y19 z19 st19 hQ19
  subst l19 y19 z19
  obtain ⟨rfl, Nq19, eq19⟩ := hQ19
  have N19 := Fr.app N0 Nq19
  have pre20 : ∀ τ, Steps p.tables e below (T19.setTop (mkF m 49 #[.val (.int p1), .val (.int p2), .val (.int p3), .val (.int p4), .val (.int p5), .val (.int p6), .val (.int ((1 : Int32) + (p5 &&& (1023 : Int32)))), .val (.long ((p1 &&& (1048575 : Int32))).toInt64), .second, .val (.int (p3 &&& (15 : Int32))), .val (.long ((1 : Int64) <<< ((p3 &&& (15 : Int32)).toInt64 &&& 63))), .second, .val (.long (((p2).toInt64 &&& (2147483647 : Int64)) - (((p2).toInt64 &&& (2147483647 : Int64)) / (((1 : Int64) <<< ((p3 &&& (15 : Int32)).toInt64 &&& 63)) + (1 : Int64))) * (((1 : Int64) <<< ((p3 &&& (15 : Int32)).toInt64 &&& 63)) + (1 : Int64)))), .second, .unset, .unset, .unset, .unset, .unset, .unset, .unset, .unset, .unset, .unset, .unset, .unset, .unset] [(.double (own_sc (p4 &&& (7 : Int32))))])) τ → Steps p.tables e below (s₁.setTop (entryFrame m #[(.int p1), (.int p2), (.int p3), (.int p4), (.int p5), (.int p6)] maxLocals)) τ := fun τ kt => pre18 τ (st19 τ kt)
  obtain ⟨SN, SK, hN, hN', hK, hK', hsc⟩ := own_sc_spec (p4 &&& (7 : Int32))
  obtain ⟨sc, e_sc⟩ : ∃ z : UInt64, z = (own_sc (p4 &&& (7 : Int32))) := ⟨_, rfl⟩
  have pre21 : ∀ τ, Steps p.tables e below (T19.setTop (mkF m 49 #[.val (.int p1), .val (.int p2), .val (.int p3), .val (.int p4), .val (.int p5), .val (.int p6), .val (.int ((1 : Int32) + (p5 &&& (1023 : Int32)))), .val (.long ((p1 &&& (1048575 : Int32))).toInt64), .second, .val (.int (p3 &&& (15 : Int32))), .val (.long ((1 : Int64) <<< ((p3 &&& (15 : Int32)).toInt64 &&& 63))), .second, .val (.long (((p2).toInt64 &&& (2147483647 : Int64)) - (((p2).toInt64 &&& (2147483647 : Int64)) / (((1 : Int64) <<< ((p3 &&& (15 : Int32)).toInt64 &&& 63)) + (1 : Int64))) * (((1 : Int64) <<< ((p3 &&& (15 : Int32)).toInt64 &&& 63)) + (1 : Int64)))), .second, .unset, .unset, .unset, .unset, .unset, .unset, .unset, .unset, .unset, .unset, .unset, .unset, .unset] [(.double sc)])) τ → Steps p.tables e below (s₁.setTop (entryFrame m #[(.int p1), (.int p2), (.int p3), (.int p4), (.int p5), (.int p6)] maxLocals)) τ := by rw [e_sc]; exact pre20
  rw [← e_sc] at hsc
  have pre22 : ∀ τ, Steps p.tables e below (T19.setTop (mkF m 51 #[.val (.int p1), .val (.int p2), .val (.int p3), .val (.int p4), .val (.int p5), .val (.int p6), .val (.int ((1 : Int32) + (p5 &&& (1023 : Int32)))), .val (.long ((p1 &&& (1048575 : Int32))).toInt64), .second, .val (.int (p3 &&& (15 : Int32))), .val (.long ((1 : Int64) <<< ((p3 &&& (15 : Int32)).toInt64 &&& 63))), .second, .val (.long (((p2).toInt64 &&& (2147483647 : Int64)) - (((p2).toInt64 &&& (2147483647 : Int64)) / (((1 : Int64) <<< ((p3 &&& (15 : Int32)).toInt64 &&& 63)) + (1 : Int64))) * (((1 : Int64) <<< ((p3 &&& (15 : Int32)).toInt64 &&& 63)) + (1 : Int64)))), .second, .val (.double sc), .second, .unset, .unset, .unset, .unset, .unset, .unset, .unset, .unset, .unset, .unset, .unset] [])) τ → Steps p.tables e below (s₁.setTop (entryFrame m #[(.int p1), (.int p2), (.int p3), (.int p4), (.int p5), (.int p6)] maxLocals)) τ := fun τ kt => pre21 τ (by
    show Steps p.tables e below (T19.setTop (mkF m 49 #[.val (.int p1), .val (.int p2), .val (.int p3), .val (.int p4), .val (.int p5), .val (.int p6), .val (.int ((1 : Int32) + (p5 &&& (1023 : Int32)))), .val (.long ((p1 &&& (1048575 : Int32))).toInt64), .second, .val (.int (p3 &&& (15 : Int32))), .val (.long ((1 : Int64) <<< ((p3 &&& (15 : Int32)).toInt64 &&& 63))), .second, .val (.long (((p2).toInt64 &&& (2147483647 : Int64)) - (((p2).toInt64 &&& (2147483647 : Int64)) / (((1 : Int64) <<< ((p3 &&& (15 : Int32)).toInt64 &&& 63)) + (1 : Int64))) * (((1 : Int64) <<< ((p3 &&& (15 : Int32)).toInt64 &&& 63)) + (1 : Int64)))), .second, .unset, .unset, .unset, .unset, .unset, .unset, .unset, .unset, .unset, .unset, .unset, .unset, .unset] [(.double sc)])) τ
    refine own_dstore X19.here hx rfl (hb hby at_49) rfl (l' := #[.val (.int p1), .val (.int p2), .val (.int p3), .val (.int p4), .val (.int p5), .val (.int p6), .val (.int ((1 : Int32) + (p5 &&& (1023 : Int32)))), .val (.long ((p1 &&& (1048575 : Int32))).toInt64), .second, .val (.int (p3 &&& (15 : Int32))), .val (.long ((1 : Int64) <<< ((p3 &&& (15 : Int32)).toInt64 &&& 63))), .second, .val (.long (((p2).toInt64 &&& (2147483647 : Int64)) - (((p2).toInt64 &&& (2147483647 : Int64)) / (((1 : Int64) <<< ((p3 &&& (15 : Int32)).toInt64 &&& 63)) + (1 : Int64))) * (((1 : Int64) <<< ((p3 &&& (15 : Int32)).toInt64 &&& 63)) + (1 : Int64)))), .second, .val (.double sc), .second, .unset, .unset, .unset, .unset, .unset, .unset, .unset, .unset, .unset, .unset, .unset]) rfl ?_
    exact kt)
  obtain ⟨mm, e_mm⟩ : ∃ z : Int32, z = ((1 : Int32) + (p5 &&& (1023 : Int32))) := ⟨_, rfl⟩
  have pre23 : ∀ τ, Steps p.tables e below (T19.setTop (mkF m 51 #[.val (.int p1), .val (.int p2), .val (.int p3), .val (.int p4), .val (.int p5), .val (.int p6), .val (.int mm), .val (.long ((p1 &&& (1048575 : Int32))).toInt64), .second, .val (.int (p3 &&& (15 : Int32))), .val (.long ((1 : Int64) <<< ((p3 &&& (15 : Int32)).toInt64 &&& 63))), .second, .val (.long (((p2).toInt64 &&& (2147483647 : Int64)) - (((p2).toInt64 &&& (2147483647 : Int64)) / (((1 : Int64) <<< ((p3 &&& (15 : Int32)).toInt64 &&& 63)) + (1 : Int64))) * (((1 : Int64) <<< ((p3 &&& (15 : Int32)).toInt64 &&& 63)) + (1 : Int64)))), .second, .val (.double sc), .second, .unset, .unset, .unset, .unset, .unset, .unset, .unset, .unset, .unset, .unset, .unset] [])) τ → Steps p.tables e below (s₁.setTop (entryFrame m #[(.int p1), (.int p2), (.int p3), (.int p4), (.int p5), (.int p6)] maxLocals)) τ := by rw [e_mm]; exact pre22
  obtain ⟨G, e_G⟩ : ∃ z : Int64, z = ((p1 &&& (1048575 : Int32))).toInt64 := ⟨_, rfl⟩
  have pre24 : ∀ τ, Steps p.tables e below (T19.setTop (mkF m 51 #[.val (.int p1), .val (.int p2), .val (.int p3), .val (.int p4), .val (.int p5), .val (.int p6), .val (.int mm), .val (.long G), .second, .val (.int (p3 &&& (15 : Int32))), .val (.long ((1 : Int64) <<< ((p3 &&& (15 : Int32)).toInt64 &&& 63))), .second, .val (.long (((p2).toInt64 &&& (2147483647 : Int64)) - (((p2).toInt64 &&& (2147483647 : Int64)) / (((1 : Int64) <<< ((p3 &&& (15 : Int32)).toInt64 &&& 63)) + (1 : Int64))) * (((1 : Int64) <<< ((p3 &&& (15 : Int32)).toInt64 &&& 63)) + (1 : Int64)))), .second, .val (.double sc), .second, .unset, .unset, .unset, .unset, .unset, .unset, .unset, .unset, .unset, .unset, .unset] [])) τ → Steps p.tables e below (s₁.setTop (entryFrame m #[(.int p1), (.int p2), (.int p3), (.int p4), (.int p5), (.int p6)] maxLocals)) τ := by rw [e_G]; exact pre23
  obtain ⟨T, e_T⟩ : ∃ z : Int64, z = ((1 : Int64) <<< ((p3 &&& (15 : Int32)).toInt64 &&& 63)) := ⟨_, rfl⟩
  have pre25 : ∀ τ, Steps p.tables e below (T19.setTop (mkF m 51 #[.val (.int p1), .val (.int p2), .val (.int p3), .val (.int p4), .val (.int p5), .val (.int p6), .val (.int mm), .val (.long G), .second, .val (.int (p3 &&& (15 : Int32))), .val (.long T), .second, .val (.long (((p2).toInt64 &&& (2147483647 : Int64)) - (((p2).toInt64 &&& (2147483647 : Int64)) / (((1 : Int64) <<< ((p3 &&& (15 : Int32)).toInt64 &&& 63)) + (1 : Int64))) * (((1 : Int64) <<< ((p3 &&& (15 : Int32)).toInt64 &&& 63)) + (1 : Int64)))), .second, .val (.double sc), .second, .unset, .unset, .unset, .unset, .unset, .unset, .unset, .unset, .unset, .unset, .unset] [])) τ → Steps p.tables e below (s₁.setTop (entryFrame m #[(.int p1), (.int p2), (.int p3), (.int p4), (.int p5), (.int p6)] maxLocals)) τ := by rw [e_T]; exact pre24
  obtain ⟨A, e_A⟩ : ∃ z : Int64, z = (((p2).toInt64 &&& (2147483647 : Int64)) - (((p2).toInt64 &&& (2147483647 : Int64)) / (((1 : Int64) <<< ((p3 &&& (15 : Int32)).toInt64 &&& 63)) + (1 : Int64))) * (((1 : Int64) <<< ((p3 &&& (15 : Int32)).toInt64 &&& 63)) + (1 : Int64))) := ⟨_, rfl⟩
  have pre26 : ∀ τ, Steps p.tables e below (T19.setTop (mkF m 51 #[.val (.int p1), .val (.int p2), .val (.int p3), .val (.int p4), .val (.int p5), .val (.int p6), .val (.int mm), .val (.long G), .second, .val (.int (p3 &&& (15 : Int32))), .val (.long T), .second, .val (.long A), .second, .val (.double sc), .second, .unset, .unset, .unset, .unset, .unset, .unset, .unset, .unset, .unset, .unset, .unset] [])) τ → Steps p.tables e below (s₁.setTop (entryFrame m #[(.int p1), (.int p2), (.int p3), (.int p4), (.int p5), (.int p6)] maxLocals)) τ := by rw [e_A]; exact pre25
  rw [← e_mm] at em
  rw [← e_G] at eg
  have eT : T.toInt = t := by rw [e_T]; exact et
  have eA : A.toInt = a := by rw [e_A]; exact ea
  have pj : (2 ^ j : Nat) ≤ 2 ^ 15 := Nat.pow_le_pow_right (by decide) hj
  have pj0 := Nat.two_pow_pos j
  have dG : own_D g 0 (FP.l2d G) := by have := own_d_l2d (x := G) (by omega); rwa [eg] at this
  have dA : own_D a 0 (FP.l2d A) := by have := own_d_l2d (x := A) (by omega); rwa [eA] at this
  have pre27 : ∀ τ, Steps p.tables e below (T19.setTop (mkF m 60 #[.val (.int p1), .val (.int p2), .val (.int p3), .val (.int p4), .val (.int p5), .val (.int p6), .val (.int mm), .val (.long G), .second, .val (.int (p3 &&& (15 : Int32))), .val (.long T), .second, .val (.long A), .second, .val (.double sc), .second, .val (.int (p6 &&& (3 : Int32))), .unset, .unset, .unset, .unset, .unset, .unset, .unset, .unset, .unset, .unset] [(.int (3 : Int32)), (.int (p6 &&& (3 : Int32)))])) τ → Steps p.tables e below (s₁.setTop (entryFrame m #[(.int p1), (.int p2), (.int p3), (.int p4), (.int p5), (.int p6)] maxLocals)) τ := fun τ kt => pre26 τ (by
    show Steps p.tables e below (T19.setTop (mkF m 51 #[.val (.int p1), .val (.int p2), .val (.int p3), .val (.int p4), .val (.int p5), .val (.int p6), .val (.int mm), .val (.long G), .second, .val (.int (p3 &&& (15 : Int32))), .val (.long T), .second, .val (.long A), .second, .val (.double sc), .second, .unset, .unset, .unset, .unset, .unset, .unset, .unset, .unset, .unset, .unset, .unset] [])) τ
    refine XS.iload X19.here hx rfl (hb hby at_51) rfl ?_
    show Steps p.tables e below (T19.setTop (mkF m 53 #[.val (.int p1), .val (.int p2), .val (.int p3), .val (.int p4), .val (.int p5), .val (.int p6), .val (.int mm), .val (.long G), .second, .val (.int (p3 &&& (15 : Int32))), .val (.long T), .second, .val (.long A), .second, .val (.double sc), .second, .unset, .unset, .unset, .unset, .unset, .unset, .unset, .unset, .unset, .unset, .unset] [(.int p6)])) τ
    refine XS.iconst X19.here hx rfl (hb hby at_53) ?_
    show Steps p.tables e below (T19.setTop (mkF m 54 #[.val (.int p1), .val (.int p2), .val (.int p3), .val (.int p4), .val (.int p5), .val (.int p6), .val (.int mm), .val (.long G), .second, .val (.int (p3 &&& (15 : Int32))), .val (.long T), .second, .val (.long A), .second, .val (.double sc), .second, .unset, .unset, .unset, .unset, .unset, .unset, .unset, .unset, .unset, .unset, .unset] [(.int (3 : Int32)), (.int p6)])) τ
    refine XS.iand X19.here hx rfl (hb hby at_54) rfl ?_
    show Steps p.tables e below (T19.setTop (mkF m 55 #[.val (.int p1), .val (.int p2), .val (.int p3), .val (.int p4), .val (.int p5), .val (.int p6), .val (.int mm), .val (.long G), .second, .val (.int (p3 &&& (15 : Int32))), .val (.long T), .second, .val (.long A), .second, .val (.double sc), .second, .unset, .unset, .unset, .unset, .unset, .unset, .unset, .unset, .unset, .unset, .unset] [(.int (p6 &&& (3 : Int32)))])) τ
    refine XS.istore X19.here hx rfl (hb hby at_55) rfl (l' := #[.val (.int p1), .val (.int p2), .val (.int p3), .val (.int p4), .val (.int p5), .val (.int p6), .val (.int mm), .val (.long G), .second, .val (.int (p3 &&& (15 : Int32))), .val (.long T), .second, .val (.long A), .second, .val (.double sc), .second, .val (.int (p6 &&& (3 : Int32))), .unset, .unset, .unset, .unset, .unset, .unset, .unset, .unset, .unset, .unset]) rfl ?_
    show Steps p.tables e below (T19.setTop (mkF m 57 #[.val (.int p1), .val (.int p2), .val (.int p3), .val (.int p4), .val (.int p5), .val (.int p6), .val (.int mm), .val (.long G), .second, .val (.int (p3 &&& (15 : Int32))), .val (.long T), .second, .val (.long A), .second, .val (.double sc), .second, .val (.int (p6 &&& (3 : Int32))), .unset, .unset, .unset, .unset, .unset, .unset, .unset, .unset, .unset, .unset] [])) τ
    refine XS.iload X19.here hx rfl (hb hby at_57) rfl ?_
    show Steps p.tables e below (T19.setTop (mkF m 59 #[.val (.int p1), .val (.int p2), .val (.int p3), .val (.int p4), .val (.int p5), .val (.int p6), .val (.int mm), .val (.long G), .second, .val (.int (p3 &&& (15 : Int32))), .val (.long T), .second, .val (.long A), .second, .val (.double sc), .second, .val (.int (p6 &&& (3 : Int32))), .unset, .unset, .unset, .unset, .unset, .unset, .unset, .unset, .unset, .unset] [(.int (p6 &&& (3 : Int32)))])) τ
    refine XS.iconst X19.here hx rfl (hb hby at_59) ?_
    exact kt)
  by_cases q3 : (p6 &&& (3 : Int32)) = (3 : Int32)
  · skip
    have m1 : g * mem ≤ 1048575 * 1024 := Int.mul_le_mul hg' hm' (by omega) (by decide)
    have m2 : 0 ≤ g * mem := Int.mul_nonneg hg (by omega)
    have eP : (G * mm.toInt64).toInt = g * mem := by rw [FP.Core.int64_mul, eg, c_i2l, em] <;> rw [eg, c_i2l, em] <;> omega
    have dP : own_D (g * mem) (0 + 0) (FP.l2d (G * mm.toInt64)) := by have := own_d_l2d (x := G * mm.toInt64) (by omega); rwa [eP] at this
    have dM : own_D mem 0 (FP.i2d mm) := by have := own_d_i2d mm; rwa [em] at this
    have dQ : own_D g 0 (FP.ddiv (FP.l2d (G * mm.toInt64)) (FP.i2d mm)) := own_d_div (by omega) dP dM (by omega) (by decide) (by decide)
    have d0 : own_D (0 + 0) 0 (FP.dadd FP.dconst0 FP.dconst0) := own_d_add own_d_zero own_d_zero (by decide) (by decide) (by decide)
    have pre28 : ∀ τ, Steps p.tables e below (T19.setTop (mkF m 74 #[.val (.int p1), .val (.int p2), .val (.int p3), .val (.int p4), .val (.int p5), .val (.int p6), .val (.int mm), .val (.long G), .second, .val (.int (p3 &&& (15 : Int32))), .val (.long T), .second, .val (.long A), .second, .val (.double sc), .second, .val (.int (p6 &&& (3 : Int32))), .unset, .unset, .unset, .unset, .unset, .unset, .unset, .unset, .unset, .unset] [(.int mm), (.double FP.dconst0), (.double FP.dconst0), (.double (FP.l2d (G * (mm).toInt64)))])) τ → Steps p.tables e below (s₁.setTop (entryFrame m #[(.int p1), (.int p2), (.int p3), (.int p4), (.int p5), (.int p6)] maxLocals)) τ := fun τ kt => pre27 τ (by
      show Steps p.tables e below (T19.setTop (mkF m 60 #[.val (.int p1), .val (.int p2), .val (.int p3), .val (.int p4), .val (.int p5), .val (.int p6), .val (.int mm), .val (.long G), .second, .val (.int (p3 &&& (15 : Int32))), .val (.long T), .second, .val (.long A), .second, .val (.double sc), .second, .val (.int (p6 &&& (3 : Int32))), .unset, .unset, .unset, .unset, .unset, .unset, .unset, .unset, .unset, .unset] [(.int (3 : Int32)), (.int (p6 &&& (3 : Int32)))])) τ
      refine XS.icmpNo X19.here hx rfl (hb hby at_60) rfl (teq q3).2 ?_
      show Steps p.tables e below (T19.setTop (mkF m 63 #[.val (.int p1), .val (.int p2), .val (.int p3), .val (.int p4), .val (.int p5), .val (.int p6), .val (.int mm), .val (.long G), .second, .val (.int (p3 &&& (15 : Int32))), .val (.long T), .second, .val (.long A), .second, .val (.double sc), .second, .val (.int (p6 &&& (3 : Int32))), .unset, .unset, .unset, .unset, .unset, .unset, .unset, .unset, .unset, .unset] [])) τ
      refine XT.lload X19.here hx rfl (hb hby at_63) rfl ?_
      show Steps p.tables e below (T19.setTop (mkF m 65 #[.val (.int p1), .val (.int p2), .val (.int p3), .val (.int p4), .val (.int p5), .val (.int p6), .val (.int mm), .val (.long G), .second, .val (.int (p3 &&& (15 : Int32))), .val (.long T), .second, .val (.long A), .second, .val (.double sc), .second, .val (.int (p6 &&& (3 : Int32))), .unset, .unset, .unset, .unset, .unset, .unset, .unset, .unset, .unset, .unset] [(.long G)])) τ
      refine XS.iload X19.here hx rfl (hb hby at_65) rfl ?_
      show Steps p.tables e below (T19.setTop (mkF m 67 #[.val (.int p1), .val (.int p2), .val (.int p3), .val (.int p4), .val (.int p5), .val (.int p6), .val (.int mm), .val (.long G), .second, .val (.int (p3 &&& (15 : Int32))), .val (.long T), .second, .val (.long A), .second, .val (.double sc), .second, .val (.int (p6 &&& (3 : Int32))), .unset, .unset, .unset, .unset, .unset, .unset, .unset, .unset, .unset, .unset] [(.int mm), (.long G)])) τ
      refine XT.i2l X19.here hx rfl (hb hby at_67) rfl ?_
      show Steps p.tables e below (T19.setTop (mkF m 68 #[.val (.int p1), .val (.int p2), .val (.int p3), .val (.int p4), .val (.int p5), .val (.int p6), .val (.int mm), .val (.long G), .second, .val (.int (p3 &&& (15 : Int32))), .val (.long T), .second, .val (.long A), .second, .val (.double sc), .second, .val (.int (p6 &&& (3 : Int32))), .unset, .unset, .unset, .unset, .unset, .unset, .unset, .unset, .unset, .unset] [(.long (mm).toInt64), (.long G)])) τ
      refine XT.lmul X19.here hx rfl (hb hby at_68) rfl ?_
      show Steps p.tables e below (T19.setTop (mkF m 69 #[.val (.int p1), .val (.int p2), .val (.int p3), .val (.int p4), .val (.int p5), .val (.int p6), .val (.int mm), .val (.long G), .second, .val (.int (p3 &&& (15 : Int32))), .val (.long T), .second, .val (.long A), .second, .val (.double sc), .second, .val (.int (p6 &&& (3 : Int32))), .unset, .unset, .unset, .unset, .unset, .unset, .unset, .unset, .unset, .unset] [(.long (G * (mm).toInt64))])) τ
      refine own_l2d X19.here hx rfl (hb hby at_69) rfl ?_
      show Steps p.tables e below (T19.setTop (mkF m 70 #[.val (.int p1), .val (.int p2), .val (.int p3), .val (.int p4), .val (.int p5), .val (.int p6), .val (.int mm), .val (.long G), .second, .val (.int (p3 &&& (15 : Int32))), .val (.long T), .second, .val (.long A), .second, .val (.double sc), .second, .val (.int (p6 &&& (3 : Int32))), .unset, .unset, .unset, .unset, .unset, .unset, .unset, .unset, .unset, .unset] [(.double (FP.l2d (G * (mm).toInt64)))])) τ
      refine own_dconst0 X19.here hx rfl (hb hby at_70) ?_
      show Steps p.tables e below (T19.setTop (mkF m 71 #[.val (.int p1), .val (.int p2), .val (.int p3), .val (.int p4), .val (.int p5), .val (.int p6), .val (.int mm), .val (.long G), .second, .val (.int (p3 &&& (15 : Int32))), .val (.long T), .second, .val (.long A), .second, .val (.double sc), .second, .val (.int (p6 &&& (3 : Int32))), .unset, .unset, .unset, .unset, .unset, .unset, .unset, .unset, .unset, .unset] [(.double FP.dconst0), (.double (FP.l2d (G * (mm).toInt64)))])) τ
      refine own_dconst0 X19.here hx rfl (hb hby at_71) ?_
      show Steps p.tables e below (T19.setTop (mkF m 72 #[.val (.int p1), .val (.int p2), .val (.int p3), .val (.int p4), .val (.int p5), .val (.int p6), .val (.int mm), .val (.long G), .second, .val (.int (p3 &&& (15 : Int32))), .val (.long T), .second, .val (.long A), .second, .val (.double sc), .second, .val (.int (p6 &&& (3 : Int32))), .unset, .unset, .unset, .unset, .unset, .unset, .unset, .unset, .unset, .unset] [(.double FP.dconst0), (.double FP.dconst0), (.double (FP.l2d (G * (mm).toInt64)))])) τ
      refine XS.iload X19.here hx rfl (hb hby at_72) rfl ?_
      exact kt)
    obtain ⟨_, _, ⟨T29, L29, k29, n29⟩, -, X29, ⟨Lc29, hQ29, l29, y29, z29⟩, st29⟩ := Jvm.LawKit.callS X19 hx (y := (⟨"com/example/meter/meter/allocation/FlowShare", "localLimit", "(DDDI)D"⟩ : MethodName)) hown (mvT hZ (hw _ (List.mem_of_getElem? (i := 7) rfl))) (mvT hZ (hw _ (List.mem_of_getElem? (i := 8) rfl))) (mvT hZ (hw _ (List.mem_of_getElem? (i := 9) rfl))) (mvT hZ (hw _ (List.mem_of_getElem? (i := 10) rfl))) (by decide) (backOf (W := 0) (rmM l Z a0 hw [] (FP.l2d (G * (mm).toInt64)) FP.dconst0 FP.dconst0 mm h0 n0 Z0 (own_d_no d0) (by rw [own_d_cmp d0 own_d_zero, own_cmpv_gt]; decide) (own_d_no dQ)) hZ (hw _ (List.mem_of_getElem? (i := 10) rfl)) (hw _ (List.mem_of_getElem? (i := 9) rfl)) (by decide) (by decide)) (g := (mkF m 74 #[.val (.int p1), .val (.int p2), .val (.int p3), .val (.int p4), .val (.int p5), .val (.int p6), .val (.int mm), .val (.long G), .second, .val (.int (p3 &&& (15 : Int32))), .val (.long T), .second, .val (.long A), .second, .val (.double sc), .second, .val (.int (p6 &&& (3 : Int32))), .unset, .unset, .unset, .unset, .unset, .unset, .unset, .unset, .unset, .unset] [(.int mm), (.double FP.dconst0), (.double FP.dconst0), (.double (FP.l2d (G * (mm).toInt64)))])) rfl (by rw [hml]; rfl) (argsL := [(.double (FP.l2d (G * (mm).toInt64))), (.double FP.dconst0), (.double FP.dconst0), (.int mm)]) (rest := []) (lenOf own_pd__DDDI_D rfl) rfl (by show 2 * 0 + _ ≤ _; exact Nat.le_of_eq rfl) (hb hby at_74) (fun _ _ => ⟨rfl, eq19, (by decide : 0 + 0 ≤ _), (by decide : 0 + 0 ≤ _)⟩)
    dsimp only [Pt.U, Pt.locs, Pt.cells, Pt.slots] at X29 l29 y29 z29 st29 hQ29
    subst l29 y29 z29
    obtain ⟨rfl, Nq29, eq29⟩ := hQ29
    have N29 := Fr.app N19 Nq29
    have pre30 : ∀ τ, Steps p.tables e below (T29.setTop (mkF m 77 #[.val (.int p1), .val (.int p2), .val (.int p3), .val (.int p4), .val (.int p5), .val (.int p6), .val (.int mm), .val (.long G), .second, .val (.int (p3 &&& (15 : Int32))), .val (.long T), .second, .val (.long A), .second, .val (.double sc), .second, .val (.int (p6 &&& (3 : Int32))), .unset, .unset, .unset, .unset, .unset, .unset, .unset, .unset, .unset, .unset] [(.double (FP.ddiv (FP.l2d (G * mm.toInt64)) (FP.i2d mm)))])) τ → Steps p.tables e below (s₁.setTop (entryFrame m #[(.int p1), (.int p2), (.int p3), (.int p4), (.int p5), (.int p6)] maxLocals)) τ := fun τ kt => pre28 τ (st29 τ kt)
    have pre31 : ∀ τ, Steps p.tables e below (T29.setTop (mkF m 93 #[.val (.int p1), .val (.int p2), .val (.int p3), .val (.int p4), .val (.int p5), .val (.int p6), .val (.int mm), .val (.long G), .second, .val (.int (p3 &&& (15 : Int32))), .val (.long T), .second, .val (.long A), .second, .val (.double sc), .second, .val (.int (p6 &&& (3 : Int32))), .val (.double (FP.ddiv (FP.l2d (G * mm.toInt64)) (FP.i2d mm))), .second, .unset, .unset, .unset, .unset, .unset, .unset, .unset, .unset] [(.int (1 : Int32))])) τ → Steps p.tables e below (s₁.setTop (entryFrame m #[(.int p1), (.int p2), (.int p3), (.int p4), (.int p5), (.int p6)] maxLocals)) τ := fun τ kt => pre30 τ (by
      show Steps p.tables e below (T29.setTop (mkF m 77 #[.val (.int p1), .val (.int p2), .val (.int p3), .val (.int p4), .val (.int p5), .val (.int p6), .val (.int mm), .val (.long G), .second, .val (.int (p3 &&& (15 : Int32))), .val (.long T), .second, .val (.long A), .second, .val (.double sc), .second, .val (.int (p6 &&& (3 : Int32))), .unset, .unset, .unset, .unset, .unset, .unset, .unset, .unset, .unset, .unset] [(.double (FP.ddiv (FP.l2d (G * mm.toInt64)) (FP.i2d mm)))])) τ
      refine own_dstore X29.here hx rfl (hb hby at_77) rfl (l' := #[.val (.int p1), .val (.int p2), .val (.int p3), .val (.int p4), .val (.int p5), .val (.int p6), .val (.int mm), .val (.long G), .second, .val (.int (p3 &&& (15 : Int32))), .val (.long T), .second, .val (.long A), .second, .val (.double sc), .second, .val (.int (p6 &&& (3 : Int32))), .val (.double (FP.ddiv (FP.l2d (G * mm.toInt64)) (FP.i2d mm))), .second, .unset, .unset, .unset, .unset, .unset, .unset, .unset, .unset]) rfl ?_
      show Steps p.tables e below (T29.setTop (mkF m 79 #[.val (.int p1), .val (.int p2), .val (.int p3), .val (.int p4), .val (.int p5), .val (.int p6), .val (.int mm), .val (.long G), .second, .val (.int (p3 &&& (15 : Int32))), .val (.long T), .second, .val (.long A), .second, .val (.double sc), .second, .val (.int (p6 &&& (3 : Int32))), .val (.double (FP.ddiv (FP.l2d (G * mm.toInt64)) (FP.i2d mm))), .second, .unset, .unset, .unset, .unset, .unset, .unset, .unset, .unset] [])) τ
      refine own_dload X29.here hx rfl (hb hby at_79) rfl ?_
      show Steps p.tables e below (T29.setTop (mkF m 81 #[.val (.int p1), .val (.int p2), .val (.int p3), .val (.int p4), .val (.int p5), .val (.int p6), .val (.int mm), .val (.long G), .second, .val (.int (p3 &&& (15 : Int32))), .val (.long T), .second, .val (.long A), .second, .val (.double sc), .second, .val (.int (p6 &&& (3 : Int32))), .val (.double (FP.ddiv (FP.l2d (G * mm.toInt64)) (FP.i2d mm))), .second, .unset, .unset, .unset, .unset, .unset, .unset, .unset, .unset] [(.double (FP.ddiv (FP.l2d (G * mm.toInt64)) (FP.i2d mm)))])) τ
      refine XT.lload X29.here hx rfl (hb hby at_81) rfl ?_
      show Steps p.tables e below (T29.setTop (mkF m 83 #[.val (.int p1), .val (.int p2), .val (.int p3), .val (.int p4), .val (.int p5), .val (.int p6), .val (.int mm), .val (.long G), .second, .val (.int (p3 &&& (15 : Int32))), .val (.long T), .second, .val (.long A), .second, .val (.double sc), .second, .val (.int (p6 &&& (3 : Int32))), .val (.double (FP.ddiv (FP.l2d (G * mm.toInt64)) (FP.i2d mm))), .second, .unset, .unset, .unset, .unset, .unset, .unset, .unset, .unset] [(.long G), (.double (FP.ddiv (FP.l2d (G * mm.toInt64)) (FP.i2d mm)))])) τ
      refine own_l2d X29.here hx rfl (hb hby at_83) rfl ?_
      show Steps p.tables e below (T29.setTop (mkF m 84 #[.val (.int p1), .val (.int p2), .val (.int p3), .val (.int p4), .val (.int p5), .val (.int p6), .val (.int mm), .val (.long G), .second, .val (.int (p3 &&& (15 : Int32))), .val (.long T), .second, .val (.long A), .second, .val (.double sc), .second, .val (.int (p6 &&& (3 : Int32))), .val (.double (FP.ddiv (FP.l2d (G * mm.toInt64)) (FP.i2d mm))), .second, .unset, .unset, .unset, .unset, .unset, .unset, .unset, .unset] [(.double (FP.l2d G)), (.double (FP.ddiv (FP.l2d (G * mm.toInt64)) (FP.i2d mm)))])) τ
      refine own_dcmp X29.here hx rfl (hb hby at_84) rfl ?_
      show Steps p.tables e below (T29.setTop (mkF m 85 #[.val (.int p1), .val (.int p2), .val (.int p3), .val (.int p4), .val (.int p5), .val (.int p6), .val (.int mm), .val (.long G), .second, .val (.int (p3 &&& (15 : Int32))), .val (.long T), .second, .val (.long A), .second, .val (.double sc), .second, .val (.int (p6 &&& (3 : Int32))), .val (.double (FP.ddiv (FP.l2d (G * mm.toInt64)) (FP.i2d mm))), .second, .unset, .unset, .unset, .unset, .unset, .unset, .unset, .unset] [(.int (cmpValue (FP.dcmp (FP.ddiv (FP.l2d (G * mm.toInt64)) (FP.i2d mm)) (FP.l2d G)) .l))])) τ
      refine XS.ifNo X29.here hx rfl (hb hby at_85) rfl ((if0 _ _).trans (teq (own_cmp0.mpr (by rw [own_d_cmp dQ dG, own_cmp_eq]))).2) ?_
      show Steps p.tables e below (T29.setTop (mkF m 88 #[.val (.int p1), .val (.int p2), .val (.int p3), .val (.int p4), .val (.int p5), .val (.int p6), .val (.int mm), .val (.long G), .second, .val (.int (p3 &&& (15 : Int32))), .val (.long T), .second, .val (.long A), .second, .val (.double sc), .second, .val (.int (p6 &&& (3 : Int32))), .val (.double (FP.ddiv (FP.l2d (G * mm.toInt64)) (FP.i2d mm))), .second, .unset, .unset, .unset, .unset, .unset, .unset, .unset, .unset] [])) τ
      refine XS.iconst X29.here hx rfl (hb hby at_88) ?_
      show Steps p.tables e below (T29.setTop (mkF m 89 #[.val (.int p1), .val (.int p2), .val (.int p3), .val (.int p4), .val (.int p5), .val (.int p6), .val (.int mm), .val (.long G), .second, .val (.int (p3 &&& (15 : Int32))), .val (.long T), .second, .val (.long A), .second, .val (.double sc), .second, .val (.int (p6 &&& (3 : Int32))), .val (.double (FP.ddiv (FP.l2d (G * mm.toInt64)) (FP.i2d mm))), .second, .unset, .unset, .unset, .unset, .unset, .unset, .unset, .unset] [(.int (1 : Int32))])) τ
      refine XS.goto X29.here hx rfl (pc0 := 89) (pc' := 93) rfl (hb hby at_89) (by decide) (by decide) ?_
      exact kt)
    obtain ⟨fs, hrL, hrun, hended, hW, hsame⟩ := X29.leave (v := some (.int (1 : Int32))) (fun h => by rw [Bd.returns] at h; cases h)
    refine ⟨_, _, pre31 _ ?_, hrun, hended, _, _, rfl, ?_, ⟨_, rfl⟩, hW, hsame.mono (by decide) (by decide)⟩
    · show Steps p.tables e below (T29.setTop (mkF m 93 #[.val (.int p1), .val (.int p2), .val (.int p3), .val (.int p4), .val (.int p5), .val (.int p6), .val (.int mm), .val (.long G), .second, .val (.int (p3 &&& (15 : Int32))), .val (.long T), .second, .val (.long A), .second, .val (.double sc), .second, .val (.int (p6 &&& (3 : Int32))), .val (.double (FP.ddiv (FP.l2d (G * mm.toInt64)) (FP.i2d mm))), .second, .unset, .unset, .unset, .unset, .unset, .unset, .unset, .unset] [(.int (1 : Int32))])) _
      exact retN X29 hx (t := .boolean) Bd.returns (by simp) (hb hby at_93) hrL
    · show Q0 n0 _ T29.heap _
      exact ⟨rfl, N29⟩
  · skip
    have dS : own_D (t - a) 0 (FP.l2d (T - A)) := by
      have e : (T - A).toInt = t - a := by rw [FP.Core.int64_sub, eT, eA] <;> rw [eT, eA] <;> omega
      have := own_d_l2d (x := T - A) (by omega); rwa [e] at this
    obtain ⟨f1, f2, f3, f4, f5, f6⟩ := own_flow hsc hN hN' hK hK' hj ht ha hat hg hg' dG dA dS
    have pre32 : ∀ τ, Steps p.tables e below (T19.setTop (mkF m 110 #[.val (.int p1), .val (.int p2), .val (.int p3), .val (.int p4), .val (.int p5), .val (.int p6), .val (.int mm), .val (.long G), .second, .val (.int (p3 &&& (15 : Int32))), .val (.long T), .second, .val (.long A), .second, .val (.double sc), .second, .val (.int (p6 &&& (3 : Int32))), .val (.double (FP.dmul (FP.l2d A) sc)), .second, .val (.double (9218868437227405312 : UInt64)), .second, .unset, .unset, .unset, .unset, .unset, .unset] [(.int (2 : Int32)), (.int (p6 &&& (3 : Int32)))])) τ → Steps p.tables e below (s₁.setTop (entryFrame m #[(.int p1), (.int p2), (.int p3), (.int p4), (.int p5), (.int p6)] maxLocals)) τ := fun τ kt => pre27 τ (by
      show Steps p.tables e below (T19.setTop (mkF m 60 #[.val (.int p1), .val (.int p2), .val (.int p3), .val (.int p4), .val (.int p5), .val (.int p6), .val (.int mm), .val (.long G), .second, .val (.int (p3 &&& (15 : Int32))), .val (.long T), .second, .val (.long A), .second, .val (.double sc), .second, .val (.int (p6 &&& (3 : Int32))), .unset, .unset, .unset, .unset, .unset, .unset, .unset, .unset, .unset, .unset] [(.int (3 : Int32)), (.int (p6 &&& (3 : Int32)))])) τ
      refine XS.icmpYes X19.here hx rfl (pc0 := 60) (pc' := 94) rfl (hb hby at_60) rfl (feq q3).2 (by decide) (by decide) ?_
      show Steps p.tables e below (T19.setTop (mkF m 94 #[.val (.int p1), .val (.int p2), .val (.int p3), .val (.int p4), .val (.int p5), .val (.int p6), .val (.int mm), .val (.long G), .second, .val (.int (p3 &&& (15 : Int32))), .val (.long T), .second, .val (.long A), .second, .val (.double sc), .second, .val (.int (p6 &&& (3 : Int32))), .unset, .unset, .unset, .unset, .unset, .unset, .unset, .unset, .unset, .unset] [])) τ
      refine XT.lload X19.here hx rfl (hb hby at_94) rfl ?_
      show Steps p.tables e below (T19.setTop (mkF m 96 #[.val (.int p1), .val (.int p2), .val (.int p3), .val (.int p4), .val (.int p5), .val (.int p6), .val (.int mm), .val (.long G), .second, .val (.int (p3 &&& (15 : Int32))), .val (.long T), .second, .val (.long A), .second, .val (.double sc), .second, .val (.int (p6 &&& (3 : Int32))), .unset, .unset, .unset, .unset, .unset, .unset, .unset, .unset, .unset, .unset] [(.long A)])) τ
      refine own_l2d X19.here hx rfl (hb hby at_96) rfl ?_
      show Steps p.tables e below (T19.setTop (mkF m 97 #[.val (.int p1), .val (.int p2), .val (.int p3), .val (.int p4), .val (.int p5), .val (.int p6), .val (.int mm), .val (.long G), .second, .val (.int (p3 &&& (15 : Int32))), .val (.long T), .second, .val (.long A), .second, .val (.double sc), .second, .val (.int (p6 &&& (3 : Int32))), .unset, .unset, .unset, .unset, .unset, .unset, .unset, .unset, .unset, .unset] [(.double (FP.l2d A))])) τ
      refine own_dload X19.here hx rfl (hb hby at_97) rfl ?_
      show Steps p.tables e below (T19.setTop (mkF m 99 #[.val (.int p1), .val (.int p2), .val (.int p3), .val (.int p4), .val (.int p5), .val (.int p6), .val (.int mm), .val (.long G), .second, .val (.int (p3 &&& (15 : Int32))), .val (.long T), .second, .val (.long A), .second, .val (.double sc), .second, .val (.int (p6 &&& (3 : Int32))), .unset, .unset, .unset, .unset, .unset, .unset, .unset, .unset, .unset, .unset] [(.double sc), (.double (FP.l2d A))])) τ
      refine own_dmul X19.here hx rfl (hb hby at_99) rfl (own_d_no f1) ?_
      show Steps p.tables e below (T19.setTop (mkF m 100 #[.val (.int p1), .val (.int p2), .val (.int p3), .val (.int p4), .val (.int p5), .val (.int p6), .val (.int mm), .val (.long G), .second, .val (.int (p3 &&& (15 : Int32))), .val (.long T), .second, .val (.long A), .second, .val (.double sc), .second, .val (.int (p6 &&& (3 : Int32))), .unset, .unset, .unset, .unset, .unset, .unset, .unset, .unset, .unset, .unset] [(.double (FP.dmul (FP.l2d A) sc))])) τ
      refine own_dstore X19.here hx rfl (hb hby at_100) rfl (l' := #[.val (.int p1), .val (.int p2), .val (.int p3), .val (.int p4), .val (.int p5), .val (.int p6), .val (.int mm), .val (.long G), .second, .val (.int (p3 &&& (15 : Int32))), .val (.long T), .second, .val (.long A), .second, .val (.double sc), .second, .val (.int (p6 &&& (3 : Int32))), .val (.double (FP.dmul (FP.l2d A) sc)), .second, .unset, .unset, .unset, .unset, .unset, .unset, .unset, .unset]) rfl ?_
      show Steps p.tables e below (T19.setTop (mkF m 102 #[.val (.int p1), .val (.int p2), .val (.int p3), .val (.int p4), .val (.int p5), .val (.int p6), .val (.int mm), .val (.long G), .second, .val (.int (p3 &&& (15 : Int32))), .val (.long T), .second, .val (.long A), .second, .val (.double sc), .second, .val (.int (p6 &&& (3 : Int32))), .val (.double (FP.dmul (FP.l2d A) sc)), .second, .unset, .unset, .unset, .unset, .unset, .unset, .unset, .unset] [])) τ
      refine X19.ldc2DoubleC hx hown (mvT hZ (hw _ (List.mem_of_getElem? (i := 12) rfl))) (g := (mkF m 102 #[.val (.int p1), .val (.int p2), .val (.int p3), .val (.int p4), .val (.int p5), .val (.int p6), .val (.int mm), .val (.long G), .second, .val (.int (p3 &&& (15 : Int32))), .val (.long T), .second, .val (.long A), .second, .val (.double sc), .second, .val (.int (p6 &&& (3 : Int32))), .val (.double (FP.dmul (FP.l2d A) sc)), .second, .unset, .unset, .unset, .unset, .unset, .unset, .unset, .unset] [])) rfl (hb hby at_102) _ ?_
      show Steps p.tables e below (T19.setTop (mkF m 105 #[.val (.int p1), .val (.int p2), .val (.int p3), .val (.int p4), .val (.int p5), .val (.int p6), .val (.int mm), .val (.long G), .second, .val (.int (p3 &&& (15 : Int32))), .val (.long T), .second, .val (.long A), .second, .val (.double sc), .second, .val (.int (p6 &&& (3 : Int32))), .val (.double (FP.dmul (FP.l2d A) sc)), .second, .unset, .unset, .unset, .unset, .unset, .unset, .unset, .unset] [(.double (9218868437227405312 : UInt64))])) τ
      refine own_dstore X19.here hx rfl (hb hby at_105) rfl (l' := #[.val (.int p1), .val (.int p2), .val (.int p3), .val (.int p4), .val (.int p5), .val (.int p6), .val (.int mm), .val (.long G), .second, .val (.int (p3 &&& (15 : Int32))), .val (.long T), .second, .val (.long A), .second, .val (.double sc), .second, .val (.int (p6 &&& (3 : Int32))), .val (.double (FP.dmul (FP.l2d A) sc)), .second, .val (.double (9218868437227405312 : UInt64)), .second, .unset, .unset, .unset, .unset, .unset, .unset]) rfl ?_
      show Steps p.tables e below (T19.setTop (mkF m 107 #[.val (.int p1), .val (.int p2), .val (.int p3), .val (.int p4), .val (.int p5), .val (.int p6), .val (.int mm), .val (.long G), .second, .val (.int (p3 &&& (15 : Int32))), .val (.long T), .second, .val (.long A), .second, .val (.double sc), .second, .val (.int (p6 &&& (3 : Int32))), .val (.double (FP.dmul (FP.l2d A) sc)), .second, .val (.double (9218868437227405312 : UInt64)), .second, .unset, .unset, .unset, .unset, .unset, .unset] [])) τ
      refine XS.iload X19.here hx rfl (hb hby at_107) rfl ?_
      show Steps p.tables e below (T19.setTop (mkF m 109 #[.val (.int p1), .val (.int p2), .val (.int p3), .val (.int p4), .val (.int p5), .val (.int p6), .val (.int mm), .val (.long G), .second, .val (.int (p3 &&& (15 : Int32))), .val (.long T), .second, .val (.long A), .second, .val (.double sc), .second, .val (.int (p6 &&& (3 : Int32))), .val (.double (FP.dmul (FP.l2d A) sc)), .second, .val (.double (9218868437227405312 : UInt64)), .second, .unset, .unset, .unset, .unset, .unset, .unset] [(.int (p6 &&& (3 : Int32)))])) τ
      refine XS.iconst X19.here hx rfl (hb hby at_109) ?_
      exact kt)
    by_cases q2 : (p6 &&& (3 : Int32)) = (2 : Int32)
    · skip
      obtain ⟨i1, i2, i3⟩ := own_flow_inf f1 dG
      have i1' : FP.dadd (FP.dmul (FP.l2d A) sc) (9218868437227405312 : UInt64) = (9218868437227405312 : UInt64) := i1
      have pre33 : ∀ τ, Steps p.tables e below (T19.setTop (mkF m 138 #[.val (.int p1), .val (.int p2), .val (.int p3), .val (.int p4), .val (.int p5), .val (.int p6), .val (.int mm), .val (.long G), .second, .val (.int (p3 &&& (15 : Int32))), .val (.long T), .second, .val (.long A), .second, .val (.double sc), .second, .val (.int (p6 &&& (3 : Int32))), .val (.double (FP.dmul (FP.l2d A) sc)), .second, .val (.double (9218868437227405312 : UInt64)), .second, .val (.double (9218868437227405312 : UInt64)), .second, .unset, .unset, .unset, .unset] [(.int mm), (.double (9218868437227405312 : UInt64)), (.double (FP.dmul (FP.l2d A) sc)), (.double (FP.l2d G))])) τ → Steps p.tables e below (s₁.setTop (entryFrame m #[(.int p1), (.int p2), (.int p3), (.int p4), (.int p5), (.int p6)] maxLocals)) τ := fun τ kt => pre32 τ (by
        show Steps p.tables e below (T19.setTop (mkF m 110 #[.val (.int p1), .val (.int p2), .val (.int p3), .val (.int p4), .val (.int p5), .val (.int p6), .val (.int mm), .val (.long G), .second, .val (.int (p3 &&& (15 : Int32))), .val (.long T), .second, .val (.long A), .second, .val (.double sc), .second, .val (.int (p6 &&& (3 : Int32))), .val (.double (FP.dmul (FP.l2d A) sc)), .second, .val (.double (9218868437227405312 : UInt64)), .second, .unset, .unset, .unset, .unset, .unset, .unset] [(.int (2 : Int32)), (.int (p6 &&& (3 : Int32)))])) τ
        refine XS.icmpNo X19.here hx rfl (hb hby at_110) rfl (teq q2).2 ?_
        show Steps p.tables e below (T19.setTop (mkF m 113 #[.val (.int p1), .val (.int p2), .val (.int p3), .val (.int p4), .val (.int p5), .val (.int p6), .val (.int mm), .val (.long G), .second, .val (.int (p3 &&& (15 : Int32))), .val (.long T), .second, .val (.long A), .second, .val (.double sc), .second, .val (.int (p6 &&& (3 : Int32))), .val (.double (FP.dmul (FP.l2d A) sc)), .second, .val (.double (9218868437227405312 : UInt64)), .second, .unset, .unset, .unset, .unset, .unset, .unset] [])) τ
        refine own_dload X19.here hx rfl (hb hby at_113) rfl ?_
        show Steps p.tables e below (T19.setTop (mkF m 115 #[.val (.int p1), .val (.int p2), .val (.int p3), .val (.int p4), .val (.int p5), .val (.int p6), .val (.int mm), .val (.long G), .second, .val (.int (p3 &&& (15 : Int32))), .val (.long T), .second, .val (.long A), .second, .val (.double sc), .second, .val (.int (p6 &&& (3 : Int32))), .val (.double (FP.dmul (FP.l2d A) sc)), .second, .val (.double (9218868437227405312 : UInt64)), .second, .unset, .unset, .unset, .unset, .unset, .unset] [(.double (9218868437227405312 : UInt64))])) τ
        refine XS.goto X19.here hx rfl (pc0 := 115) (pc' := 127) rfl (hb hby at_115) (by decide) (by decide) ?_
        show Steps p.tables e below (T19.setTop (mkF m 127 #[.val (.int p1), .val (.int p2), .val (.int p3), .val (.int p4), .val (.int p5), .val (.int p6), .val (.int mm), .val (.long G), .second, .val (.int (p3 &&& (15 : Int32))), .val (.long T), .second, .val (.long A), .second, .val (.double sc), .second, .val (.int (p6 &&& (3 : Int32))), .val (.double (FP.dmul (FP.l2d A) sc)), .second, .val (.double (9218868437227405312 : UInt64)), .second, .unset, .unset, .unset, .unset, .unset, .unset] [(.double (9218868437227405312 : UInt64))])) τ
        refine own_dstore X19.here hx rfl (hb hby at_127) rfl (l' := #[.val (.int p1), .val (.int p2), .val (.int p3), .val (.int p4), .val (.int p5), .val (.int p6), .val (.int mm), .val (.long G), .second, .val (.int (p3 &&& (15 : Int32))), .val (.long T), .second, .val (.long A), .second, .val (.double sc), .second, .val (.int (p6 &&& (3 : Int32))), .val (.double (FP.dmul (FP.l2d A) sc)), .second, .val (.double (9218868437227405312 : UInt64)), .second, .val (.double (9218868437227405312 : UInt64)), .second, .unset, .unset, .unset, .unset]) rfl ?_
        show Steps p.tables e below (T19.setTop (mkF m 129 #[.val (.int p1), .val (.int p2), .val (.int p3), .val (.int p4), .val (.int p5), .val (.int p6), .val (.int mm), .val (.long G), .second, .val (.int (p3 &&& (15 : Int32))), .val (.long T), .second, .val (.long A), .second, .val (.double sc), .second, .val (.int (p6 &&& (3 : Int32))), .val (.double (FP.dmul (FP.l2d A) sc)), .second, .val (.double (9218868437227405312 : UInt64)), .second, .val (.double (9218868437227405312 : UInt64)), .second, .unset, .unset, .unset, .unset] [])) τ
        refine XT.lload X19.here hx rfl (hb hby at_129) rfl ?_
        show Steps p.tables e below (T19.setTop (mkF m 131 #[.val (.int p1), .val (.int p2), .val (.int p3), .val (.int p4), .val (.int p5), .val (.int p6), .val (.int mm), .val (.long G), .second, .val (.int (p3 &&& (15 : Int32))), .val (.long T), .second, .val (.long A), .second, .val (.double sc), .second, .val (.int (p6 &&& (3 : Int32))), .val (.double (FP.dmul (FP.l2d A) sc)), .second, .val (.double (9218868437227405312 : UInt64)), .second, .val (.double (9218868437227405312 : UInt64)), .second, .unset, .unset, .unset, .unset] [(.long G)])) τ
        refine own_l2d X19.here hx rfl (hb hby at_131) rfl ?_
        show Steps p.tables e below (T19.setTop (mkF m 132 #[.val (.int p1), .val (.int p2), .val (.int p3), .val (.int p4), .val (.int p5), .val (.int p6), .val (.int mm), .val (.long G), .second, .val (.int (p3 &&& (15 : Int32))), .val (.long T), .second, .val (.long A), .second, .val (.double sc), .second, .val (.int (p6 &&& (3 : Int32))), .val (.double (FP.dmul (FP.l2d A) sc)), .second, .val (.double (9218868437227405312 : UInt64)), .second, .val (.double (9218868437227405312 : UInt64)), .second, .unset, .unset, .unset, .unset] [(.double (FP.l2d G))])) τ
        refine own_dload X19.here hx rfl (hb hby at_132) rfl ?_
        show Steps p.tables e below (T19.setTop (mkF m 134 #[.val (.int p1), .val (.int p2), .val (.int p3), .val (.int p4), .val (.int p5), .val (.int p6), .val (.int mm), .val (.long G), .second, .val (.int (p3 &&& (15 : Int32))), .val (.long T), .second, .val (.long A), .second, .val (.double sc), .second, .val (.int (p6 &&& (3 : Int32))), .val (.double (FP.dmul (FP.l2d A) sc)), .second, .val (.double (9218868437227405312 : UInt64)), .second, .val (.double (9218868437227405312 : UInt64)), .second, .unset, .unset, .unset, .unset] [(.double (FP.dmul (FP.l2d A) sc)), (.double (FP.l2d G))])) τ
        refine own_dload X19.here hx rfl (hb hby at_134) rfl ?_
        show Steps p.tables e below (T19.setTop (mkF m 136 #[.val (.int p1), .val (.int p2), .val (.int p3), .val (.int p4), .val (.int p5), .val (.int p6), .val (.int mm), .val (.long G), .second, .val (.int (p3 &&& (15 : Int32))), .val (.long T), .second, .val (.long A), .second, .val (.double sc), .second, .val (.int (p6 &&& (3 : Int32))), .val (.double (FP.dmul (FP.l2d A) sc)), .second, .val (.double (9218868437227405312 : UInt64)), .second, .val (.double (9218868437227405312 : UInt64)), .second, .unset, .unset, .unset, .unset] [(.double (9218868437227405312 : UInt64)), (.double (FP.dmul (FP.l2d A) sc)), (.double (FP.l2d G))])) τ
        refine XS.iload X19.here hx rfl (hb hby at_136) rfl ?_
        exact kt)
      obtain ⟨_, _, ⟨T34, L34, k34, n34⟩, -, X34, ⟨Lc34, hQ34, l34, y34, z34⟩, st34⟩ := Jvm.LawKit.callS X19 hx (y := (⟨"com/example/meter/meter/allocation/FlowShare", "localLimit", "(DDDI)D"⟩ : MethodName)) hown (mvT hZ (hw _ (List.mem_of_getElem? (i := 7) rfl))) (mvT hZ (hw _ (List.mem_of_getElem? (i := 8) rfl))) (mvT hZ (hw _ (List.mem_of_getElem? (i := 9) rfl))) (mvT hZ (hw _ (List.mem_of_getElem? (i := 10) rfl))) (by decide) (backOf (W := 0) (rmL l Z a0 hw [] (FP.l2d G) (FP.dmul (FP.l2d A) sc) (9218868437227405312 : UInt64) mm h0 n0 Z0 (by rw [i1']; decide +kernel) (by rw [i1']; decide +kernel) (by rw [i1']; exact own_d_no i2) (by rw [i1']; exact own_d_no i3)) hZ (hw _ (List.mem_of_getElem? (i := 10) rfl)) (hw _ (List.mem_of_getElem? (i := 9) rfl)) (by decide) (by decide)) (g := (mkF m 138 #[.val (.int p1), .val (.int p2), .val (.int p3), .val (.int p4), .val (.int p5), .val (.int p6), .val (.int mm), .val (.long G), .second, .val (.int (p3 &&& (15 : Int32))), .val (.long T), .second, .val (.long A), .second, .val (.double sc), .second, .val (.int (p6 &&& (3 : Int32))), .val (.double (FP.dmul (FP.l2d A) sc)), .second, .val (.double (9218868437227405312 : UInt64)), .second, .val (.double (9218868437227405312 : UInt64)), .second, .unset, .unset, .unset, .unset] [(.int mm), (.double (9218868437227405312 : UInt64)), (.double (FP.dmul (FP.l2d A) sc)), (.double (FP.l2d G))])) rfl (by rw [hml]; rfl) (argsL := [(.double (FP.l2d G)), (.double (FP.dmul (FP.l2d A) sc)), (.double (9218868437227405312 : UInt64)), (.int mm)]) (rest := []) (lenOf own_pd__DDDI_D rfl) rfl (by show 2 * 0 + _ ≤ _; exact Nat.le_of_eq rfl) (hb hby at_138) (fun _ _ => ⟨rfl, eq19, (by decide : 0 + 0 ≤ _), (by decide : 0 + 0 ≤ _)⟩)
      dsimp only [Pt.U, Pt.locs, Pt.cells, Pt.slots] at X34 l34 y34 z34 st34 hQ34
      subst l34 y34 z34
      obtain ⟨rfl, Nq34, eq34⟩ := hQ34
      have N34 := Fr.app N19 Nq34
      have pre35 : ∀ τ, Steps p.tables e below (T34.setTop (mkF m 141 #[.val (.int p1), .val (.int p2), .val (.int p3), .val (.int p4), .val (.int p5), .val (.int p6), .val (.int mm), .val (.long G), .second, .val (.int (p3 &&& (15 : Int32))), .val (.long T), .second, .val (.long A), .second, .val (.double sc), .second, .val (.int (p6 &&& (3 : Int32))), .val (.double (FP.dmul (FP.l2d A) sc)), .second, .val (.double (9218868437227405312 : UInt64)), .second, .val (.double (9218868437227405312 : UInt64)), .second, .unset, .unset, .unset, .unset] [(.double (FP.dmul (FP.l2d G) (FP.ddiv (FP.dmul (FP.l2d A) sc) (FP.dadd (FP.dmul (FP.l2d A) sc) (9218868437227405312 : UInt64)))))])) τ → Steps p.tables e below (s₁.setTop (entryFrame m #[(.int p1), (.int p2), (.int p3), (.int p4), (.int p5), (.int p6)] maxLocals)) τ := fun τ kt => pre33 τ (st34 τ kt)
      have pre36 : ∀ τ, Steps p.tables e below (T34.setTop (mkF m 178 #[.val (.int p1), .val (.int p2), .val (.int p3), .val (.int p4), .val (.int p5), .val (.int p6), .val (.int mm), .val (.long G), .second, .val (.int (p3 &&& (15 : Int32))), .val (.long T), .second, .val (.long A), .second, .val (.double sc), .second, .val (.int (p6 &&& (3 : Int32))), .val (.double (FP.dmul (FP.l2d A) sc)), .second, .val (.double (9218868437227405312 : UInt64)), .second, .val (.double (9218868437227405312 : UInt64)), .second, .val (.double (FP.dmul (FP.l2d G) (FP.ddiv (FP.dmul (FP.l2d A) sc) (FP.dadd (FP.dmul (FP.l2d A) sc) (9218868437227405312 : UInt64))))), .second, .val (.double FP.dconst0), .second] [(.int (1 : Int32))])) τ → Steps p.tables e below (s₁.setTop (entryFrame m #[(.int p1), (.int p2), (.int p3), (.int p4), (.int p5), (.int p6)] maxLocals)) τ := fun τ kt => pre35 τ (by
        show Steps p.tables e below (T34.setTop (mkF m 141 #[.val (.int p1), .val (.int p2), .val (.int p3), .val (.int p4), .val (.int p5), .val (.int p6), .val (.int mm), .val (.long G), .second, .val (.int (p3 &&& (15 : Int32))), .val (.long T), .second, .val (.long A), .second, .val (.double sc), .second, .val (.int (p6 &&& (3 : Int32))), .val (.double (FP.dmul (FP.l2d A) sc)), .second, .val (.double (9218868437227405312 : UInt64)), .second, .val (.double (9218868437227405312 : UInt64)), .second, .unset, .unset, .unset, .unset] [(.double (FP.dmul (FP.l2d G) (FP.ddiv (FP.dmul (FP.l2d A) sc) (FP.dadd (FP.dmul (FP.l2d A) sc) (9218868437227405312 : UInt64)))))])) τ
        refine own_dstore X34.here hx rfl (hb hby at_141) rfl (l' := #[.val (.int p1), .val (.int p2), .val (.int p3), .val (.int p4), .val (.int p5), .val (.int p6), .val (.int mm), .val (.long G), .second, .val (.int (p3 &&& (15 : Int32))), .val (.long T), .second, .val (.long A), .second, .val (.double sc), .second, .val (.int (p6 &&& (3 : Int32))), .val (.double (FP.dmul (FP.l2d A) sc)), .second, .val (.double (9218868437227405312 : UInt64)), .second, .val (.double (9218868437227405312 : UInt64)), .second, .val (.double (FP.dmul (FP.l2d G) (FP.ddiv (FP.dmul (FP.l2d A) sc) (FP.dadd (FP.dmul (FP.l2d A) sc) (9218868437227405312 : UInt64))))), .second, .unset, .unset]) rfl ?_
        show Steps p.tables e below (T34.setTop (mkF m 143 #[.val (.int p1), .val (.int p2), .val (.int p3), .val (.int p4), .val (.int p5), .val (.int p6), .val (.int mm), .val (.long G), .second, .val (.int (p3 &&& (15 : Int32))), .val (.long T), .second, .val (.long A), .second, .val (.double sc), .second, .val (.int (p6 &&& (3 : Int32))), .val (.double (FP.dmul (FP.l2d A) sc)), .second, .val (.double (9218868437227405312 : UInt64)), .second, .val (.double (9218868437227405312 : UInt64)), .second, .val (.double (FP.dmul (FP.l2d G) (FP.ddiv (FP.dmul (FP.l2d A) sc) (FP.dadd (FP.dmul (FP.l2d A) sc) (9218868437227405312 : UInt64))))), .second, .unset, .unset] [])) τ
        refine XS.iload X34.here hx rfl (hb hby at_143) rfl ?_
        show Steps p.tables e below (T34.setTop (mkF m 145 #[.val (.int p1), .val (.int p2), .val (.int p3), .val (.int p4), .val (.int p5), .val (.int p6), .val (.int mm), .val (.long G), .second, .val (.int (p3 &&& (15 : Int32))), .val (.long T), .second, .val (.long A), .second, .val (.double sc), .second, .val (.int (p6 &&& (3 : Int32))), .val (.double (FP.dmul (FP.l2d A) sc)), .second, .val (.double (9218868437227405312 : UInt64)), .second, .val (.double (9218868437227405312 : UInt64)), .second, .val (.double (FP.dmul (FP.l2d G) (FP.ddiv (FP.dmul (FP.l2d A) sc) (FP.dadd (FP.dmul (FP.l2d A) sc) (9218868437227405312 : UInt64))))), .second, .unset, .unset] [(.int (p6 &&& (3 : Int32)))])) τ
        refine XS.iconst X34.here hx rfl (hb hby at_145) ?_
        show Steps p.tables e below (T34.setTop (mkF m 146 #[.val (.int p1), .val (.int p2), .val (.int p3), .val (.int p4), .val (.int p5), .val (.int p6), .val (.int mm), .val (.long G), .second, .val (.int (p3 &&& (15 : Int32))), .val (.long T), .second, .val (.long A), .second, .val (.double sc), .second, .val (.int (p6 &&& (3 : Int32))), .val (.double (FP.dmul (FP.l2d A) sc)), .second, .val (.double (9218868437227405312 : UInt64)), .second, .val (.double (9218868437227405312 : UInt64)), .second, .val (.double (FP.dmul (FP.l2d G) (FP.ddiv (FP.dmul (FP.l2d A) sc) (FP.dadd (FP.dmul (FP.l2d A) sc) (9218868437227405312 : UInt64))))), .second, .unset, .unset] [(.int (2 : Int32)), (.int (p6 &&& (3 : Int32)))])) τ
        refine XS.icmpNo X34.here hx rfl (hb hby at_146) rfl (teq q2).2 ?_
        show Steps p.tables e below (T34.setTop (mkF m 149 #[.val (.int p1), .val (.int p2), .val (.int p3), .val (.int p4), .val (.int p5), .val (.int p6), .val (.int mm), .val (.long G), .second, .val (.int (p3 &&& (15 : Int32))), .val (.long T), .second, .val (.long A), .second, .val (.double sc), .second, .val (.int (p6 &&& (3 : Int32))), .val (.double (FP.dmul (FP.l2d A) sc)), .second, .val (.double (9218868437227405312 : UInt64)), .second, .val (.double (9218868437227405312 : UInt64)), .second, .val (.double (FP.dmul (FP.l2d G) (FP.ddiv (FP.dmul (FP.l2d A) sc) (FP.dadd (FP.dmul (FP.l2d A) sc) (9218868437227405312 : UInt64))))), .second, .unset, .unset] [])) τ
        refine own_dconst0 X34.here hx rfl (hb hby at_149) ?_
        show Steps p.tables e below (T34.setTop (mkF m 150 #[.val (.int p1), .val (.int p2), .val (.int p3), .val (.int p4), .val (.int p5), .val (.int p6), .val (.int mm), .val (.long G), .second, .val (.int (p3 &&& (15 : Int32))), .val (.long T), .second, .val (.long A), .second, .val (.double sc), .second, .val (.int (p6 &&& (3 : Int32))), .val (.double (FP.dmul (FP.l2d A) sc)), .second, .val (.double (9218868437227405312 : UInt64)), .second, .val (.double (9218868437227405312 : UInt64)), .second, .val (.double (FP.dmul (FP.l2d G) (FP.ddiv (FP.dmul (FP.l2d A) sc) (FP.dadd (FP.dmul (FP.l2d A) sc) (9218868437227405312 : UInt64))))), .second, .unset, .unset] [(.double FP.dconst0)])) τ
        refine XS.goto X34.here hx rfl (pc0 := 150) (pc' := 163) rfl (hb hby at_150) (by decide) (by decide) ?_
        show Steps p.tables e below (T34.setTop (mkF m 163 #[.val (.int p1), .val (.int p2), .val (.int p3), .val (.int p4), .val (.int p5), .val (.int p6), .val (.int mm), .val (.long G), .second, .val (.int (p3 &&& (15 : Int32))), .val (.long T), .second, .val (.long A), .second, .val (.double sc), .second, .val (.int (p6 &&& (3 : Int32))), .val (.double (FP.dmul (FP.l2d A) sc)), .second, .val (.double (9218868437227405312 : UInt64)), .second, .val (.double (9218868437227405312 : UInt64)), .second, .val (.double (FP.dmul (FP.l2d G) (FP.ddiv (FP.dmul (FP.l2d A) sc) (FP.dadd (FP.dmul (FP.l2d A) sc) (9218868437227405312 : UInt64))))), .second, .unset, .unset] [(.double FP.dconst0)])) τ
        refine own_dstore X34.here hx rfl (hb hby at_163) rfl (l' := #[.val (.int p1), .val (.int p2), .val (.int p3), .val (.int p4), .val (.int p5), .val (.int p6), .val (.int mm), .val (.long G), .second, .val (.int (p3 &&& (15 : Int32))), .val (.long T), .second, .val (.long A), .second, .val (.double sc), .second, .val (.int (p6 &&& (3 : Int32))), .val (.double (FP.dmul (FP.l2d A) sc)), .second, .val (.double (9218868437227405312 : UInt64)), .second, .val (.double (9218868437227405312 : UInt64)), .second, .val (.double (FP.dmul (FP.l2d G) (FP.ddiv (FP.dmul (FP.l2d A) sc) (FP.dadd (FP.dmul (FP.l2d A) sc) (9218868437227405312 : UInt64))))), .second, .val (.double FP.dconst0), .second]) rfl ?_
        show Steps p.tables e below (T34.setTop (mkF m 165 #[.val (.int p1), .val (.int p2), .val (.int p3), .val (.int p4), .val (.int p5), .val (.int p6), .val (.int mm), .val (.long G), .second, .val (.int (p3 &&& (15 : Int32))), .val (.long T), .second, .val (.long A), .second, .val (.double sc), .second, .val (.int (p6 &&& (3 : Int32))), .val (.double (FP.dmul (FP.l2d A) sc)), .second, .val (.double (9218868437227405312 : UInt64)), .second, .val (.double (9218868437227405312 : UInt64)), .second, .val (.double (FP.dmul (FP.l2d G) (FP.ddiv (FP.dmul (FP.l2d A) sc) (FP.dadd (FP.dmul (FP.l2d A) sc) (9218868437227405312 : UInt64))))), .second, .val (.double FP.dconst0), .second] [])) τ
        refine own_dload X34.here hx rfl (hb hby at_165) rfl ?_
        show Steps p.tables e below (T34.setTop (mkF m 167 #[.val (.int p1), .val (.int p2), .val (.int p3), .val (.int p4), .val (.int p5), .val (.int p6), .val (.int mm), .val (.long G), .second, .val (.int (p3 &&& (15 : Int32))), .val (.long T), .second, .val (.long A), .second, .val (.double sc), .second, .val (.int (p6 &&& (3 : Int32))), .val (.double (FP.dmul (FP.l2d A) sc)), .second, .val (.double (9218868437227405312 : UInt64)), .second, .val (.double (9218868437227405312 : UInt64)), .second, .val (.double (FP.dmul (FP.l2d G) (FP.ddiv (FP.dmul (FP.l2d A) sc) (FP.dadd (FP.dmul (FP.l2d A) sc) (9218868437227405312 : UInt64))))), .second, .val (.double FP.dconst0), .second] [(.double (FP.dmul (FP.l2d G) (FP.ddiv (FP.dmul (FP.l2d A) sc) (FP.dadd (FP.dmul (FP.l2d A) sc) (9218868437227405312 : UInt64)))))])) τ
        refine own_dload X34.here hx rfl (hb hby at_167) rfl ?_
        show Steps p.tables e below (T34.setTop (mkF m 169 #[.val (.int p1), .val (.int p2), .val (.int p3), .val (.int p4), .val (.int p5), .val (.int p6), .val (.int mm), .val (.long G), .second, .val (.int (p3 &&& (15 : Int32))), .val (.long T), .second, .val (.long A), .second, .val (.double sc), .second, .val (.int (p6 &&& (3 : Int32))), .val (.double (FP.dmul (FP.l2d A) sc)), .second, .val (.double (9218868437227405312 : UInt64)), .second, .val (.double (9218868437227405312 : UInt64)), .second, .val (.double (FP.dmul (FP.l2d G) (FP.ddiv (FP.dmul (FP.l2d A) sc) (FP.dadd (FP.dmul (FP.l2d A) sc) (9218868437227405312 : UInt64))))), .second, .val (.double FP.dconst0), .second] [(.double FP.dconst0), (.double (FP.dmul (FP.l2d G) (FP.ddiv (FP.dmul (FP.l2d A) sc) (FP.dadd (FP.dmul (FP.l2d A) sc) (9218868437227405312 : UInt64)))))])) τ
        refine own_dcmp X34.here hx rfl (hb hby at_169) rfl ?_
        show Steps p.tables e below (T34.setTop (mkF m 170 #[.val (.int p1), .val (.int p2), .val (.int p3), .val (.int p4), .val (.int p5), .val (.int p6), .val (.int mm), .val (.long G), .second, .val (.int (p3 &&& (15 : Int32))), .val (.long T), .second, .val (.long A), .second, .val (.double sc), .second, .val (.int (p6 &&& (3 : Int32))), .val (.double (FP.dmul (FP.l2d A) sc)), .second, .val (.double (9218868437227405312 : UInt64)), .second, .val (.double (9218868437227405312 : UInt64)), .second, .val (.double (FP.dmul (FP.l2d G) (FP.ddiv (FP.dmul (FP.l2d A) sc) (FP.dadd (FP.dmul (FP.l2d A) sc) (9218868437227405312 : UInt64))))), .second, .val (.double FP.dconst0), .second] [(.int (cmpValue (FP.dcmp (FP.dmul (FP.l2d G) (FP.ddiv (FP.dmul (FP.l2d A) sc) (FP.dadd (FP.dmul (FP.l2d A) sc) (9218868437227405312 : UInt64)))) FP.dconst0) .l))])) τ
        refine XS.ifNo X34.here hx rfl (hb hby at_170) rfl ((if0 _ _).trans (teq (own_cmp0.mpr (by rw [i1']; rw [show FP.dcmp (FP.dmul (FP.l2d G) (FP.ddiv (FP.dmul (FP.l2d A) sc) (9218868437227405312 : UInt64))) FP.dconst0 = _ from own_d_cmp i3 own_d_zero, own_cmp_eq]))).2) ?_
        show Steps p.tables e below (T34.setTop (mkF m 173 #[.val (.int p1), .val (.int p2), .val (.int p3), .val (.int p4), .val (.int p5), .val (.int p6), .val (.int mm), .val (.long G), .second, .val (.int (p3 &&& (15 : Int32))), .val (.long T), .second, .val (.long A), .second, .val (.double sc), .second, .val (.int (p6 &&& (3 : Int32))), .val (.double (FP.dmul (FP.l2d A) sc)), .second, .val (.double (9218868437227405312 : UInt64)), .second, .val (.double (9218868437227405312 : UInt64)), .second, .val (.double (FP.dmul (FP.l2d G) (FP.ddiv (FP.dmul (FP.l2d A) sc) (FP.dadd (FP.dmul (FP.l2d A) sc) (9218868437227405312 : UInt64))))), .second, .val (.double FP.dconst0), .second] [])) τ
        refine XS.iconst X34.here hx rfl (hb hby at_173) ?_
        show Steps p.tables e below (T34.setTop (mkF m 174 #[.val (.int p1), .val (.int p2), .val (.int p3), .val (.int p4), .val (.int p5), .val (.int p6), .val (.int mm), .val (.long G), .second, .val (.int (p3 &&& (15 : Int32))), .val (.long T), .second, .val (.long A), .second, .val (.double sc), .second, .val (.int (p6 &&& (3 : Int32))), .val (.double (FP.dmul (FP.l2d A) sc)), .second, .val (.double (9218868437227405312 : UInt64)), .second, .val (.double (9218868437227405312 : UInt64)), .second, .val (.double (FP.dmul (FP.l2d G) (FP.ddiv (FP.dmul (FP.l2d A) sc) (FP.dadd (FP.dmul (FP.l2d A) sc) (9218868437227405312 : UInt64))))), .second, .val (.double FP.dconst0), .second] [(.int (1 : Int32))])) τ
        refine XS.goto X34.here hx rfl (pc0 := 174) (pc' := 178) rfl (hb hby at_174) (by decide) (by decide) ?_
        exact kt)
      obtain ⟨fs, hrL, hrun, hended, hW, hsame⟩ := X34.leave (v := some (.int (1 : Int32))) (fun h => by rw [Bd.returns] at h; cases h)
      refine ⟨_, _, pre36 _ ?_, hrun, hended, _, _, rfl, ?_, ⟨_, rfl⟩, hW, hsame.mono (by decide) (by decide)⟩
      · show Steps p.tables e below (T34.setTop (mkF m 178 #[.val (.int p1), .val (.int p2), .val (.int p3), .val (.int p4), .val (.int p5), .val (.int p6), .val (.int mm), .val (.long G), .second, .val (.int (p3 &&& (15 : Int32))), .val (.long T), .second, .val (.long A), .second, .val (.double sc), .second, .val (.int (p6 &&& (3 : Int32))), .val (.double (FP.dmul (FP.l2d A) sc)), .second, .val (.double (9218868437227405312 : UInt64)), .second, .val (.double (9218868437227405312 : UInt64)), .second, .val (.double (FP.dmul (FP.l2d G) (FP.ddiv (FP.dmul (FP.l2d A) sc) (FP.dadd (FP.dmul (FP.l2d A) sc) (9218868437227405312 : UInt64))))), .second, .val (.double FP.dconst0), .second] [(.int (1 : Int32))])) _
        exact retN X34 hx (t := .boolean) Bd.returns (by simp) (hb hby at_178) hrL
      · show Q0 n0 _ T34.heap _
        exact ⟨rfl, N34⟩
    · skip
      have m4 : g * a ≤ 1048575 * 32768 := Int.mul_le_mul hg' (by omega) ha (by decide)
      have m4' : 0 ≤ g * a := Int.mul_nonneg hg ha
      have eP : (G * A).toInt = g * a := by rw [FP.Core.int64_mul, eg, eA] <;> rw [eg, eA] <;> omega
      have dP : own_D (g * a * 1) (-j + j) (FP.l2d (G * A)) := by
        have := own_d_l2d (x := G * A) (by omega)
        rw [eP] at this
        rw [Int.mul_one, show (-(j : Int) + j) = 0 by omega]; exact this
      have dT : own_D 1 j (FP.l2d T) := by
        have := own_d_l2d (x := T) (by omega)
        rw [eT, ht] at this
        have := own_d_unscale (n := 1) (k := 0) j (by rw [Int.one_mul]; exact this)
        rwa [Int.zero_add] at this
      have dE : own_D (g * a) (-j) (FP.ddiv (FP.l2d (G * A)) (FP.l2d T)) := own_d_div (by decide) dP dT (by omega) (by omega) (by omega)
      have pre37 : ∀ τ, Steps p.tables e below (T19.setTop (mkF m 138 #[.val (.int p1), .val (.int p2), .val (.int p3), .val (.int p4), .val (.int p5), .val (.int p6), .val (.int mm), .val (.long G), .second, .val (.int (p3 &&& (15 : Int32))), .val (.long T), .second, .val (.long A), .second, .val (.double sc), .second, .val (.int (p6 &&& (3 : Int32))), .val (.double (FP.dmul (FP.l2d A) sc)), .second, .val (.double (9218868437227405312 : UInt64)), .second, .val (.double (FP.dmul (FP.l2d (T - A)) sc)), .second, .unset, .unset, .unset, .unset] [(.int mm), (.double (FP.dmul (FP.l2d (T - A)) sc)), (.double (FP.dmul (FP.l2d A) sc)), (.double (FP.l2d G))])) τ → Steps p.tables e below (s₁.setTop (entryFrame m #[(.int p1), (.int p2), (.int p3), (.int p4), (.int p5), (.int p6)] maxLocals)) τ := fun τ kt => pre32 τ (by
        show Steps p.tables e below (T19.setTop (mkF m 110 #[.val (.int p1), .val (.int p2), .val (.int p3), .val (.int p4), .val (.int p5), .val (.int p6), .val (.int mm), .val (.long G), .second, .val (.int (p3 &&& (15 : Int32))), .val (.long T), .second, .val (.long A), .second, .val (.double sc), .second, .val (.int (p6 &&& (3 : Int32))), .val (.double (FP.dmul (FP.l2d A) sc)), .second, .val (.double (9218868437227405312 : UInt64)), .second, .unset, .unset, .unset, .unset, .unset, .unset] [(.int (2 : Int32)), (.int (p6 &&& (3 : Int32)))])) τ
        refine XS.icmpYes X19.here hx rfl (pc0 := 110) (pc' := 118) rfl (hb hby at_110) rfl (feq q2).2 (by decide) (by decide) ?_
        show Steps p.tables e below (T19.setTop (mkF m 118 #[.val (.int p1), .val (.int p2), .val (.int p3), .val (.int p4), .val (.int p5), .val (.int p6), .val (.int mm), .val (.long G), .second, .val (.int (p3 &&& (15 : Int32))), .val (.long T), .second, .val (.long A), .second, .val (.double sc), .second, .val (.int (p6 &&& (3 : Int32))), .val (.double (FP.dmul (FP.l2d A) sc)), .second, .val (.double (9218868437227405312 : UInt64)), .second, .unset, .unset, .unset, .unset, .unset, .unset] [])) τ
        refine XT.lload X19.here hx rfl (hb hby at_118) rfl ?_
        show Steps p.tables e below (T19.setTop (mkF m 120 #[.val (.int p1), .val (.int p2), .val (.int p3), .val (.int p4), .val (.int p5), .val (.int p6), .val (.int mm), .val (.long G), .second, .val (.int (p3 &&& (15 : Int32))), .val (.long T), .second, .val (.long A), .second, .val (.double sc), .second, .val (.int (p6 &&& (3 : Int32))), .val (.double (FP.dmul (FP.l2d A) sc)), .second, .val (.double (9218868437227405312 : UInt64)), .second, .unset, .unset, .unset, .unset, .unset, .unset] [(.long T)])) τ
        refine XT.lload X19.here hx rfl (hb hby at_120) rfl ?_
        show Steps p.tables e below (T19.setTop (mkF m 122 #[.val (.int p1), .val (.int p2), .val (.int p3), .val (.int p4), .val (.int p5), .val (.int p6), .val (.int mm), .val (.long G), .second, .val (.int (p3 &&& (15 : Int32))), .val (.long T), .second, .val (.long A), .second, .val (.double sc), .second, .val (.int (p6 &&& (3 : Int32))), .val (.double (FP.dmul (FP.l2d A) sc)), .second, .val (.double (9218868437227405312 : UInt64)), .second, .unset, .unset, .unset, .unset, .unset, .unset] [(.long A), (.long T)])) τ
        refine XT.lsub X19.here hx rfl (hb hby at_122) rfl ?_
        show Steps p.tables e below (T19.setTop (mkF m 123 #[.val (.int p1), .val (.int p2), .val (.int p3), .val (.int p4), .val (.int p5), .val (.int p6), .val (.int mm), .val (.long G), .second, .val (.int (p3 &&& (15 : Int32))), .val (.long T), .second, .val (.long A), .second, .val (.double sc), .second, .val (.int (p6 &&& (3 : Int32))), .val (.double (FP.dmul (FP.l2d A) sc)), .second, .val (.double (9218868437227405312 : UInt64)), .second, .unset, .unset, .unset, .unset, .unset, .unset] [(.long (T - A))])) τ
        refine own_l2d X19.here hx rfl (hb hby at_123) rfl ?_
        show Steps p.tables e below (T19.setTop (mkF m 124 #[.val (.int p1), .val (.int p2), .val (.int p3), .val (.int p4), .val (.int p5), .val (.int p6), .val (.int mm), .val (.long G), .second, .val (.int (p3 &&& (15 : Int32))), .val (.long T), .second, .val (.long A), .second, .val (.double sc), .second, .val (.int (p6 &&& (3 : Int32))), .val (.double (FP.dmul (FP.l2d A) sc)), .second, .val (.double (9218868437227405312 : UInt64)), .second, .unset, .unset, .unset, .unset, .unset, .unset] [(.double (FP.l2d (T - A)))])) τ
        refine own_dload X19.here hx rfl (hb hby at_124) rfl ?_
        show Steps p.tables e below (T19.setTop (mkF m 126 #[.val (.int p1), .val (.int p2), .val (.int p3), .val (.int p4), .val (.int p5), .val (.int p6), .val (.int mm), .val (.long G), .second, .val (.int (p3 &&& (15 : Int32))), .val (.long T), .second, .val (.long A), .second, .val (.double sc), .second, .val (.int (p6 &&& (3 : Int32))), .val (.double (FP.dmul (FP.l2d A) sc)), .second, .val (.double (9218868437227405312 : UInt64)), .second, .unset, .unset, .unset, .unset, .unset, .unset] [(.double sc), (.double (FP.l2d (T - A)))])) τ
        refine own_dmul X19.here hx rfl (hb hby at_126) rfl (own_d_no f2) ?_
        show Steps p.tables e below (T19.setTop (mkF m 127 #[.val (.int p1), .val (.int p2), .val (.int p3), .val (.int p4), .val (.int p5), .val (.int p6), .val (.int mm), .val (.long G), .second, .val (.int (p3 &&& (15 : Int32))), .val (.long T), .second, .val (.long A), .second, .val (.double sc), .second, .val (.int (p6 &&& (3 : Int32))), .val (.double (FP.dmul (FP.l2d A) sc)), .second, .val (.double (9218868437227405312 : UInt64)), .second, .unset, .unset, .unset, .unset, .unset, .unset] [(.double (FP.dmul (FP.l2d (T - A)) sc))])) τ
        refine own_dstore X19.here hx rfl (hb hby at_127) rfl (l' := #[.val (.int p1), .val (.int p2), .val (.int p3), .val (.int p4), .val (.int p5), .val (.int p6), .val (.int mm), .val (.long G), .second, .val (.int (p3 &&& (15 : Int32))), .val (.long T), .second, .val (.long A), .second, .val (.double sc), .second, .val (.int (p6 &&& (3 : Int32))), .val (.double (FP.dmul (FP.l2d A) sc)), .second, .val (.double (9218868437227405312 : UInt64)), .second, .val (.double (FP.dmul (FP.l2d (T - A)) sc)), .second, .unset, .unset, .unset, .unset]) rfl ?_
        show Steps p.tables e below (T19.setTop (mkF m 129 #[.val (.int p1), .val (.int p2), .val (.int p3), .val (.int p4), .val (.int p5), .val (.int p6), .val (.int mm), .val (.long G), .second, .val (.int (p3 &&& (15 : Int32))), .val (.long T), .second, .val (.long A), .second, .val (.double sc), .second, .val (.int (p6 &&& (3 : Int32))), .val (.double (FP.dmul (FP.l2d A) sc)), .second, .val (.double (9218868437227405312 : UInt64)), .second, .val (.double (FP.dmul (FP.l2d (T - A)) sc)), .second, .unset, .unset, .unset, .unset] [])) τ
        refine XT.lload X19.here hx rfl (hb hby at_129) rfl ?_
        show Steps p.tables e below (T19.setTop (mkF m 131 #[.val (.int p1), .val (.int p2), .val (.int p3), .val (.int p4), .val (.int p5), .val (.int p6), .val (.int mm), .val (.long G), .second, .val (.int (p3 &&& (15 : Int32))), .val (.long T), .second, .val (.long A), .second, .val (.double sc), .second, .val (.int (p6 &&& (3 : Int32))), .val (.double (FP.dmul (FP.l2d A) sc)), .second, .val (.double (9218868437227405312 : UInt64)), .second, .val (.double (FP.dmul (FP.l2d (T - A)) sc)), .second, .unset, .unset, .unset, .unset] [(.long G)])) τ
        refine own_l2d X19.here hx rfl (hb hby at_131) rfl ?_
        show Steps p.tables e below (T19.setTop (mkF m 132 #[.val (.int p1), .val (.int p2), .val (.int p3), .val (.int p4), .val (.int p5), .val (.int p6), .val (.int mm), .val (.long G), .second, .val (.int (p3 &&& (15 : Int32))), .val (.long T), .second, .val (.long A), .second, .val (.double sc), .second, .val (.int (p6 &&& (3 : Int32))), .val (.double (FP.dmul (FP.l2d A) sc)), .second, .val (.double (9218868437227405312 : UInt64)), .second, .val (.double (FP.dmul (FP.l2d (T - A)) sc)), .second, .unset, .unset, .unset, .unset] [(.double (FP.l2d G))])) τ
        refine own_dload X19.here hx rfl (hb hby at_132) rfl ?_
        show Steps p.tables e below (T19.setTop (mkF m 134 #[.val (.int p1), .val (.int p2), .val (.int p3), .val (.int p4), .val (.int p5), .val (.int p6), .val (.int mm), .val (.long G), .second, .val (.int (p3 &&& (15 : Int32))), .val (.long T), .second, .val (.long A), .second, .val (.double sc), .second, .val (.int (p6 &&& (3 : Int32))), .val (.double (FP.dmul (FP.l2d A) sc)), .second, .val (.double (9218868437227405312 : UInt64)), .second, .val (.double (FP.dmul (FP.l2d (T - A)) sc)), .second, .unset, .unset, .unset, .unset] [(.double (FP.dmul (FP.l2d A) sc)), (.double (FP.l2d G))])) τ
        refine own_dload X19.here hx rfl (hb hby at_134) rfl ?_
        show Steps p.tables e below (T19.setTop (mkF m 136 #[.val (.int p1), .val (.int p2), .val (.int p3), .val (.int p4), .val (.int p5), .val (.int p6), .val (.int mm), .val (.long G), .second, .val (.int (p3 &&& (15 : Int32))), .val (.long T), .second, .val (.long A), .second, .val (.double sc), .second, .val (.int (p6 &&& (3 : Int32))), .val (.double (FP.dmul (FP.l2d A) sc)), .second, .val (.double (9218868437227405312 : UInt64)), .second, .val (.double (FP.dmul (FP.l2d (T - A)) sc)), .second, .unset, .unset, .unset, .unset] [(.double (FP.dmul (FP.l2d (T - A)) sc)), (.double (FP.dmul (FP.l2d A) sc)), (.double (FP.l2d G))])) τ
        refine XS.iload X19.here hx rfl (hb hby at_136) rfl ?_
        exact kt)
      obtain ⟨_, _, ⟨T38, L38, k38, n38⟩, -, X38, ⟨Lc38, hQ38, l38, y38, z38⟩, st38⟩ := Jvm.LawKit.callS X19 hx (y := (⟨"com/example/meter/meter/allocation/FlowShare", "localLimit", "(DDDI)D"⟩ : MethodName)) hown (mvT hZ (hw _ (List.mem_of_getElem? (i := 7) rfl))) (mvT hZ (hw _ (List.mem_of_getElem? (i := 8) rfl))) (mvT hZ (hw _ (List.mem_of_getElem? (i := 9) rfl))) (mvT hZ (hw _ (List.mem_of_getElem? (i := 10) rfl))) (by decide) (backOf (W := 0) (rmL l Z a0 hw [] (FP.l2d G) (FP.dmul (FP.l2d A) sc) (FP.dmul (FP.l2d (T - A)) sc) mm h0 n0 Z0 (own_d_no f3) f4 (own_d_no f5) (own_d_no f6)) hZ (hw _ (List.mem_of_getElem? (i := 10) rfl)) (hw _ (List.mem_of_getElem? (i := 9) rfl)) (by decide) (by decide)) (g := (mkF m 138 #[.val (.int p1), .val (.int p2), .val (.int p3), .val (.int p4), .val (.int p5), .val (.int p6), .val (.int mm), .val (.long G), .second, .val (.int (p3 &&& (15 : Int32))), .val (.long T), .second, .val (.long A), .second, .val (.double sc), .second, .val (.int (p6 &&& (3 : Int32))), .val (.double (FP.dmul (FP.l2d A) sc)), .second, .val (.double (9218868437227405312 : UInt64)), .second, .val (.double (FP.dmul (FP.l2d (T - A)) sc)), .second, .unset, .unset, .unset, .unset] [(.int mm), (.double (FP.dmul (FP.l2d (T - A)) sc)), (.double (FP.dmul (FP.l2d A) sc)), (.double (FP.l2d G))])) rfl (by rw [hml]; rfl) (argsL := [(.double (FP.l2d G)), (.double (FP.dmul (FP.l2d A) sc)), (.double (FP.dmul (FP.l2d (T - A)) sc)), (.int mm)]) (rest := []) (lenOf own_pd__DDDI_D rfl) rfl (by show 2 * 0 + _ ≤ _; exact Nat.le_of_eq rfl) (hb hby at_138) (fun _ _ => ⟨rfl, eq19, (by decide : 0 + 0 ≤ _), (by decide : 0 + 0 ≤ _)⟩)
      dsimp only [Pt.U, Pt.locs, Pt.cells, Pt.slots] at X38 l38 y38 z38 st38 hQ38
      subst l38 y38 z38
      obtain ⟨rfl, Nq38, eq38⟩ := hQ38
      have N38 := Fr.app N19 Nq38
      have pre39 : ∀ τ, Steps p.tables e below (T38.setTop (mkF m 141 #[.val (.int p1), .val (.int p2), .val (.int p3), .val (.int p4), .val (.int p5), .val (.int p6), .val (.int mm), .val (.long G), .second, .val (.int (p3 &&& (15 : Int32))), .val (.long T), .second, .val (.long A), .second, .val (.double sc), .second, .val (.int (p6 &&& (3 : Int32))), .val (.double (FP.dmul (FP.l2d A) sc)), .second, .val (.double (9218868437227405312 : UInt64)), .second, .val (.double (FP.dmul (FP.l2d (T - A)) sc)), .second, .unset, .unset, .unset, .unset] [(.double (FP.dmul (FP.l2d G) (FP.ddiv (FP.dmul (FP.l2d A) sc) (FP.dadd (FP.dmul (FP.l2d A) sc) (FP.dmul (FP.l2d (T - A)) sc)))))])) τ → Steps p.tables e below (s₁.setTop (entryFrame m #[(.int p1), (.int p2), (.int p3), (.int p4), (.int p5), (.int p6)] maxLocals)) τ := fun τ kt => pre37 τ (st38 τ kt)
      have pre40 : ∀ τ, Steps p.tables e below (T38.setTop (mkF m 178 #[.val (.int p1), .val (.int p2), .val (.int p3), .val (.int p4), .val (.int p5), .val (.int p6), .val (.int mm), .val (.long G), .second, .val (.int (p3 &&& (15 : Int32))), .val (.long T), .second, .val (.long A), .second, .val (.double sc), .second, .val (.int (p6 &&& (3 : Int32))), .val (.double (FP.dmul (FP.l2d A) sc)), .second, .val (.double (9218868437227405312 : UInt64)), .second, .val (.double (FP.dmul (FP.l2d (T - A)) sc)), .second, .val (.double (FP.dmul (FP.l2d G) (FP.ddiv (FP.dmul (FP.l2d A) sc) (FP.dadd (FP.dmul (FP.l2d A) sc) (FP.dmul (FP.l2d (T - A)) sc))))), .second, .val (.double (FP.ddiv (FP.l2d (G * A)) (FP.l2d T))), .second] [(.int (1 : Int32))])) τ → Steps p.tables e below (s₁.setTop (entryFrame m #[(.int p1), (.int p2), (.int p3), (.int p4), (.int p5), (.int p6)] maxLocals)) τ := fun τ kt => pre39 τ (by
        show Steps p.tables e below (T38.setTop (mkF m 141 #[.val (.int p1), .val (.int p2), .val (.int p3), .val (.int p4), .val (.int p5), .val (.int p6), .val (.int mm), .val (.long G), .second, .val (.int (p3 &&& (15 : Int32))), .val (.long T), .second, .val (.long A), .second, .val (.double sc), .second, .val (.int (p6 &&& (3 : Int32))), .val (.double (FP.dmul (FP.l2d A) sc)), .second, .val (.double (9218868437227405312 : UInt64)), .second, .val (.double (FP.dmul (FP.l2d (T - A)) sc)), .second, .unset, .unset, .unset, .unset] [(.double (FP.dmul (FP.l2d G) (FP.ddiv (FP.dmul (FP.l2d A) sc) (FP.dadd (FP.dmul (FP.l2d A) sc) (FP.dmul (FP.l2d (T - A)) sc)))))])) τ
        refine own_dstore X38.here hx rfl (hb hby at_141) rfl (l' := #[.val (.int p1), .val (.int p2), .val (.int p3), .val (.int p4), .val (.int p5), .val (.int p6), .val (.int mm), .val (.long G), .second, .val (.int (p3 &&& (15 : Int32))), .val (.long T), .second, .val (.long A), .second, .val (.double sc), .second, .val (.int (p6 &&& (3 : Int32))), .val (.double (FP.dmul (FP.l2d A) sc)), .second, .val (.double (9218868437227405312 : UInt64)), .second, .val (.double (FP.dmul (FP.l2d (T - A)) sc)), .second, .val (.double (FP.dmul (FP.l2d G) (FP.ddiv (FP.dmul (FP.l2d A) sc) (FP.dadd (FP.dmul (FP.l2d A) sc) (FP.dmul (FP.l2d (T - A)) sc))))), .second, .unset, .unset]) rfl ?_
        show Steps p.tables e below (T38.setTop (mkF m 143 #[.val (.int p1), .val (.int p2), .val (.int p3), .val (.int p4), .val (.int p5), .val (.int p6), .val (.int mm), .val (.long G), .second, .val (.int (p3 &&& (15 : Int32))), .val (.long T), .second, .val (.long A), .second, .val (.double sc), .second, .val (.int (p6 &&& (3 : Int32))), .val (.double (FP.dmul (FP.l2d A) sc)), .second, .val (.double (9218868437227405312 : UInt64)), .second, .val (.double (FP.dmul (FP.l2d (T - A)) sc)), .second, .val (.double (FP.dmul (FP.l2d G) (FP.ddiv (FP.dmul (FP.l2d A) sc) (FP.dadd (FP.dmul (FP.l2d A) sc) (FP.dmul (FP.l2d (T - A)) sc))))), .second, .unset, .unset] [])) τ
        refine XS.iload X38.here hx rfl (hb hby at_143) rfl ?_
        show Steps p.tables e below (T38.setTop (mkF m 145 #[.val (.int p1), .val (.int p2), .val (.int p3), .val (.int p4), .val (.int p5), .val (.int p6), .val (.int mm), .val (.long G), .second, .val (.int (p3 &&& (15 : Int32))), .val (.long T), .second, .val (.long A), .second, .val (.double sc), .second, .val (.int (p6 &&& (3 : Int32))), .val (.double (FP.dmul (FP.l2d A) sc)), .second, .val (.double (9218868437227405312 : UInt64)), .second, .val (.double (FP.dmul (FP.l2d (T - A)) sc)), .second, .val (.double (FP.dmul (FP.l2d G) (FP.ddiv (FP.dmul (FP.l2d A) sc) (FP.dadd (FP.dmul (FP.l2d A) sc) (FP.dmul (FP.l2d (T - A)) sc))))), .second, .unset, .unset] [(.int (p6 &&& (3 : Int32)))])) τ
        refine XS.iconst X38.here hx rfl (hb hby at_145) ?_
        show Steps p.tables e below (T38.setTop (mkF m 146 #[.val (.int p1), .val (.int p2), .val (.int p3), .val (.int p4), .val (.int p5), .val (.int p6), .val (.int mm), .val (.long G), .second, .val (.int (p3 &&& (15 : Int32))), .val (.long T), .second, .val (.long A), .second, .val (.double sc), .second, .val (.int (p6 &&& (3 : Int32))), .val (.double (FP.dmul (FP.l2d A) sc)), .second, .val (.double (9218868437227405312 : UInt64)), .second, .val (.double (FP.dmul (FP.l2d (T - A)) sc)), .second, .val (.double (FP.dmul (FP.l2d G) (FP.ddiv (FP.dmul (FP.l2d A) sc) (FP.dadd (FP.dmul (FP.l2d A) sc) (FP.dmul (FP.l2d (T - A)) sc))))), .second, .unset, .unset] [(.int (2 : Int32)), (.int (p6 &&& (3 : Int32)))])) τ
        refine XS.icmpYes X38.here hx rfl (pc0 := 146) (pc' := 153) rfl (hb hby at_146) rfl (feq q2).2 (by decide) (by decide) ?_
        show Steps p.tables e below (T38.setTop (mkF m 153 #[.val (.int p1), .val (.int p2), .val (.int p3), .val (.int p4), .val (.int p5), .val (.int p6), .val (.int mm), .val (.long G), .second, .val (.int (p3 &&& (15 : Int32))), .val (.long T), .second, .val (.long A), .second, .val (.double sc), .second, .val (.int (p6 &&& (3 : Int32))), .val (.double (FP.dmul (FP.l2d A) sc)), .second, .val (.double (9218868437227405312 : UInt64)), .second, .val (.double (FP.dmul (FP.l2d (T - A)) sc)), .second, .val (.double (FP.dmul (FP.l2d G) (FP.ddiv (FP.dmul (FP.l2d A) sc) (FP.dadd (FP.dmul (FP.l2d A) sc) (FP.dmul (FP.l2d (T - A)) sc))))), .second, .unset, .unset] [])) τ
        refine XT.lload X38.here hx rfl (hb hby at_153) rfl ?_
        show Steps p.tables e below (T38.setTop (mkF m 155 #[.val (.int p1), .val (.int p2), .val (.int p3), .val (.int p4), .val (.int p5), .val (.int p6), .val (.int mm), .val (.long G), .second, .val (.int (p3 &&& (15 : Int32))), .val (.long T), .second, .val (.long A), .second, .val (.double sc), .second, .val (.int (p6 &&& (3 : Int32))), .val (.double (FP.dmul (FP.l2d A) sc)), .second, .val (.double (9218868437227405312 : UInt64)), .second, .val (.double (FP.dmul (FP.l2d (T - A)) sc)), .second, .val (.double (FP.dmul (FP.l2d G) (FP.ddiv (FP.dmul (FP.l2d A) sc) (FP.dadd (FP.dmul (FP.l2d A) sc) (FP.dmul (FP.l2d (T - A)) sc))))), .second, .unset, .unset] [(.long G)])) τ
        refine XT.lload X38.here hx rfl (hb hby at_155) rfl ?_
        show Steps p.tables e below (T38.setTop (mkF m 157 #[.val (.int p1), .val (.int p2), .val (.int p3), .val (.int p4), .val (.int p5), .val (.int p6), .val (.int mm), .val (.long G), .second, .val (.int (p3 &&& (15 : Int32))), .val (.long T), .second, .val (.long A), .second, .val (.double sc), .second, .val (.int (p6 &&& (3 : Int32))), .val (.double (FP.dmul (FP.l2d A) sc)), .second, .val (.double (9218868437227405312 : UInt64)), .second, .val (.double (FP.dmul (FP.l2d (T - A)) sc)), .second, .val (.double (FP.dmul (FP.l2d G) (FP.ddiv (FP.dmul (FP.l2d A) sc) (FP.dadd (FP.dmul (FP.l2d A) sc) (FP.dmul (FP.l2d (T - A)) sc))))), .second, .unset, .unset] [(.long A), (.long G)])) τ
        refine XT.lmul X38.here hx rfl (hb hby at_157) rfl ?_
        show Steps p.tables e below (T38.setTop (mkF m 158 #[.val (.int p1), .val (.int p2), .val (.int p3), .val (.int p4), .val (.int p5), .val (.int p6), .val (.int mm), .val (.long G), .second, .val (.int (p3 &&& (15 : Int32))), .val (.long T), .second, .val (.long A), .second, .val (.double sc), .second, .val (.int (p6 &&& (3 : Int32))), .val (.double (FP.dmul (FP.l2d A) sc)), .second, .val (.double (9218868437227405312 : UInt64)), .second, .val (.double (FP.dmul (FP.l2d (T - A)) sc)), .second, .val (.double (FP.dmul (FP.l2d G) (FP.ddiv (FP.dmul (FP.l2d A) sc) (FP.dadd (FP.dmul (FP.l2d A) sc) (FP.dmul (FP.l2d (T - A)) sc))))), .second, .unset, .unset] [(.long (G * A))])) τ
        refine own_l2d X38.here hx rfl (hb hby at_158) rfl ?_
        show Steps p.tables e below (T38.setTop (mkF m 159 #[.val (.int p1), .val (.int p2), .val (.int p3), .val (.int p4), .val (.int p5), .val (.int p6), .val (.int mm), .val (.long G), .second, .val (.int (p3 &&& (15 : Int32))), .val (.long T), .second, .val (.long A), .second, .val (.double sc), .second, .val (.int (p6 &&& (3 : Int32))), .val (.double (FP.dmul (FP.l2d A) sc)), .second, .val (.double (9218868437227405312 : UInt64)), .second, .val (.double (FP.dmul (FP.l2d (T - A)) sc)), .second, .val (.double (FP.dmul (FP.l2d G) (FP.ddiv (FP.dmul (FP.l2d A) sc) (FP.dadd (FP.dmul (FP.l2d A) sc) (FP.dmul (FP.l2d (T - A)) sc))))), .second, .unset, .unset] [(.double (FP.l2d (G * A)))])) τ
        refine XT.lload X38.here hx rfl (hb hby at_159) rfl ?_
        show Steps p.tables e below (T38.setTop (mkF m 161 #[.val (.int p1), .val (.int p2), .val (.int p3), .val (.int p4), .val (.int p5), .val (.int p6), .val (.int mm), .val (.long G), .second, .val (.int (p3 &&& (15 : Int32))), .val (.long T), .second, .val (.long A), .second, .val (.double sc), .second, .val (.int (p6 &&& (3 : Int32))), .val (.double (FP.dmul (FP.l2d A) sc)), .second, .val (.double (9218868437227405312 : UInt64)), .second, .val (.double (FP.dmul (FP.l2d (T - A)) sc)), .second, .val (.double (FP.dmul (FP.l2d G) (FP.ddiv (FP.dmul (FP.l2d A) sc) (FP.dadd (FP.dmul (FP.l2d A) sc) (FP.dmul (FP.l2d (T - A)) sc))))), .second, .unset, .unset] [(.long T), (.double (FP.l2d (G * A)))])) τ
        refine own_l2d X38.here hx rfl (hb hby at_161) rfl ?_
        show Steps p.tables e below (T38.setTop (mkF m 162 #[.val (.int p1), .val (.int p2), .val (.int p3), .val (.int p4), .val (.int p5), .val (.int p6), .val (.int mm), .val (.long G), .second, .val (.int (p3 &&& (15 : Int32))), .val (.long T), .second, .val (.long A), .second, .val (.double sc), .second, .val (.int (p6 &&& (3 : Int32))), .val (.double (FP.dmul (FP.l2d A) sc)), .second, .val (.double (9218868437227405312 : UInt64)), .second, .val (.double (FP.dmul (FP.l2d (T - A)) sc)), .second, .val (.double (FP.dmul (FP.l2d G) (FP.ddiv (FP.dmul (FP.l2d A) sc) (FP.dadd (FP.dmul (FP.l2d A) sc) (FP.dmul (FP.l2d (T - A)) sc))))), .second, .unset, .unset] [(.double (FP.l2d T)), (.double (FP.l2d (G * A)))])) τ
        refine own_ddiv X38.here hx rfl (hb hby at_162) rfl (own_d_no dE) ?_
        show Steps p.tables e below (T38.setTop (mkF m 163 #[.val (.int p1), .val (.int p2), .val (.int p3), .val (.int p4), .val (.int p5), .val (.int p6), .val (.int mm), .val (.long G), .second, .val (.int (p3 &&& (15 : Int32))), .val (.long T), .second, .val (.long A), .second, .val (.double sc), .second, .val (.int (p6 &&& (3 : Int32))), .val (.double (FP.dmul (FP.l2d A) sc)), .second, .val (.double (9218868437227405312 : UInt64)), .second, .val (.double (FP.dmul (FP.l2d (T - A)) sc)), .second, .val (.double (FP.dmul (FP.l2d G) (FP.ddiv (FP.dmul (FP.l2d A) sc) (FP.dadd (FP.dmul (FP.l2d A) sc) (FP.dmul (FP.l2d (T - A)) sc))))), .second, .unset, .unset] [(.double (FP.ddiv (FP.l2d (G * A)) (FP.l2d T)))])) τ
        refine own_dstore X38.here hx rfl (hb hby at_163) rfl (l' := #[.val (.int p1), .val (.int p2), .val (.int p3), .val (.int p4), .val (.int p5), .val (.int p6), .val (.int mm), .val (.long G), .second, .val (.int (p3 &&& (15 : Int32))), .val (.long T), .second, .val (.long A), .second, .val (.double sc), .second, .val (.int (p6 &&& (3 : Int32))), .val (.double (FP.dmul (FP.l2d A) sc)), .second, .val (.double (9218868437227405312 : UInt64)), .second, .val (.double (FP.dmul (FP.l2d (T - A)) sc)), .second, .val (.double (FP.dmul (FP.l2d G) (FP.ddiv (FP.dmul (FP.l2d A) sc) (FP.dadd (FP.dmul (FP.l2d A) sc) (FP.dmul (FP.l2d (T - A)) sc))))), .second, .val (.double (FP.ddiv (FP.l2d (G * A)) (FP.l2d T))), .second]) rfl ?_
        show Steps p.tables e below (T38.setTop (mkF m 165 #[.val (.int p1), .val (.int p2), .val (.int p3), .val (.int p4), .val (.int p5), .val (.int p6), .val (.int mm), .val (.long G), .second, .val (.int (p3 &&& (15 : Int32))), .val (.long T), .second, .val (.long A), .second, .val (.double sc), .second, .val (.int (p6 &&& (3 : Int32))), .val (.double (FP.dmul (FP.l2d A) sc)), .second, .val (.double (9218868437227405312 : UInt64)), .second, .val (.double (FP.dmul (FP.l2d (T - A)) sc)), .second, .val (.double (FP.dmul (FP.l2d G) (FP.ddiv (FP.dmul (FP.l2d A) sc) (FP.dadd (FP.dmul (FP.l2d A) sc) (FP.dmul (FP.l2d (T - A)) sc))))), .second, .val (.double (FP.ddiv (FP.l2d (G * A)) (FP.l2d T))), .second] [])) τ
        refine own_dload X38.here hx rfl (hb hby at_165) rfl ?_
        show Steps p.tables e below (T38.setTop (mkF m 167 #[.val (.int p1), .val (.int p2), .val (.int p3), .val (.int p4), .val (.int p5), .val (.int p6), .val (.int mm), .val (.long G), .second, .val (.int (p3 &&& (15 : Int32))), .val (.long T), .second, .val (.long A), .second, .val (.double sc), .second, .val (.int (p6 &&& (3 : Int32))), .val (.double (FP.dmul (FP.l2d A) sc)), .second, .val (.double (9218868437227405312 : UInt64)), .second, .val (.double (FP.dmul (FP.l2d (T - A)) sc)), .second, .val (.double (FP.dmul (FP.l2d G) (FP.ddiv (FP.dmul (FP.l2d A) sc) (FP.dadd (FP.dmul (FP.l2d A) sc) (FP.dmul (FP.l2d (T - A)) sc))))), .second, .val (.double (FP.ddiv (FP.l2d (G * A)) (FP.l2d T))), .second] [(.double (FP.dmul (FP.l2d G) (FP.ddiv (FP.dmul (FP.l2d A) sc) (FP.dadd (FP.dmul (FP.l2d A) sc) (FP.dmul (FP.l2d (T - A)) sc)))))])) τ
        refine own_dload X38.here hx rfl (hb hby at_167) rfl ?_
        show Steps p.tables e below (T38.setTop (mkF m 169 #[.val (.int p1), .val (.int p2), .val (.int p3), .val (.int p4), .val (.int p5), .val (.int p6), .val (.int mm), .val (.long G), .second, .val (.int (p3 &&& (15 : Int32))), .val (.long T), .second, .val (.long A), .second, .val (.double sc), .second, .val (.int (p6 &&& (3 : Int32))), .val (.double (FP.dmul (FP.l2d A) sc)), .second, .val (.double (9218868437227405312 : UInt64)), .second, .val (.double (FP.dmul (FP.l2d (T - A)) sc)), .second, .val (.double (FP.dmul (FP.l2d G) (FP.ddiv (FP.dmul (FP.l2d A) sc) (FP.dadd (FP.dmul (FP.l2d A) sc) (FP.dmul (FP.l2d (T - A)) sc))))), .second, .val (.double (FP.ddiv (FP.l2d (G * A)) (FP.l2d T))), .second] [(.double (FP.ddiv (FP.l2d (G * A)) (FP.l2d T))), (.double (FP.dmul (FP.l2d G) (FP.ddiv (FP.dmul (FP.l2d A) sc) (FP.dadd (FP.dmul (FP.l2d A) sc) (FP.dmul (FP.l2d (T - A)) sc)))))])) τ
        refine own_dcmp X38.here hx rfl (hb hby at_169) rfl ?_
        show Steps p.tables e below (T38.setTop (mkF m 170 #[.val (.int p1), .val (.int p2), .val (.int p3), .val (.int p4), .val (.int p5), .val (.int p6), .val (.int mm), .val (.long G), .second, .val (.int (p3 &&& (15 : Int32))), .val (.long T), .second, .val (.long A), .second, .val (.double sc), .second, .val (.int (p6 &&& (3 : Int32))), .val (.double (FP.dmul (FP.l2d A) sc)), .second, .val (.double (9218868437227405312 : UInt64)), .second, .val (.double (FP.dmul (FP.l2d (T - A)) sc)), .second, .val (.double (FP.dmul (FP.l2d G) (FP.ddiv (FP.dmul (FP.l2d A) sc) (FP.dadd (FP.dmul (FP.l2d A) sc) (FP.dmul (FP.l2d (T - A)) sc))))), .second, .val (.double (FP.ddiv (FP.l2d (G * A)) (FP.l2d T))), .second] [(.int (cmpValue (FP.dcmp (FP.dmul (FP.l2d G) (FP.ddiv (FP.dmul (FP.l2d A) sc) (FP.dadd (FP.dmul (FP.l2d A) sc) (FP.dmul (FP.l2d (T - A)) sc)))) (FP.ddiv (FP.l2d (G * A)) (FP.l2d T))) .l))])) τ
        refine XS.ifNo X38.here hx rfl (hb hby at_170) rfl ((if0 _ _).trans (teq (own_cmp0.mpr (by rw [own_d_cmp f6 dE, own_cmp_eq]))).2) ?_
        show Steps p.tables e below (T38.setTop (mkF m 173 #[.val (.int p1), .val (.int p2), .val (.int p3), .val (.int p4), .val (.int p5), .val (.int p6), .val (.int mm), .val (.long G), .second, .val (.int (p3 &&& (15 : Int32))), .val (.long T), .second, .val (.long A), .second, .val (.double sc), .second, .val (.int (p6 &&& (3 : Int32))), .val (.double (FP.dmul (FP.l2d A) sc)), .second, .val (.double (9218868437227405312 : UInt64)), .second, .val (.double (FP.dmul (FP.l2d (T - A)) sc)), .second, .val (.double (FP.dmul (FP.l2d G) (FP.ddiv (FP.dmul (FP.l2d A) sc) (FP.dadd (FP.dmul (FP.l2d A) sc) (FP.dmul (FP.l2d (T - A)) sc))))), .second, .val (.double (FP.ddiv (FP.l2d (G * A)) (FP.l2d T))), .second] [])) τ
        refine XS.iconst X38.here hx rfl (hb hby at_173) ?_
        show Steps p.tables e below (T38.setTop (mkF m 174 #[.val (.int p1), .val (.int p2), .val (.int p3), .val (.int p4), .val (.int p5), .val (.int p6), .val (.int mm), .val (.long G), .second, .val (.int (p3 &&& (15 : Int32))), .val (.long T), .second, .val (.long A), .second, .val (.double sc), .second, .val (.int (p6 &&& (3 : Int32))), .val (.double (FP.dmul (FP.l2d A) sc)), .second, .val (.double (9218868437227405312 : UInt64)), .second, .val (.double (FP.dmul (FP.l2d (T - A)) sc)), .second, .val (.double (FP.dmul (FP.l2d G) (FP.ddiv (FP.dmul (FP.l2d A) sc) (FP.dadd (FP.dmul (FP.l2d A) sc) (FP.dmul (FP.l2d (T - A)) sc))))), .second, .val (.double (FP.ddiv (FP.l2d (G * A)) (FP.l2d T))), .second] [(.int (1 : Int32))])) τ
        refine XS.goto X38.here hx rfl (pc0 := 174) (pc' := 178) rfl (hb hby at_174) (by decide) (by decide) ?_
        exact kt)
      obtain ⟨fs, hrL, hrun, hended, hW, hsame⟩ := X38.leave (v := some (.int (1 : Int32))) (fun h => by rw [Bd.returns] at h; cases h)
      refine ⟨_, _, pre40 _ ?_, hrun, hended, _, _, rfl, ?_, ⟨_, rfl⟩, hW, hsame.mono (by decide) (by decide)⟩
      · show Steps p.tables e below (T38.setTop (mkF m 178 #[.val (.int p1), .val (.int p2), .val (.int p3), .val (.int p4), .val (.int p5), .val (.int p6), .val (.int mm), .val (.long G), .second, .val (.int (p3 &&& (15 : Int32))), .val (.long T), .second, .val (.long A), .second, .val (.double sc), .second, .val (.int (p6 &&& (3 : Int32))), .val (.double (FP.dmul (FP.l2d A) sc)), .second, .val (.double (9218868437227405312 : UInt64)), .second, .val (.double (FP.dmul (FP.l2d (T - A)) sc)), .second, .val (.double (FP.dmul (FP.l2d G) (FP.ddiv (FP.dmul (FP.l2d A) sc) (FP.dadd (FP.dmul (FP.l2d A) sc) (FP.dmul (FP.l2d (T - A)) sc))))), .second, .val (.double (FP.ddiv (FP.l2d (G * A)) (FP.l2d T))), .second] [(.int (1 : Int32))])) _
        exact retN X38 hx (t := .boolean) Bd.returns (by simp) (hb hby at_178) hrL
      · show Q0 n0 _ T38.heap _
        exact ⟨rfl, N38⟩
set_option maxRecDepth 65536 in
set_option maxHeartbeats 40000000 in
theorem comes_1 {Post : Tables → Env → Array Value → State → Outcome → State → Prop} (hpost : ∀ tb e args s v u, (limb_1_1.after args s (.returned v) u = true ∧ limb_1_2.after args s (.returned v) u = true ∧ True) → FrameEnd s (.returned v) u (Jvm.fieldLocs frame_1_writes args s ++ Jvm.arrayLocs frame_1_arrays args s ++ Jvm.staticLocs frame_1_statics s) 0 0 → Post tb e args s (.returned v) u) :
    ArmFor flags0 classFile x code maxLocals ret World_1 tables_1 room_1 Calls_1 rest_1 Pre_1 Post := by
  intro l hfl _ _ p e ha hc hk s m args below hf hA hF happ hP
  obtain ⟨hcalls, hrest, hpre⟩ := hP
  obtain ⟨-, -, -, hnamed, -, -, -, hat⟩ := (Spec.applies_iff hf).mp happ
  obtain ⟨hg, hn⟩ := and_e (Cond.before_iff.mp (show (Jvm.Cond.and given_1 narrow_1).before args s = true from hpre))
  obtain ⟨g1, g2⟩ := and_e hg
  obtain ⟨g3, g4⟩ := and_e g2
  obtain ⟨g5, g6⟩ := and_e g4
  obtain ⟨g7, g8⟩ := and_e g6
  obtain ⟨g9, g10⟩ := and_e g8
  obtain ⟨g11, g12⟩ := and_e g10
  obtain ⟨w0, w1, w2, w3, w4, w5, rfl⟩ : ∃ w0 w1 w2 w3 w4 w5 : Value, args = #[w0, w1, w2, w3, w4, w5] := by
    have hs : args.size = 6 := by simpa [Cond.value, given_1] using g1
    obtain ⟨L⟩ := args
    match L, hs with
    | [w0, w1, w2, w3, w4, w5], _ => exact ⟨w0, w1, w2, w3, w4, w5, rfl⟩
  have hw := fun d (hd : d ∈ tables_1) => atoms_spec (ws := Jvm.Cond.code x code maxLocals ret :: tables_1) hat d (List.mem_cons_of_mem _ hd)
  obtain ⟨i0, ei0⟩ := is_v g3
  obtain rfl : w0 = (.int i0) := Option.some.inj ei0
  obtain ⟨i1, ei1⟩ := is_v g5
  obtain rfl : w1 = (.int i1) := Option.some.inj ei1
  obtain ⟨i2, ei2⟩ := is_v g7
  obtain rfl : w2 = (.int i2) := Option.some.inj ei2
  obtain ⟨i3, ei3⟩ := is_v g9
  obtain rfl : w3 = (.int i3) := Option.some.inj ei3
  obtain ⟨i4, ei4⟩ := is_v g11
  obtain rfl : w4 = (.int i4) := Option.some.inj ei4
  obtain ⟨i5, ei5⟩ := is_v g12
  obtain rfl : w5 = (.int i5) := Option.some.inj ei5
  obtain ⟨n, o, h1, h2, h3, _, L, rfl, ⟨rfl, N⟩, hq⟩ := rm0 l s _ hw tables_1 i0 i1 i2 i3 i4 i5 s.heap s.heap.size (Nat.le_refl _) p e ha hc hk s m _ below hf ((Spec.applies_iff_loose hf).mp happ).1 ⟨rfl, State.Warmed39.refl s, rfl⟩ trivial
  refine ⟨n, _, h1, h2, h3, hpost _ _ _ _ _ _ ⟨Cond.after_iff.mpr rfl, Cond.after_iff.mpr (eq_i res_at (Term.int_eval (1)) rfl), trivial⟩ ⟨hq.1, hq.2.1, (hq.2.2.sift fun y hy => Or.inr (N y hy)).mono (by decide) (by decide)⟩⟩
theorem main_1_1 : Claimed_1_1 := comes_1 fun _ _ _ _ _ _ h hF => ⟨h.1, hF⟩
theorem main_1_2 : Claimed_1_2 := comes_1 fun _ _ _ _ _ _ h hF => ⟨h.2.1, hF⟩
end Jvm.Pilot.@@N@@
namespace Jvm.Pilot.@@N@@
open Jvm Jvm.ClassFile Sem Op Lib Jvm.Free Jvm.Stand Jvm.Pilot.@@N@@.Jvm.D
/-! MADE BY PROGRAM (witnessworld.py) out of the Statement's table words and the real class files: 9 classes; the members and pool entries that the words name. The judged class is class 1, her method 2. -/
namespace start1
open Jvm.ClassFile
def u (s : String) : CpInfo := .utf8 (stringToUtf16 s)
/-- a pool by its gaps: so many unusable entries, then the entry; so many at the end -/
def gap : Nat → List CpInfo → List CpInfo
  | 0, r => r
  | n + 1, r => .unusable :: gap n r
def poolList (es : List (Nat × CpInfo)) (last : Nat) : List CpInfo := es.foldr (fun e r => gap e.1 (e.2 :: r)) (gap last [])
def pool (es : List (Nat × CpInfo)) (last : Nat) : Array CpInfo := ⟨poolList es last⟩
def fileOf (pool : Array CpInfo) (this : Nat) (attrs : Array Attribute := #[]) (ms : Array MethodInfo := #[]) (fl : Nat := 33) (sup : Nat := 0) (ifs : Array Nat := #[]) (fds : Array FieldInfo := #[]) : ClassFile where
  minorVersion := 0
  majorVersion := 65
  constantPool := pool
  accessFlags := fl
  thisClass := this
  superClass := sup
  interfaces := ifs
  fields := fds
  methods := ms
  attributes := attrs
def plain (name : String) (sup : Option ClassId) : Class where
  name := name
  kind := .ordinary
  loader := none
  accessFlags := 33
  super := sup
  interfaces := #[]
  cf := none
  fields := #[]
  methods := #[]
  instanceTypes := #[]
  staticTypes := #[]
  resolved := #[]
  callSites := []
  init := .initialized
  statics := none
  mirror := none

def pool0 : Array CpInfo := pool [(5, u "<init>"), (0, u "()V"), (1, .class_ 10), (1, u "java/lang/Object")] 113

def k0m0 : Method := { name := "<init>", desc := "()V", sig := { parameters := [], returnType := none }, accessFlags := 1, code := none }
/-- java/lang/Object -/
def k0 : Class := { plain "java/lang/Object" none with
  accessFlags := 33
  interfaces := #[]
  cf := some (fileOf pool0 8 #[] #[{ accessFlags := 1, nameIndex := 5, descriptorIndex := 6, attributes := #[] }] 33 0 #[] #[])
  fields := #[]
  methods := #[k0m0]
  instanceTypes := #[]
  staticTypes := #[]
  resolved := Array.replicate 124 none
  statics := none }

def pool1 : Array CpInfo := pool [(2, .class_ 4), (1, u "java/lang/Object"), (0, u "<init>"), (0, u "()V"), (0, .double 1), (1, .double 553942754166571008), (1, .double 4602678819172646912), (1, .double 4742290407621132288), (1, .double 6858982232485265408), (1, .double 8660422083433463808), (1, .double 9110782046170513408), (1, .integer 1048575), (0, .long 2147483647), (1, .methodref 25 26), (0, .class_ 27), (0, .nameAndType 28 29), (0, u "com/example/meter/meter/allocation/FlowShareLocalLimitPinLaw"), (0, u "scaleOf"), (0, u "(I)D"), (0, .methodref 31 32), (0, .class_ 33), (0, .nameAndType 34 35), (0, u "com/example/meter/meter/allocation/FlowShare"), (0, u "localLimit"), (0, u "(DDDI)D"), (0, .double 9218868437227405312), (4, u "law"), (0, u "(IIIIII)Z")] 2

def k1m0 : Method := { name := "<init>", desc := "()V", sig := { parameters := [], returnType := none }, accessFlags := 2, code := none }
def k1c1 : Code := { maxStack := 2, maxLocals := 1, code := method_2_code, exceptionTable := #[], attributes := #[] }
def k1m1 : Method := { name := "scaleOf", desc := "(I)D", sig := { parameters := [.int], returnType := some .double }, accessFlags := 10, code := some k1c1 }
def k1c2 : Code := { maxStack := 7, maxLocals := 27, code := code, exceptionTable := #[], attributes := #[] }
def k1m2 : Method := { name := "law", desc := "(IIIIII)Z", sig := { parameters := [.int, .int, .int, .int, .int, .int], returnType := some .boolean }, accessFlags := 9, code := some k1c2 }
/-- com/example/meter/meter/allocation/FlowShareLocalLimitPinLaw -/
def k1 : Class := { plain "com/example/meter/meter/allocation/FlowShareLocalLimitPinLaw" (some 0) with
  accessFlags := 49
  interfaces := #[]
  cf := some (fileOf pool1 25 #[] #[{ accessFlags := 2, nameIndex := 5, descriptorIndex := 6, attributes := #[] }, { accessFlags := 10, nameIndex := 28, descriptorIndex := 29, attributes := #[] }, { accessFlags := 9, nameIndex := 41, descriptorIndex := 42, attributes := #[] }] 49 2 #[] #[])
  fields := #[]
  methods := #[k1m0, k1m1, k1m2]
  instanceTypes := #[]
  staticTypes := #[]
  resolved := Array.replicate 45 none
  statics := none }

def pool2 : Array CpInfo := pool [(2, .class_ 4), (1, u "java/lang/Object"), (0, u "<init>"), (0, u "()V"), (6, .class_ 14), (0, u "com/example/meter/meter/allocation/FlowShare"), (22, u "HELD"), (0, u "D"), (1, u "MOST"), (0, u "NONE"), (7, u "localLimit"), (0, u "(DDDI)D")] 2

def k2m0 : Method := { name := "<init>", desc := "()V", sig := { parameters := [], returnType := none }, accessFlags := 2, code := none }
def k2c1 : Code := { maxStack := 6, maxLocals := 9, code := prog_1_method_3_code, exceptionTable := #[], attributes := #[] }
def k2m1 : Method := { name := "localLimit", desc := "(DDDI)D", sig := { parameters := [.double, .double, .double, .int], returnType := some .double }, accessFlags := 9, code := some k2c1 }
/-- com/example/meter/meter/allocation/FlowShare -/
def k2 : Class := { plain "com/example/meter/meter/allocation/FlowShare" (some 0) with
  accessFlags := 33
  interfaces := #[]
  cf := some (fileOf pool2 13 #[] #[{ accessFlags := 2, nameIndex := 5, descriptorIndex := 6, attributes := #[] }, { accessFlags := 9, nameIndex := 49, descriptorIndex := 50, attributes := #[] }] 33 2 #[] #[{ accessFlags := 26, nameIndex := 37, descriptorIndex := 38, attributes := #[] }, { accessFlags := 26, nameIndex := 40, descriptorIndex := 38, attributes := #[] }, { accessFlags := 26, nameIndex := 41, descriptorIndex := 38, attributes := #[] }])
  fields := #[{ name := "HELD", type := .double, accessFlags := 26, slot := 0, constantValue := 0 }, { name := "MOST", type := .double, accessFlags := 26, slot := 1, constantValue := 0 }, { name := "NONE", type := .double, accessFlags := 26, slot := 2, constantValue := 0 }]
  methods := #[k2m0, k2m1]
  instanceTypes := #[]
  staticTypes := #[.double, .double, .double]
  resolved := Array.replicate 53 none
  statics := none }

def pool3 : Array CpInfo := pool [(1, u "java/lang/Cloneable"), (0, .class_ 1), (0, u "java/lang/Object"), (0, .class_ 3)] 3

/-- java/lang/Cloneable -/
def k3 : Class := { plain "java/lang/Cloneable" (some 0) with
  accessFlags := 1537
  interfaces := #[]
  cf := some (fileOf pool3 2 #[] #[] 1537 4 #[] #[])
  fields := #[]
  methods := #[]
  instanceTypes := #[]
  staticTypes := #[]
  resolved := Array.replicate 8 none
  statics := none }

def pool4 : Array CpInfo := pool [(1, u "java/io/Serializable"), (0, .class_ 1), (0, u "java/lang/Object"), (0, .class_ 3)] 3

/-- java/io/Serializable -/
def k4 : Class := { plain "java/io/Serializable" (some 0) with
  accessFlags := 1537
  interfaces := #[]
  cf := some (fileOf pool4 2 #[] #[] 1537 4 #[] #[])
  fields := #[]
  methods := #[]
  instanceTypes := #[]
  staticTypes := #[]
  resolved := Array.replicate 8 none
  statics := none }

/-- the primitive byte -/
def k5 : Class := { plain "byte" none with kind := .primitive 'B', accessFlags := 0x411 }
/-- [B -/
def k6 : Class := { plain "[B" (some 0) with kind := .array 5 .byte, interfaces := #[3, 4], accessFlags := 1041 }

/-- the primitive int -/
def k7 : Class := { plain "int" none with kind := .primitive 'I', accessFlags := 0x411 }
/-- [I -/
def k8 : Class := { plain "[I" (some 0) with kind := .array 7 .int, interfaces := #[3, 4], accessFlags := 1041 }

def heap : Heap := #[]
def classes : Array Class := #[k0, k1, k2, k3, k4, k5, k6, k7, k8]
def interned : List (Array UInt16 × Addr) := []
def slotsUsed : Nat := 0
def theMethod : MethodId := ⟨1, 2⟩
def args0 : Array Value := #[.int 5, .int 7, .int 1, .int 2, .int 3, .int 4]
def aboutOver (below : List Frame) : State where
  vm := { classes := classes, interned := interned.toArray }
  heap := heap
  slotsUsed := slotsUsed
  threads := #[{ frames := .invoking theMethod args0 :: below }]
def below0 : List Frame := [.native { method := ⟨0, 0⟩, args := #[] }]
def about1 : State := aboutOver below0
def p0 : Program := .bare "" "" ""
def e0 : Env := launch0.env 0 0 0
theorem w_frames : about1.frames = Frame.invoking theMethod args0 :: below0 := rfl
set_option maxRecDepth 65536 in
theorem w_args : argsFit about1.vm theMethod args0 = true := by decide +kernel
set_option maxRecDepth 65536 in
theorem w_heap : heapFits about1 = true := by decide +kernel
set_option maxRecDepth 65536 in
theorem w_runnable : about1.curStatus? = some .runnable := by decide +kernel
set_option maxRecDepth 65536 in
theorem w_alone : about1.alone = true := by decide +kernel
set_option maxRecDepth 65536 in
theorem w_named : about1.methodNamed? x = some theMethod := by decide +kernel
set_option maxRecDepth 65536 in
theorem w_hears : about1.hears theMethod below0 = true := by decide +kernel
set_option maxRecDepth 65536 in
theorem w_ripe : about1.ripe theMethod args0 below0 = true := by decide +kernel
theorem w_running : about1.status = .running := rfl
set_option maxRecDepth 65536 in
theorem w_room : about1.hasRoom e0.platform room_1 = true :=
  launch0.hasRoom_least _ room_1 (by decide +kernel) (by decide +kernel) (by decide +kernel) (by decide +kernel) (by decide +kernel) (by decide +kernel)
theorem allAtoms_all (ts : List Jvm.Cond) (a : Array Jvm.Value) (st : Jvm.State) : (allAtoms ts).before a st = ts.all (fun c => c.before a st) := by
  induction ts with
  | nil => rfl
  | cons c t ih =>
    show (Jvm.Cond.and c (allAtoms t)).before a st = _
    rw [Jvm.Cond.before_and, ih, List.all_cons]
def words1 : List Jvm.Cond := Jvm.Cond.code x code maxLocals ret :: tables_1
/-- a 'code' word, met by the world's own term for the bytes: nothing is compared byte by byte -/
theorem code_word {y : MethodName} {bytes : ByteArray} {mx : Nat} {rt : Option FieldType} {a : Array Value} {s : State} {m : MethodId} {meth : Method} {c : Code} (h1 : s.methodNamed? y = some m) (h2 : s.vm.method? m = some meth) (h3 : meth.code = some c) (h4 : c.code = bytes)
    (h5 : (c.maxLocals == mx && c.exceptionTable.isEmpty && decide (c.maxStack ≤ mostOperands) && decide (meth.sig.returnType = rt) && !meth.locks && decide (parseMethodDescriptor y.desc = some meth.sig)) = true) : (Jvm.Cond.code y bytes mx rt).before a s = true := by
  simp only [Bool.and_eq_true, beq_iff_eq, Bool.not_eq_true', decide_eq_true_eq] at h5
  obtain ⟨⟨⟨⟨⟨g1, g2⟩, g3⟩, g4⟩, g5⟩, g6⟩ := h5
  simp [Cond.before, Cond.holds, Cond.value, h1, h2, h3, h4, g1, g2, g3, g4, g5, g6]
def isCode : Jvm.Cond → Bool
  | .code _ _ _ _ => true
  | _ => false
theorem all_split {L : List Jvm.Cond} {P : Jvm.Cond → Bool} (h1 : L.all (fun c => isCode c || P c) = true) (h2 : ∀ c ∈ L.filter isCode, P c = true) : L.all P = true := by
  refine List.all_eq_true.mpr fun c hc => ?_
  have h := List.all_eq_true.mp h1 c hc
  rcases Bool.eq_false_or_eq_true (isCode c) with hi | hi
  · exact h2 c (List.mem_filter.mpr ⟨hc, hi⟩)
  · simpa [hi] using h
set_option maxRecDepth 65536 in
theorem w_c0 : (Jvm.Cond.code x code maxLocals ret).before args0 about1 = true := code_word (m := ⟨1, 2⟩) (meth := k1m2) (c := k1c2) (by decide +kernel) rfl rfl rfl (by decide +kernel)
set_option maxRecDepth 65536 in
theorem w_c1 : (Jvm.Cond.code ({ cls := "com/example/meter/meter/allocation/FlowShareLocalLimitPinLaw", name := "scaleOf", desc := "(I)D" } : Jvm.MethodName) method_2_code (1 : Nat) (Option.some Jvm.ClassFile.FieldType.double)).before args0 about1 = true := code_word (m := ⟨1, 1⟩) (meth := k1m1) (c := k1c1) (by decide +kernel) rfl rfl rfl (by decide +kernel)
set_option maxRecDepth 65536 in
theorem w_c2 : (Jvm.Cond.code ({ cls := "com/example/meter/meter/allocation/FlowShare", name := "localLimit", desc := "(DDDI)D" } : Jvm.MethodName) prog_1_method_3_code (9 : Nat) (Option.some Jvm.ClassFile.FieldType.double)).before args0 about1 = true := code_word (m := ⟨2, 1⟩) (meth := k2m1) (c := k2c1) (by decide +kernel) rfl rfl rfl (by decide +kernel)
def codes1 : List Jvm.Cond := [Jvm.Cond.code x code maxLocals ret, Jvm.Cond.code ({ cls := "com/example/meter/meter/allocation/FlowShareLocalLimitPinLaw", name := "scaleOf", desc := "(I)D" } : Jvm.MethodName) method_2_code (1 : Nat) (Option.some Jvm.ClassFile.FieldType.double), Jvm.Cond.code ({ cls := "com/example/meter/meter/allocation/FlowShare", name := "localLimit", desc := "(DDDI)D" } : Jvm.MethodName) prog_1_method_3_code (9 : Nat) (Option.some Jvm.ClassFile.FieldType.double)]
set_option maxRecDepth 65536 in
theorem codes_eq : words1.filter isCode = codes1 := rfl
theorem w_codes : ∀ c ∈ words1.filter isCode, c.before args0 about1 = true := by
  rw [codes_eq]
  intro c hc
  simp only [codes1, List.mem_cons, List.not_mem_nil, or_false] at hc
  rcases hc with rfl | rfl | rfl
  · exact w_c0
  · exact w_c1
  · exact w_c2
set_option maxRecDepth 65536 in
theorem w_t1 : words1.all (fun c => isCode c || c.before args0 about1) = true := by decide +kernel
theorem w_tables : (allAtoms (Jvm.Cond.code x code maxLocals ret :: tables_1)).before args0 about1 = true := by
  rw [allAtoms_all]
  show words1.all (fun c => c.before args0 about1) = true
  refine all_split ?_ w_codes
  rw [w_t1]
set_option maxRecDepth 65536 in
theorem w_case : (Jvm.Cond.and given_1 narrow_1).before args0 about1 = true := by decide +kernel
theorem w_applies : (headSpec (Jvm.Cond.code x code maxLocals ret :: tables_1) room_1).applies x e0.platform about1 = true :=
  (Spec.applies_iff w_frames).mpr ⟨w_running, w_runnable, w_alone, w_named, w_hears, w_ripe, w_room, w_tables⟩
theorem atStart : AtStart classFile x code maxLocals ret World_1 tables_1 room_1 Calls_1 rest_1 Pre_1 launch0 p0 e0 about1 theMethod args0 below0 :=
  ⟨lists_1, trivial, launch0.admits_env _ _ _, launch0.least_env, fairChoices_fair.cas, fairChoices_fair.clock, w_frames, w_args, w_heap, w_applies, trivial, trivial, w_case⟩
end start1
theorem witness_1 : WitnessClaimed_1 := ⟨start1.p0, start1.e0, start1.about1, start1.theMethod, start1.args0, start1.below0, start1.atStart⟩
end Jvm.Pilot.@@N@@
