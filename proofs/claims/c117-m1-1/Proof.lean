import JvmDerived
import JvmDerived.Pilot.@@N@@Statement
import JvmDerived.Pilot.@@N@@Code
set_option linter.unusedVariables false
set_option linter.unusedSimpArgs false
namespace Jvm.RoadKit
open Sem ClassFile Op Lib Jvm.Stand Jvm.Free Jvm.LawKit
section New
variable {p : Program} {l : Launch} {e : Env} {R : Room} {s : State} {m : MethodId} {args : Array Value} {below : List Frame} {meth : Method} {c : Code} {T : State} {locs : List Loc} {cells slots : Nat}
theorem retI (X : Stand p l e R s m args below meth c T locs cells slots) (hx : p.tables.exec = Jvm.exec) {pc : Nat} {Ls : Array Slot} {z : Int32} {rest : List Value} (hret : meth.sig.returnType = some .int) (hd : decode c.code pc = .ok (.ireturn, 1)) {fs : List Frame}
    (hl : ∀ (f : JFrame) (acts : List Action), f.method = m → f.locked = none → f.entered = [] → (doReturn e (T.setTop f) acts (some (.int z))).1 = T.setFrames fs) : Steps p.tables e below (T.setTop (mkF m pc Ls (.int z :: rest))) (T.setFrames fs) :=
  retOut X hx hret rfl (Or.inl ⟨rfl, Or.inl rfl, z, rfl⟩) hd hl
end New
end Jvm.RoadKit
namespace Jvm.Pilot.@@N@@
open Jvm Jvm.ClassFile Sem Op Lib Jvm.Free Jvm.Stand Jvm.LawKit Jvm.RoadKit Bundle Jvm.Pilot.@@N@@.Jvm.D
theorem own_dloadN {tb : Tables} [Ours tb] {e : Env} {below : List Frame} {T target : State} {m : MethodId} {c : Code} {g : JFrame} (h : At T m c below) (hx : tb.exec = Jvm.exec) (hg : g.method = m) {k : Fin 4} {v : UInt64} (hd : decode c.code g.pc = .ok (.dload_n k, 1)) (hl : g.locals[k.val]? = some (.val (.double v)))
    (hr : Steps tb e below (T.setTop { g with pc := g.pc + 1, stack := .double v :: g.stack }) target) : Steps tb e below (T.setTop g) target := by
  subst hg
  jvm_step h [h.top, hx, hd, hl]
  exact hr
theorem own_dload {tb : Tables} [Ours tb] {e : Env} {below : List Frame} {T target : State} {m : MethodId} {c : Code} {g : JFrame} (h : At T m c below) (hx : tb.exec = Jvm.exec) (hg : g.method = m) {k : Nat} {v : UInt64} (hd : decode c.code g.pc = .ok (.dload k, 2)) (hl : g.locals[k]? = some (.val (.double v)))
    (hr : Steps tb e below (T.setTop { g with pc := g.pc + 2, stack := .double v :: g.stack }) target) : Steps tb e below (T.setTop g) target := by
  subst hg
  jvm_step h [h.top, hx, hd, hl]
  exact hr
theorem own_dstoreN {tb : Tables} [Ours tb] {e : Env} {below : List Frame} {T target : State} {m : MethodId} {c : Code} {g : JFrame} (h : At T m c below) (hx : tb.exec = Jvm.exec) (hg : g.method = m) {k : Fin 4} {x : UInt64} {rest : List Value} {l' : Array Slot} (hd : decode c.code g.pc = .ok (.dstore_n k, 1)) (hs : g.stack = .double x :: rest) (hl : storeLocals g.locals k.val (.double x) = some l')
    (hr : Steps tb e below (T.setTop { g with pc := g.pc + 1, stack := rest, locals := l' }) target) : Steps tb e below (T.setTop g) target := by
  subst hg
  jvm_step h [h.top, hx, hd, hs, hl]
  exact hr
theorem own_dstore {tb : Tables} [Ours tb] {e : Env} {below : List Frame} {T target : State} {m : MethodId} {c : Code} {g : JFrame} (h : At T m c below) (hx : tb.exec = Jvm.exec) (hg : g.method = m) {k : Nat} {x : UInt64} {rest : List Value} {l' : Array Slot} (hd : decode c.code g.pc = .ok (.dstore k, 2)) (hs : g.stack = .double x :: rest) (hl : storeLocals g.locals k (.double x) = some l')
    (hr : Steps tb e below (T.setTop { g with pc := g.pc + 2, stack := rest, locals := l' }) target) : Steps tb e below (T.setTop g) target := by
  subst hg
  jvm_step h [h.top, hx, hd, hs, hl]
  exact hr
theorem own_dconst0 {tb : Tables} [Ours tb] {e : Env} {below : List Frame} {T target : State} {m : MethodId} {c : Code} {g : JFrame} (h : At T m c below) (hx : tb.exec = Jvm.exec) (hg : g.method = m) (hd : decode c.code g.pc = .ok (.dconst 0, 1))
    (hr : Steps tb e below (T.setTop { g with pc := g.pc + 1, stack := .double FP.dconst0 :: g.stack }) target) : Steps tb e below (T.setTop g) target := by
  subst hg
  jvm_step h [h.top, hx, hd]
  exact hr
theorem own_dconst1 {tb : Tables} [Ours tb] {e : Env} {below : List Frame} {T target : State} {m : MethodId} {c : Code} {g : JFrame} (h : At T m c below) (hx : tb.exec = Jvm.exec) (hg : g.method = m) (hd : decode c.code g.pc = .ok (.dconst 1, 1))
    (hr : Steps tb e below (T.setTop { g with pc := g.pc + 1, stack := .double FP.dconst1 :: g.stack }) target) : Steps tb e below (T.setTop g) target := by
  subst hg
  jvm_step h [h.top, hx, hd]
  exact hr
theorem own_i2d {tb : Tables} [Ours tb] {e : Env} {below : List Frame} {T target : State} {m : MethodId} {c : Code} {g : JFrame} (h : At T m c below) (hx : tb.exec = Jvm.exec) (hg : g.method = m) {x : Int32} {rest : List Value} (hd : decode c.code g.pc = .ok (.i2d, 1)) (hs : g.stack = .int x :: rest)
    (hr : Steps tb e below (T.setTop { g with pc := g.pc + 1, stack := .double (FP.i2d x) :: rest }) target) : Steps tb e below (T.setTop g) target := by
  subst hg
  jvm_step h [h.top, hx, hd, hs]
  exact hr
theorem own_l2d {tb : Tables} [Ours tb] {e : Env} {below : List Frame} {T target : State} {m : MethodId} {c : Code} {g : JFrame} (h : At T m c below) (hx : tb.exec = Jvm.exec) (hg : g.method = m) {x : Int64} {rest : List Value} (hd : decode c.code g.pc = .ok (.l2d, 1)) (hs : g.stack = .long x :: rest)
    (hr : Steps tb e below (T.setTop { g with pc := g.pc + 1, stack := .double (FP.l2d x) :: rest }) target) : Steps tb e below (T.setTop g) target := by
  subst hg
  jvm_step h [h.top, hx, hd, hs]
  exact hr
theorem own_d2l {tb : Tables} [Ours tb] {e : Env} {below : List Frame} {T target : State} {m : MethodId} {c : Code} {g : JFrame} (h : At T m c below) (hx : tb.exec = Jvm.exec) (hg : g.method = m) {x : UInt64} {rest : List Value} (hd : decode c.code g.pc = .ok (.d2l, 1)) (hs : g.stack = .double x :: rest)
    (hr : Steps tb e below (T.setTop { g with pc := g.pc + 1, stack := .long (FP.d2l x) :: rest }) target) : Steps tb e below (T.setTop g) target := by
  subst hg
  jvm_step h [h.top, hx, hd, hs]
  exact hr
theorem own_d2i {tb : Tables} [Ours tb] {e : Env} {below : List Frame} {T target : State} {m : MethodId} {c : Code} {g : JFrame} (h : At T m c below) (hx : tb.exec = Jvm.exec) (hg : g.method = m) {x : UInt64} {rest : List Value} (hd : decode c.code g.pc = .ok (.d2i, 1)) (hs : g.stack = .double x :: rest)
    (hr : Steps tb e below (T.setTop { g with pc := g.pc + 1, stack := .int (FP.d2i x) :: rest }) target) : Steps tb e below (T.setTop g) target := by
  subst hg
  jvm_step h [h.top, hx, hd, hs]
  exact hr
theorem own_dneg {tb : Tables} [Ours tb] {e : Env} {below : List Frame} {T target : State} {m : MethodId} {c : Code} {g : JFrame} (h : At T m c below) (hx : tb.exec = Jvm.exec) (hg : g.method = m) {x : UInt64} {rest : List Value} (hd : decode c.code g.pc = .ok (.dneg, 1)) (hs : g.stack = .double x :: rest)
    (hr : Steps tb e below (T.setTop { g with pc := g.pc + 1, stack := .double (FP.dneg x) :: rest }) target) : Steps tb e below (T.setTop g) target := by
  subst hg
  jvm_step h [h.top, hx, hd, hs]
  exact hr
theorem own_dcmp {tb : Tables} [Ours tb] {e : Env} {below : List Frame} {T target : State} {m : MethodId} {c : Code} {g : JFrame} (h : At T m c below) (hx : tb.exec = Jvm.exec) (hg : g.method = m) {op : CmpOp} {x y : UInt64} {rest : List Value} (hd : decode c.code g.pc = .ok (.dcmp op, 1)) (hs : g.stack = .double y :: .double x :: rest)
    (hr : Steps tb e below (T.setTop { g with pc := g.pc + 1, stack := .int (cmpValue (FP.dcmp x y) op) :: rest }) target) : Steps tb e below (T.setTop g) target := by
  subst hg
  jvm_step h [h.top, hx, hd, hs]
  exact hr
theorem own_dadd {tb : Tables} [Ours tb] {e : Env} {below : List Frame} {T target : State} {m : MethodId} {c : Code} {g : JFrame} (h : At T m c below) (hx : tb.exec = Jvm.exec) (hg : g.method = m) {x y : UInt64} {rest : List Value} (hd : decode c.code g.pc = .ok (.dadd, 1)) (hs : g.stack = .double y :: .double x :: rest) (hn : Jvm.Free.Fl.NoNaN64 (FP.dadd x y))
    (hr : Steps tb e below (T.setTop { g with pc := g.pc + 1, stack := .double (FP.dadd x y) :: rest }) target) : Steps tb e below (T.setTop g) target := by
  obtain ⟨gm, gpc, gl, gs, glk, gen, gmr⟩ := g
  subst hg
  dsimp only at hs
  subst hs
  jvm_step h [hx, hd, Op.dadd.at_number h.top hn]
  exact hr
theorem own_dsub {tb : Tables} [Ours tb] {e : Env} {below : List Frame} {T target : State} {m : MethodId} {c : Code} {g : JFrame} (h : At T m c below) (hx : tb.exec = Jvm.exec) (hg : g.method = m) {x y : UInt64} {rest : List Value} (hd : decode c.code g.pc = .ok (.dsub, 1)) (hs : g.stack = .double y :: .double x :: rest) (hn : Jvm.Free.Fl.NoNaN64 (FP.dsub x y))
    (hr : Steps tb e below (T.setTop { g with pc := g.pc + 1, stack := .double (FP.dsub x y) :: rest }) target) : Steps tb e below (T.setTop g) target := by
  obtain ⟨gm, gpc, gl, gs, glk, gen, gmr⟩ := g
  subst hg
  dsimp only at hs
  subst hs
  jvm_step h [hx, hd, Op.dsub.at_number h.top hn]
  exact hr
theorem own_dmul {tb : Tables} [Ours tb] {e : Env} {below : List Frame} {T target : State} {m : MethodId} {c : Code} {g : JFrame} (h : At T m c below) (hx : tb.exec = Jvm.exec) (hg : g.method = m) {x y : UInt64} {rest : List Value} (hd : decode c.code g.pc = .ok (.dmul, 1)) (hs : g.stack = .double y :: .double x :: rest) (hn : Jvm.Free.Fl.NoNaN64 (FP.dmul x y))
    (hr : Steps tb e below (T.setTop { g with pc := g.pc + 1, stack := .double (FP.dmul x y) :: rest }) target) : Steps tb e below (T.setTop g) target := by
  obtain ⟨gm, gpc, gl, gs, glk, gen, gmr⟩ := g
  subst hg
  dsimp only at hs
  subst hs
  jvm_step h [hx, hd, Op.dmul.at_number h.top hn]
  exact hr
theorem own_ddiv {tb : Tables} [Ours tb] {e : Env} {below : List Frame} {T target : State} {m : MethodId} {c : Code} {g : JFrame} (h : At T m c below) (hx : tb.exec = Jvm.exec) (hg : g.method = m) {x y : UInt64} {rest : List Value} (hd : decode c.code g.pc = .ok (.ddiv, 1)) (hs : g.stack = .double y :: .double x :: rest) (hn : Jvm.Free.Fl.NoNaN64 (FP.ddiv x y))
    (hr : Steps tb e below (T.setTop { g with pc := g.pc + 1, stack := .double (FP.ddiv x y) :: rest }) target) : Steps tb e below (T.setTop g) target := by
  obtain ⟨gm, gpc, gl, gs, glk, gen, gmr⟩ := g
  subst hg
  dsimp only at hs
  subst hs
  jvm_step h [hx, hd, Op.ddiv.at_number h.top hn]
  exact hr
theorem own_dup2D {tb : Tables} [Ours tb] {e : Env} {below : List Frame} {T target : State} {m : MethodId} {c : Code} {g : JFrame} (h : At T m c below) (hx : tb.exec = Jvm.exec) (hg : g.method = m) {x : UInt64} {rest : List Value} (hd : decode c.code g.pc = .ok (.dup2, 1)) (hs : g.stack = .double x :: rest)
    (hr : Steps tb e below (T.setTop { g with pc := g.pc + 1, stack := .double x :: .double x :: rest }) target) : Steps tb e below (T.setTop g) target := by
  subst hg
  jvm_step h [h.top, hx, hd, hs, Value.category]
  exact hr
theorem own_retD {p : Program} {l : Launch} {e : Env} {R : Room} {s : State} {m : MethodId} {args : Array Value} {below : List Frame} {meth : Method} {c : Code} {T : State} {locs : List Loc} {cells slots : Nat} (Y : Stand p l e R s m args below meth c T locs cells slots) (hexec : p.tables.exec = Jvm.exec) {pc : Nat} {Ls : Array Slot} {w : UInt64} {rest : List Value} (hret : meth.sig.returnType = some .double)
    (hdg : decode c.code pc = .ok (.dreturn, 1)) {fs : List Frame} (hleave : ∀ (f : JFrame) (acts : List Action), f.method = m → f.locked = none → f.entered = [] → (doReturn e (T.setTop f) acts (some (.double w))).1 = T.setFrames fs) :
    Steps p.tables e below (T.setTop (mkF m pc Ls (.double w :: rest))) (T.setFrames fs) :=
  retOut Y hexec hret rfl (Or.inr (Or.inr (Or.inl ⟨rfl, rfl, w, rfl⟩))) hdg hleave
theorem own_stD {p : Program} {l : Launch} {e : Env} {R : Room} {s : State} {m : MethodId} {args : Array Value} {below : List Frame} {meth : Method} {c : Code} {T : State} {locs : List Loc} {cells slots : Nat} {Z : State} {h : Heap}
    (X : Stand p l e R s m args below meth c T locs cells slots) (hx : p.tables.exec = Jvm.exec) (hZ : Z.Warmed39 s.vm) (eT : T.heap = h) {a : Addr} {cl : Cell} (A : Arr Z h a cl .double) {j : Int32} {x : UInt64} (hj : ¬ (j < 0 ∨ cl.slots.size ≤ j.toNatClampNeg)) {g : JFrame} (hg : g.method = m) {rest : List Value} (hs : g.stack = .double x :: .int j :: .ref a :: rest) (hd : decode c.code g.pc = .ok (.dastore, 1)) :
    ∃ T' h', Stand p l e R s m args below meth c T' (locs ++ [⟨a, j.toNatClampNeg⟩]) cells slots ∧ T'.heap = h' ∧ Wr h h' a j.toNatClampNeg (.double x) ∧ ∀ target, Steps p.tables e below (T'.setTop { g with pc := g.pc + 1, stack := rest }) target → Steps p.tables e below (T.setTop g) target := by
  obtain ⟨X', st⟩ := X.dastore hx (by rw [eT]; exact A.1) (State.isArrayOf_alike hZ.alike A.2.1) A.2.2 hj hg hs hd
  exact ⟨_, _, X', rfl, ⟨cl, A.1, A.plain, Nat.lt_of_not_le fun q => hj (Or.inr q), by rw [← eT]; rfl⟩, st⟩
section OwnDy
open Jvm.FP Jvm.FP.Core
/-- the datum's exponent moved by j -/
def own_sh (j : Int) : Datum → Datum
  | .fin s c q => .fin s c (q + j)
  | d => d
/-- the datum is n * 2^k -/
def own_Dy (n k : Int) (d : Datum) : Prop := Whole n (own_sh (-k) d)
theorem own_dy0 {n : Int} {d : Datum} : own_Dy n 0 d ↔ Whole n d := by
  cases d with
  | nan => exact Iff.rfl
  | inf => exact Iff.rfl
  | fin s c q =>
    show Whole n (.fin s c (q + -0)) ↔ _
    rw [show q + -0 = q by omega]
theorem own_sh_sum (j : Int) (x y : Datum) : exactSum (own_sh j x) (own_sh j y) = own_sh j (exactSum x y) := by
  cases x <;> cases y <;> try rfl
  · simp only [own_sh, exactSum]; split <;> rfl
  · rename_i s c q t d r
    have hm : min (q + j) (r + j) = min q r + j := by omega
    have hu : sumUnits s c (q + j) t d (r + j) (min q r + j) = sumUnits s c q t d r (min q r) := by
      unfold sumUnits inUnits
      rw [show q + j - (min q r + j) = q - min q r by omega, show r + j - (min q r + j) = r - min q r by omega]
    simp only [own_sh, exactSum, hm, hu]
theorem own_sh_prod (i j : Int) (x y : Datum) : exactProduct (own_sh i x) (own_sh j y) = own_sh (i + j) (exactProduct x y) := by
  cases x <;> cases y <;> try rfl
  · simp only [own_sh, exactProduct]; split <;> rfl
  · simp only [own_sh, exactProduct]; split <;> rfl
  · simp only [own_sh, exactProduct, Datum.fin.injEq, true_and]; omega
theorem own_sh_order (j : Int) (x y : Datum) : order (own_sh j x) (own_sh j y) = order x y := by
  cases x <;> cases y <;> try rfl
  rename_i s c q t d r
  simp only [own_sh, order]
  unfold inUnits
  rw [show q + j - min (q + j) (r + j) = q - min q r by omega, show r + j - min (q + j) (r + j) = r - min q r by omega]
theorem own_sh_neg (j : Int) (x : Datum) : negate (own_sh j x) = own_sh j (negate x) := by cases x <;> rfl
theorem own_dy_sum {n m k : Int} {x y : Datum} (hx : own_Dy n k x) (hy : own_Dy m k y) : own_Dy (n + m) k (exactSum x y) := by
  unfold own_Dy; rw [← own_sh_sum]; exact whole_sum hx hy
theorem own_dy_neg {n k : Int} {x : Datum} (hx : own_Dy n k x) : own_Dy (-n) k (negate x) := by
  unfold own_Dy; rw [← own_sh_neg]; exact whole_negate hx
theorem own_dy_prod {n m k l : Int} {x y : Datum} (hx : own_Dy n k x) (hy : own_Dy m l y) : own_Dy (n * m) (k + l) (exactProduct x y) := by
  unfold own_Dy; rw [show -(k + l) = -k + -l by omega, ← own_sh_prod]; exact whole_product hx hy
theorem own_dy_order {n m k : Int} {x y : Datum} (hx : own_Dy n k x) (hy : own_Dy m k y) : order x y = some (compare n m) := by
  rw [← own_sh_order (-k)]; exact order_whole hx hy
theorem own_dy_fin {n k : Int} {x : Datum} (h : own_Dy n k x) : ∃ s c q, x = .fin s c q := by
  cases x with
  | nan => exact h.elim
  | inf => exact h.elim
  | fin s c q => exact ⟨s, c, q, rfl⟩
theorem own_dy_abs {n k q : Int} {s : Bool} {c : Nat} (h : own_Dy n k (.fin s c q)) : c * 2 ^ (q - k).toNat = n.natAbs * 2 ^ (k - q).toNat := by
  have := whole_natAbs (q := q + -k) h
  rw [show q + -k = q - k by omega, show -(q - k) = k - q by omega] at this
  exact this
theorem own_dy_sign {n k q : Int} {s : Bool} {c : Nat} (h : own_Dy n k (.fin s c q)) (hn : n ≠ 0) : s = decide (n < 0) := whole_sign (q := q + -k) h hn
theorem own_dy_mk {n k q : Int} {s : Bool} {c : Nat} (h : c * 2 ^ (q - k).toNat = n.natAbs * 2 ^ (k - q).toNat) (hs : n ≠ 0 → s = decide (n < 0)) : own_Dy n k (.fin s c q) := by
  show signed s (c * 2 ^ (q + -k).toNat) = n * ((2 ^ (-(q + -k)).toNat : Nat) : Int)
  rw [show q + -k = q - k by omega, show -(q - k) = k - q by omega, h]
  by_cases h0 : n = 0
  · subst h0; simp [signed]
  · rw [hs h0, signed_mul]
    congr 1
    unfold signed
    by_cases h : n < 0 <;> simp [h] <;> omega
/-- the same number in smaller units -/
theorem own_dy_scale {n k : Int} {x : Datum} (h : own_Dy n k x) (j : Nat) : own_Dy (n * ((2 ^ j : Nat) : Int)) (k - j) x := by
  obtain ⟨s, c, q, rfl⟩ := own_dy_fin h
  have p : 0 < 2 ^ j := Nat.two_pow_pos j
  refine own_dy_mk ?_ fun hn => ?_
  · have ha := own_dy_abs h
    rw [Int.natAbs_mul, Int.natAbs_natCast]
    have e1 : (q - (k - (j : Int))).toNat + (k - q).toNat = (q - k).toNat + j + (k - (j : Int) - q).toNat := by omega
    refine Nat.eq_of_mul_eq_mul_right (Nat.two_pow_pos (k - q).toNat) ?_
    calc c * 2 ^ (q - (k - (j : Int))).toNat * 2 ^ (k - q).toNat = c * 2 ^ ((q - (k - (j : Int))).toNat + (k - q).toNat) := by rw [Nat.pow_add, Nat.mul_assoc]
      _ = (c * 2 ^ (q - k).toNat) * 2 ^ j * 2 ^ (k - (j : Int) - q).toNat := by rw [e1, Nat.pow_add, Nat.pow_add]; simp only [Nat.mul_assoc]
      _ = n.natAbs * 2 ^ j * 2 ^ (k - (j : Int) - q).toNat * 2 ^ (k - q).toNat := by rw [ha]; ac_rfl
  · have p' : (0 : Int) < ((2 ^ j : Nat) : Int) := by omega
    have h0 : n ≠ 0 := fun h => hn (by rw [h, Int.zero_mul])
    rw [own_dy_sign h h0, decide_eq_decide]
    constructor
    · intro hl; exact Int.mul_neg_of_neg_of_pos hl p'
    · intro hl; exact Int.lt_of_not_ge fun hg => by have := Int.mul_nonneg hg (Int.le_of_lt p'); omega
/-- whole multiples of 2^k of at most 53 digits are doubles -/
theorem own_fit {n : Nat} {k : Int} (s : Bool) (hn : n ≤ 2 ^ 53) (h1 : -1074 ≤ k) (h2 : k ≤ 971) (h3 : n = 2 ^ 53 → k ≤ 970) : ∃ c q, Core.fits b64 (.fin s c q) ∧ n * 2 ^ (k - q).toNat = c * 1 * 2 ^ (q - k).toNat := by
  have ht : b64.tails = 2 ^ 52 := by decide
  have hp : b64.p = 53 := rfl
  have hm : b64.qmin = -1074 := by decide
  have hM : b64.qmax = 971 := by decide
  by_cases h0 : n = 0
  · subst h0
    exact ⟨0, b64.qmin, zero_fits good_b64 s, by simp⟩
  by_cases hp2 : n = 2 ^ 53
  · have h3 := h3 hp2
    refine ⟨2 ^ 52, k + 1, ⟨by rw [hp]; decide, by omega, by omega, .inr (by omega)⟩, ?_⟩
    rw [hp2, show (k - (k + 1)).toNat = 0 by omega, show (k + 1 - k).toNat = 1 by omega]
  · have l1 : 2 ^ n.log2 ≤ n := Nat.log2_self_le h0
    have l2 : n < 2 ^ (n.log2 + 1) := Nat.lt_log2_self
    have l3 : n.log2 < 53 := (Nat.pow_lt_pow_iff_right (by decide : 1 < 2)).mp (Nat.lt_of_le_of_lt l1 (by omega))
    generalize n.log2 = L at l1 l2 l3
    have hq : ∃ q : Int, q = max (-1074) ((L : Int) + k - 52) := ⟨_, rfl⟩
    obtain ⟨q, hq⟩ := hq
    have q1 : q ≤ k := by omega
    refine ⟨n * 2 ^ (k - q).toNat, q, ⟨?_, by omega, by omega, ?_⟩, ?_⟩
    · rw [hp]
      calc n * 2 ^ (k - q).toNat < 2 ^ (L + 1) * 2 ^ (k - q).toNat := Nat.mul_lt_mul_of_pos_right l2 (Nat.two_pow_pos _)
        _ = 2 ^ (L + 1 + (k - q).toNat) := by rw [← Nat.pow_add]
        _ ≤ 2 ^ 53 := Nat.pow_le_pow_right (by decide) (by omega)
    · by_cases hm2 : q = -1074
      · left; rw [hm]; exact hm2
      · right
        rw [ht]
        calc 2 ^ 52 = 2 ^ L * 2 ^ (k - q).toNat := by rw [← Nat.pow_add]; congr 1; omega
          _ ≤ n * 2 ^ (k - q).toNat := Nat.mul_le_mul_right _ l1
    · rw [show (q - k).toNat = 0 by omega]; simp
theorem own_dy_roundRatio {n k e : Int} {A B : Nat} {s : Bool} (hB : 0 < B) (hn : n.natAbs ≤ 2 ^ 53) (h1 : -1074 ≤ k) (h2 : k ≤ 970) (hA : A * 2 ^ (e - k).toNat = n.natAbs * B * 2 ^ (k - e).toNat) (hs : n ≠ 0 → s = decide (n < 0)) : own_Dy n k (roundRatio b64 s A B e) := by
  obtain ⟨c, q, hf, hv⟩ := own_fit (n := n.natAbs) s hn h1 (by omega) (fun _ => h2)
  have : roundRatio b64 s A B e = .fin s c q := by
    rw [roundRatio_congr (A' := n.natAbs) (B' := 1) (e' := k) hB (by decide) (by rw [Nat.mul_one]; exact hA)]
    exact roundRatio_exact good_b64 (by decide) hf hv
  rw [this]
  refine own_dy_mk ?_ hs
  rw [Nat.mul_one] at hv
  exact hv.symm
theorem own_dy_round {n k : Int} {d : Datum} (hn : n.natAbs ≤ 2 ^ 53) (h1 : -1074 ≤ k) (h2 : k ≤ 970) (h : own_Dy n k d) : own_Dy n k (round b64 d) := by
  obtain ⟨s, c, q, rfl⟩ := own_dy_fin h
  refine own_dy_roundRatio (by decide) hn h1 h2 ?_ (own_dy_sign h)
  rw [Nat.mul_one]; exact own_dy_abs h
theorem own_pow_cancel {a b x y : Nat} {u : Int} (h : a * 2 ^ x = b * 2 ^ y) (hu : u = (x : Int) - y) : a * 2 ^ u.toNat = b * 2 ^ (-u).toNat := by
  have hx : x = u.toNat + min x y := by omega
  have hy : y = (-u).toNat + min x y := by omega
  generalize u.toNat = v at *
  generalize (-u).toNat = w at *
  generalize min x y = t at hx hy
  subst hx hy
  rw [Nat.pow_add, Nat.pow_add, ← Nat.mul_assoc, ← Nat.mul_assoc] at h
  exact Nat.eq_of_mul_eq_mul_right (Nat.two_pow_pos t) h
/-- an exact quotient -/
theorem own_dy_quot {r m k l : Int} {x y : Datum} (hm : m ≠ 0) (hn : r.natAbs ≤ 2 ^ 53) (h1 : -1074 ≤ k) (h2 : k ≤ 970) (hx : own_Dy (r * m) (k + l) x) (hy : own_Dy m l y) : own_Dy r k (quotient b64 x y) := by
  obtain ⟨s, c, q, rfl⟩ := own_dy_fin hx
  obtain ⟨t, d, q', rfl⟩ := own_dy_fin hy
  have ha := own_dy_abs hx
  have hb := own_dy_abs hy
  have hd : d ≠ 0 := by
    rintro rfl
    rw [Nat.zero_mul] at hb
    rcases Nat.mul_eq_zero.mp hb.symm with h | h
    · exact hm (Int.natAbs_eq_zero.mp h)
    · have := Nat.two_pow_pos (l - q').toNat; omega
  show own_Dy r k (if d = 0 then _ else _)
  rw [if_neg hd]
  refine own_dy_roundRatio (Nat.pos_of_ne_zero hd) hn h1 h2 ?_ fun h0 => ?_
  · rw [Int.natAbs_mul] at ha
    have e1 : (q - q' - k) = (((q - (k + l)).toNat + (l - q').toNat : Nat) : Int) - (((k + l - q).toNat + (q' - l).toNat : Nat) : Int) := by omega
    have e2 : k - (q - q') = -(q - q' - k) := by omega
    rw [e2]
    refine own_pow_cancel (x := (q - (k + l)).toNat + (l - q').toNat) (y := (k + l - q).toNat + (q' - l).toNat) ?_ e1
    calc c * 2 ^ ((q - (k + l)).toNat + (l - q').toNat) = (c * 2 ^ (q - (k + l)).toNat) * 2 ^ (l - q').toNat := by rw [Nat.pow_add, Nat.mul_assoc]
      _ = r.natAbs * (m.natAbs * 2 ^ (l - q').toNat) * 2 ^ (k + l - q).toNat := by rw [ha]; ac_rfl
      _ = r.natAbs * d * 2 ^ ((k + l - q).toNat + (q' - l).toNat) := by rw [← hb, Nat.pow_add]; ac_rfl
  · have h3 : r * m ≠ 0 := fun h => (Int.mul_eq_zero.mp h).elim h0 hm
    rw [own_dy_sign hx h3, own_dy_sign hy hm]
    rcases Int.lt_or_gt_of_ne h0 with a | a <;> rcases Int.lt_or_gt_of_ne hm with b | b
    · have := Int.mul_pos_of_neg_of_neg a b; simp [a, b]; omega
    · have := Int.mul_neg_of_neg_of_pos a b; simp [a, this]; omega
    · have := Int.mul_neg_of_pos_of_neg a b; simp [b, this]; omega
    · have := Int.mul_pos a b; simp [show ¬ r < 0 by omega, show ¬ m < 0 by omega]; omega
theorem own_dy_unscale {n k : Int} {x : Datum} (j : Nat) (h : own_Dy (n * ((2 ^ j : Nat) : Int)) k x) : own_Dy n (k + j) x := by
  obtain ⟨s, c, q, rfl⟩ := own_dy_fin h
  have p : 0 < 2 ^ j := Nat.two_pow_pos j
  have p' : (0 : Int) < ((2 ^ j : Nat) : Int) := by omega
  refine own_dy_mk ?_ fun h0 => ?_
  · have ha := own_dy_abs h
    rw [Int.natAbs_mul, Int.natAbs_natCast] at ha
    have e1 : (q - (k + (j : Int))) = (((q - k).toNat : Nat) : Int) - (((k - q).toNat + j : Nat) : Int) := by omega
    have e2 : k + (j : Int) - q = -(q - (k + (j : Int))) := by omega
    rw [e2]
    refine own_pow_cancel (x := (q - k).toNat) (y := (k - q).toNat + j) ?_ e1
    rw [ha, Nat.pow_add]; ac_rfl
  · have hn : n * ((2 ^ j : Nat) : Int) ≠ 0 := fun h => (Int.mul_eq_zero.mp h).elim h0 (by omega)
    rw [own_dy_sign h hn, decide_eq_decide]
    constructor
    · intro hl; exact Int.lt_of_not_ge fun hg => by have := Int.mul_nonneg hg (Int.le_of_lt p'); omega
    · intro hl; exact Int.mul_neg_of_neg_of_pos hl p'
/-- the number in units of 2^e -/
theorem own_dy_units {n k q e : Int} {s : Bool} {c : Nat} (h : own_Dy n k (.fin s c q)) (h1 : e ≤ k) (h2 : e ≤ q) : signed s (inUnits c q e) = n * ((2 ^ (k - e).toNat : Nat) : Int) := by
  have ha := own_dy_abs h
  have e1 : inUnits c q e = n.natAbs * 2 ^ (k - e).toNat := by
    unfold inUnits
    refine Nat.eq_of_mul_eq_mul_right (Nat.two_pow_pos (k - q).toNat) ?_
    calc c * 2 ^ (q - e).toNat * 2 ^ (k - q).toNat = (c * 2 ^ (q - k).toNat) * 2 ^ (k - e).toNat := by
          rw [Nat.mul_assoc, ← Nat.pow_add, Nat.mul_assoc, ← Nat.pow_add]; congr 2; omega
      _ = n.natAbs * 2 ^ (k - e).toNat * 2 ^ (k - q).toNat := by rw [ha]; ac_rfl
  rw [e1, signed_mul]
  congr 1
  by_cases h0 : n = 0
  · subst h0; simp [signed]
  · rw [own_dy_sign h h0]
    unfold signed
    by_cases hl : n < 0 <;> simp [hl] <;> omega
theorem own_pow_split (n : Int) {k e : Int} (h1 : -1074 ≤ k) (h2 : e ≤ -1074) : n * ((2 ^ (k - e).toNat : Nat) : Int) = n * ((2 ^ (k + 1074).toNat : Nat) : Int) * ((2 ^ (b64.qmin - e).toNat : Nat) : Int) := by
  have hm : b64.qmin = -1074 := by decide
  rw [hm, Int.mul_assoc, ← Int.natCast_mul, ← Nat.pow_add]
  congr 4
  omega
/-- rounding is monotone -/
theorem own_round_le {n k w : Int} {d V : Datum} (h : own_Dy n k d) (h1 : -1074 ≤ k) (hV : Core.fits b64 V) (hn : V ≠ .nan) (hz : zval b64 V = w) (hw : n * ((2 ^ (k + 1074).toNat : Nat) : Int) ≤ w) : zval b64 (round b64 d) ≤ w := by
  obtain ⟨s, c, q, rfl⟩ := own_dy_fin h
  have hm : b64.qmin = -1074 := by decide
  have p := Nat.two_pow_pos (b64.qmin - min (-1074) q).toNat
  rw [← hz]
  refine zval_round_le good_b64 hV hn (e0 := min (-1074) q) (by omega) (by omega) ?_
  rw [own_dy_units h (by omega) (by omega), own_pow_split n h1 (by omega), hz]
  exact Int.mul_le_mul_of_nonneg_right hw (by omega)
theorem own_round_ge {n k w : Int} {d V : Datum} (h : own_Dy n k d) (h1 : -1074 ≤ k) (hV : Core.fits b64 V) (hn : V ≠ .nan) (hz : zval b64 V = w) (hw : w ≤ n * ((2 ^ (k + 1074).toNat : Nat) : Int)) : w ≤ zval b64 (round b64 d) := by
  obtain ⟨s, c, q, rfl⟩ := own_dy_fin h
  have hm : b64.qmin = -1074 := by decide
  have p := Nat.two_pow_pos (b64.qmin - min (-1074) q).toNat
  rw [← hz]
  refine zval_round_ge good_b64 hV hn (e0 := min (-1074) q) (by omega) (by omega) ?_
  rw [own_dy_units h (by omega) (by omega), own_pow_split n h1 (by omega), hz]
  exact Int.mul_le_mul_of_nonneg_right hw (by omega)
/-! ### on doubles -/
def own_D (n k : Int) (a : UInt64) : Prop := own_Dy n k (val64 a)
theorem own_d_int {n : Int} {a : UInt64} : own_D n 0 a ↔ DInt n a := own_dy0
theorem own_d_ne {n k : Int} {a : UInt64} (h : own_D n k a) : val64 a ≠ .nan := by
  obtain ⟨s, c, q, e⟩ := own_dy_fin h; rw [e]; exact Datum.noConfusion
theorem own_d_no {n k : Int} {a : UInt64} (h : own_D n k a) : Jvm.Free.Fl.NoNaN64 a := Jvm.Free.Fl.val64_no.mpr (own_d_ne h)
theorem own_d_scale {n k : Int} {a : UInt64} (h : own_D n k a) (j : Nat) : own_D (n * ((2 ^ j : Nat) : Int)) (k - j) a := own_dy_scale h j
theorem own_d_add {n m k : Int} {a b : UInt64} (ha : own_D n k a) (hb : own_D m k b) (hn : (n + m).natAbs ≤ 2 ^ 53) (h1 : -1074 ≤ k) (h2 : k ≤ 970) : own_D (n + m) k (FP.dadd a b) := by
  unfold own_D; rw [show FP.dadd a b = Core.dadd a b from rfl, val64_dadd]; exact own_dy_round hn h1 h2 (own_dy_sum ha hb)
theorem own_d_sub {n m k : Int} {a b : UInt64} (ha : own_D n k a) (hb : own_D m k b) (hn : (n - m).natAbs ≤ 2 ^ 53) (h1 : -1074 ≤ k) (h2 : k ≤ 970) : own_D (n - m) k (FP.dsub a b) := by
  unfold own_D; rw [show FP.dsub a b = Core.dsub a b from rfl, val64_dsub]; exact own_dy_round hn h1 h2 (own_dy_sum ha (own_dy_neg hb))
theorem own_d_mul {n m k l : Int} {a b : UInt64} (ha : own_D n k a) (hb : own_D m l b) (hn : (n * m).natAbs ≤ 2 ^ 53) (h1 : -1074 ≤ k + l) (h2 : k + l ≤ 970) : own_D (n * m) (k + l) (FP.dmul a b) := by
  unfold own_D; rw [show FP.dmul a b = Core.dmul a b from rfl, val64_dmul]; exact own_dy_round hn h1 h2 (own_dy_prod ha hb)
theorem own_d_div {r m k l : Int} {a b : UInt64} (hm : m ≠ 0) (ha : own_D (r * m) (k + l) a) (hb : own_D m l b) (hn : r.natAbs ≤ 2 ^ 53) (h1 : -1074 ≤ k) (h2 : k ≤ 970) : own_D r k (FP.ddiv a b) := by
  unfold own_D; rw [show FP.ddiv a b = Core.ddiv a b from rfl, val64_ddiv]; exact own_dy_quot hm hn h1 h2 ha hb
theorem own_d_neg {n k : Int} {a : UInt64} (ha : own_D n k a) : own_D (-n) k (FP.dneg a) := by
  unfold own_D; rw [FP.val64_dneg]; exact own_dy_neg ha
theorem own_d_cmp {n m k : Int} {a b : UInt64} (ha : own_D n k a) (hb : own_D m k b) : FP.dcmp a b = some (compare n m) := own_dy_order ha hb
theorem own_d_i2d (x : Int32) : own_D x.toInt 0 (FP.i2d x) := own_d_int.mpr (i2d_int x)
theorem own_d_l2d {x : Int64} (h : x.toInt.natAbs ≤ 2 ^ 53) : own_D x.toInt 0 (FP.l2d x) := own_d_int.mpr (l2d_int h)
theorem own_d_unscale {n k : Int} {a : UInt64} (j : Nat) (h : own_D (n * ((2 ^ j : Nat) : Int)) k a) : own_D n (k + j) a := own_dy_unscale j h
theorem own_d_zv {n k : Int} {a : UInt64} (h : own_D n k a) (h1 : -1074 ≤ k) : zval b64 (val64 a) = n * ((2 ^ (k + 1074).toNat : Nat) : Int) := by
  obtain ⟨s, c, q, e⟩ := own_dy_fin h
  have hf := val64_fits a
  unfold own_D at h
  rw [e] at h hf ⊢
  have hm : b64.qmin = -1074 := by decide
  have := own_dy_units h (e := b64.qmin) (by omega) (by have := hf.2.1; omega)
  show signed s (inUnits c q b64.qmin) = _
  rw [this, hm]
  congr 4
theorem own_cmp_eq (n : Int) : compare n n = .eq := by simp [compare, compareOfLessAndEq]
theorem own_cmp0 {r : Option Ordering} {op : CmpOp} : cmpValue r op = 0 ↔ r = some .eq := by
  rcases r with _ | o
  · cases op <;> simp [cmpValue] <;> decide
  · cases o <;> simp [cmpValue]
theorem own_d_of {n k q : Int} {s : Bool} {c : Nat} {a : UInt64} (h : val64 a = .fin s c q) (h' : c * 2 ^ (q - k).toNat = n.natAbs * 2 ^ (k - q).toNat) (hs : n = 0 ∨ s = decide (n < 0)) : own_D n k a := by
  unfold own_D; rw [h]; exact own_dy_mk h' fun h0 => hs.resolve_left h0
theorem own_d_0 {k l : Int} {a : UInt64} (h : own_D 0 k a) : own_D 0 l a := by
  obtain ⟨s, c, q, e⟩ := own_dy_fin h
  unfold own_D at h ⊢
  rw [e] at h ⊢
  have := own_dy_abs h
  refine own_dy_mk ?_ fun h0 => absurd rfl h0
  have p := Nat.two_pow_pos (q - k).toNat
  rw [show (0 : Int).natAbs = 0 from rfl, Nat.zero_mul] at this
  rcases Nat.mul_eq_zero.mp this with h | h
  · rw [h]; simp
  · omega
theorem own_d_zero : own_D 0 0 FP.dconst0 := own_d_of (s := false) (c := 0) (q := -1074) (by decide +kernel) (by decide +kernel) (Or.inl rfl)
theorem own_d_one : own_D 1 0 FP.dconst1 := own_d_of (s := false) (c := 4503599627370496) (q := -52) (by decide +kernel) (by decide +kernel) (Or.inr rfl)
end OwnDy
section OwnRep
open Jvm.FP Jvm.FP.Core
def own_rep (x : UInt64) : Int32 := if cmpValue (FP.dcmp x (4503599627370496 : UInt64)) .l < 0 then 0 else if cmpValue (FP.dcmp x (9218868437227405312 : UInt64)) .g < 0 then 1 else 0
theorem own_cmpv_lt (a b : Int) (op : CmpOp) : cmpValue (some (compare a b)) op < 0 ↔ a < b := by
  rcases Int.lt_trichotomy a b with h | h | h
  · rw [show compare a b = .lt from Int.compare_eq_lt.mpr h]; exact ⟨fun _ => h, fun _ => by cases op <;> decide⟩
  · rw [show compare a b = .eq from Int.compare_eq_eq.mpr h]; exact ⟨fun q => absurd q (by cases op <;> decide), fun q => by omega⟩
  · rw [show compare a b = .gt from Int.compare_eq_gt.mpr h]; exact ⟨fun q => absurd q (by cases op <;> decide), fun q => by omega⟩
theorem own_zmin : zval b64 (val64 4503599627370496) = ((2 ^ 52 : Nat) : Int) := by decide +kernel
theorem own_zinf : zval b64 (val64 9218868437227405312) = ((2 ^ 2098 : Nat) : Int) := by decide +kernel
theorem own_rep_zv {x : UInt64} (h : val64 x ≠ .nan) : own_rep x = if zval b64 (val64 x) < ((2 ^ 52 : Nat) : Int) then 0 else if zval b64 (val64 x) < ((2 ^ 2098 : Nat) : Int) then 1 else 0 := by
  unfold own_rep
  rw [show FP.dcmp x 4503599627370496 = _ from dcmp_zval h (by decide +kernel), show FP.dcmp x 9218868437227405312 = _ from dcmp_zval h (by decide +kernel), own_zmin, own_zinf]
  simp only [own_cmpv_lt]
theorem own_rep_one {x : UInt64} (h : val64 x ≠ .nan) (h1 : ((2 ^ 52 : Nat) : Int) ≤ zval b64 (val64 x)) (h2 : zval b64 (val64 x) < ((2 ^ 2098 : Nat) : Int)) : own_rep x = 1 := by
  rw [own_rep_zv h, if_neg (Int.not_lt.mpr h1), if_pos h2]
theorem own_rep_low {x : UInt64} (h : val64 x ≠ .nan) (h1 : zval b64 (val64 x) < ((2 ^ 52 : Nat) : Int)) : own_rep x = 0 := by
  rw [own_rep_zv h, if_pos h1]
theorem own_rep_high {x : UInt64} (h : val64 x ≠ .nan) (h2 : ((2 ^ 2098 : Nat) : Int) ≤ zval b64 (val64 x)) : own_rep x = 0 := by
  rw [own_rep_zv h]
  by_cases h1 : zval b64 (val64 x) < ((2 ^ 52 : Nat) : Int)
  · rw [if_pos h1]
  · rw [if_neg h1, if_neg (Int.not_lt.mpr h2)]
theorem own_p52 : 0 < ((2 ^ 52 : Nat) : Int) := by decide
/-- whole numbers -/
theorem own_rep_whole {n : Int} {x : UInt64} (h : own_D n 0 x) (hb : n ≤ 2147483648) : own_rep x = if 0 < n then 1 else 0 := by
  have hz := own_d_zv h (by decide)
  rw [show ((0 : Int) + 1074).toNat = 1074 from rfl] at hz
  have p1 : (2 ^ 52 : Nat) ≤ 2 ^ 1074 := Nat.pow_le_pow_right (by decide) (by decide)
  have p2 : (2 ^ 32 : Nat) * 2 ^ 1074 ≤ 2 ^ 2098 := by rw [← Nat.pow_add]; exact Nat.pow_le_pow_right (by decide) (by decide)
  have p3 : 0 < (2 ^ 1074 : Nat) := Nat.two_pow_pos _
  have p0 := own_p52
  generalize (2 ^ 1074 : Nat) = P at *
  by_cases h0 : 0 < n
  · rw [if_pos h0]
    refine own_rep_one (own_d_ne h) ?_ ?_
    · rw [hz]
      have : 1 * (P : Int) ≤ n * P := Int.mul_le_mul_of_nonneg_right (by omega) (by omega)
      omega
    · rw [hz]
      have : n * (P : Int) ≤ 2147483648 * P := Int.mul_le_mul_of_nonneg_right hb (by omega)
      generalize (2 ^ 2098 : Nat) = Q at *
      omega
  · rw [if_neg h0]
    refine own_rep_low (own_d_ne h) ?_
    rw [hz]
    have : n * (P : Int) ≤ 0 * P := Int.mul_le_mul_of_nonneg_right (by omega) (by omega)
    omega
theorem own_one_shl (t : Int32) : ∃ j : Nat, j ≤ 31 ∧ (t &&& 31).toInt = j ∧ ((1 : Int64) <<< ((t &&& 31).toInt64 &&& 63)).toInt = ((2 ^ j : Nat) : Int) ∧ ∀ a : Int32, (a.toInt64 <<< ((t &&& 31).toInt64 &&& 63)).toInt = a.toInt * ((2 ^ j : Nat) : Int) := by
  have hb := c_and t 31 (by decide)
  rw [show (31 : Int32).toInt = 31 by decide] at hb
  generalize t &&& 31 = u at *
  obtain ⟨h1, h2⟩ := hb
  have hu : u = Int32.ofNat u.toInt.toNat := by
    apply Int32.toInt_inj.mp
    rw [Int32.toInt_ofNat_of_lt (by omega)]
    omega
  have hlt : u.toInt.toNat < 32 := by omega
  have hj : u.toInt = (u.toInt.toNat : Int) := by omega
  generalize u.toInt.toNat = j at *
  refine ⟨j, by omega, hj, ?_, fun a => ?_⟩
  · subst hu
    clear hj h1 h2
    revert hlt
    revert j
    decide +kernel
  · have hk : ((Int32.ofNat j).toInt64 &&& 63) = (Int32.ofNat j &&& 0x3f).toInt64 := by
      clear hu hj h1 h2
      revert hlt
      revert j
      decide +kernel
    have hm : (Int32.ofNat j).toBitVec.toNat % 64 = j := by
      clear hu hj h1 h2 hk
      revert hlt
      revert j
      decide +kernel
    have hc := c_lshl a.toInt64 (Int32.ofNat j) j hm
    rw [hu, hk]
    have r := rng64 (a.toInt64 <<< (Int32.ofNat j &&& 0x3f).toInt64)
    rw [c_i2l] at hc
    have a1 := a.toInt_lt
    have a2 := a.le_toInt
    have p : (2 ^ j : Nat) ≤ 2 ^ 31 := Nat.pow_le_pow_right (by decide) (by omega)
    have p0 := Nat.two_pow_pos j
    generalize (2 ^ j : Nat) = P at *
    have q1 : a.toInt * (P : Int) ≤ 2147483648 * P := Int.mul_le_mul_of_nonneg_right (by omega) (by omega)
    have q2 : -2147483648 * (P : Int) ≤ a.toInt * P := Int.mul_le_mul_of_nonneg_right (by omega) (by omega)
    generalize a.toInt * (P : Int) = M at *
    omega
theorem own_pow_d {x : Int64} {j : Nat} (hj : j ≤ 31) (h : x.toInt = ((2 ^ j : Nat) : Int)) : own_D 1 j (FP.l2d x) := by
  have p : (2 ^ j : Nat) ≤ 2 ^ 31 := Nat.pow_le_pow_right (by decide) hj
  have hx : own_D x.toInt 0 (FP.l2d x) := own_d_l2d (by rw [h, Int.natAbs_natCast]; omega)
  rw [h] at hx
  have := own_d_unscale (n := 1) (k := 0) j (by rw [Int.one_mul]; exact hx)
  rw [Int.zero_add] at this
  exact this
/-- a * 2^-(1022 + j) -/
theorem own_mode1 (a : Int32) {x : Int64} {j : Nat} (hj : j ≤ 31) (h : x.toInt = ((2 ^ j : Nat) : Int)) :
    own_D a.toInt (-1022) (FP.dmul (FP.i2d a) (4503599627370496 : UInt64)) ∧ own_D a.toInt (-1022 - j) (FP.ddiv (FP.dmul (FP.i2d a) (4503599627370496 : UInt64)) (FP.l2d x)) ∧
      own_rep (FP.ddiv (FP.dmul (FP.i2d a) (4503599627370496 : UInt64)) (FP.l2d x)) = if ((2 ^ j : Nat) : Int) ≤ a.toInt then 1 else 0 := by
  have a1 := a.toInt_lt
  have a2 := a.le_toInt
  have hc : own_D 1 (-1022) (4503599627370496 : UInt64) := own_d_of (s := false) (c := 4503599627370496) (q := -1074) (by decide +kernel) (by decide +kernel) (Or.inr rfl)
  have hm : own_D a.toInt (-1022) (FP.dmul (FP.i2d a) (4503599627370496 : UInt64)) := by
    have := own_d_mul (own_d_i2d a) hc (by omega) (by omega) (by omega)
    rw [Int.mul_one, Int.zero_add] at this
    exact this
  have hd : own_D a.toInt (-1022 - j) (FP.ddiv (FP.dmul (FP.i2d a) (4503599627370496 : UInt64)) (FP.l2d x)) := by
    refine own_d_div (m := 1) (l := j) (by decide) ?_ (own_pow_d hj h) (by omega) (by omega) (by omega)
    rw [Int.mul_one, show -1022 - (j : Int) + j = -1022 by omega]; exact hm
  refine ⟨hm, hd, ?_⟩
  have hz := own_d_zv hd (by omega)
  rw [show (-1022 - (j : Int) + 1074).toNat = 52 - j by omega] at hz
  have e : (2 ^ j : Nat) * 2 ^ (52 - j) = 2 ^ 52 := by rw [← Nat.pow_add]; congr 1; omega
  have p1 : 0 < (2 ^ (52 - j) : Nat) := Nat.two_pow_pos _
  have p2 : (2 ^ (52 - j) : Nat) ≤ 2 ^ 52 := Nat.pow_le_pow_right (by decide) (by omega)
  have p3 : (2 ^ 84 : Nat) ≤ 2 ^ 2098 := Nat.pow_le_pow_right (by decide) (by decide)
  have e' : ((2 ^ j : Nat) : Int) * ((2 ^ (52 - j) : Nat) : Int) = ((2 ^ 52 : Nat) : Int) := by rw [← Int.natCast_mul, e]
  generalize (2 ^ (52 - j) : Nat) = P at *
  by_cases h0 : ((2 ^ j : Nat) : Int) ≤ a.toInt
  · rw [if_pos h0]
    have q1 : ((2 ^ j : Nat) : Int) * (P : Int) ≤ a.toInt * P := Int.mul_le_mul_of_nonneg_right h0 (by omega)
    have q2 : a.toInt * (P : Int) ≤ 2147483648 * P := Int.mul_le_mul_of_nonneg_right (by omega) (by omega)
    have hp : P ≤ 4503599627370496 := p2
    have hQ : (19342813113834066795298816 : Int) ≤ ((2 ^ 2098 : Nat) : Int) := by decide +kernel
    refine own_rep_one (own_d_ne hd) ?_ ?_
    · rw [hz, ← e']; exact q1
    · rw [hz]
      exact Int.lt_of_lt_of_le (b := 19342813113834066795298816) (by omega) hQ
  · rw [if_neg h0]
    refine own_rep_low (own_d_ne hd) ?_
    rw [hz, ← e']
    exact Int.mul_lt_mul_of_pos_right (by omega) (by omega)
theorem own_c992 : own_D ((2 ^ 53 : Nat) : Int) 939 (9074753249151549440 : UInt64) := own_d_of (s := false) (c := 4503599627370496) (q := 940) (by decide +kernel) (by decide +kernel) (Or.inr (by decide))
/-- a * 2^(992 + j) -/
theorem own_mode2 (a : Int32) {x : Int64} {j : Nat} (hj : j ≤ 31) (h : x.toInt = ((2 ^ j : Nat) : Int)) :
    Jvm.Free.Fl.NoNaN64 (FP.dmul (9074753249151549440 : UInt64) (FP.l2d x)) ∧ Jvm.Free.Fl.NoNaN64 (FP.dmul (FP.i2d a) (FP.dmul (9074753249151549440 : UInt64) (FP.l2d x))) ∧
      own_rep (FP.dmul (FP.i2d a) (FP.dmul (9074753249151549440 : UInt64) (FP.l2d x))) = if 0 < a.toInt ∧ a.toInt * ((2 ^ j : Nat) : Int) < 4294967296 then 1 else 0 := by
  have a1 := a.toInt_lt
  have a2 := a.le_toInt
  have hc : own_D ((2 ^ 53 : Nat) : Int) (939 + j) (FP.dmul (9074753249151549440 : UInt64) (FP.l2d x)) := by
    have := own_d_mul own_c992 (own_pow_d hj h) (by rw [Int.mul_one]; decide) (by omega) (by omega)
    rw [Int.mul_one] at this
    exact this
  have hp := own_dy_prod (own_d_i2d a) hc
  have hv : val64 (FP.dmul (FP.i2d a) (FP.dmul (9074753249151549440 : UInt64) (FP.l2d x))) = round b64 (exactProduct (val64 (FP.i2d a)) (val64 (FP.dmul (9074753249151549440 : UInt64) (FP.l2d x)))) := val64_dmul _ _
  obtain ⟨s, c, q, e⟩ := own_dy_fin hp
  have hn : val64 (FP.dmul (FP.i2d a) (FP.dmul (9074753249151549440 : UInt64) (FP.l2d x))) ≠ .nan := by
    rw [hv, e]; exact roundRatio_ne_nan _ _ _ _ _
  refine ⟨own_d_no hc, Jvm.Free.Fl.val64_no.mpr hn, ?_⟩
  have hk : (0 + (939 + (j : Int)) + 1074).toNat = j + 2013 := by omega
  have hval : a.toInt * ((2 ^ 53 : Nat) : Int) * ((2 ^ (0 + (939 + (j : Int)) + 1074).toNat : Nat) : Int) = (a.toInt * ((2 ^ j : Nat) : Int)) * ((2 ^ 2066 : Nat) : Int) := by
    have e : (2 ^ 53 : Nat) * 2 ^ (j + 2013) = 2 ^ j * 2 ^ 2066 := (Nat.pow_add 2 53 (j + 2013)).symm.trans ((congrArg (fun z => 2 ^ z) (show 53 + (j + 2013) = j + 2066 by omega)).trans (Nat.pow_add 2 j 2066))
    rw [hk, Int.mul_assoc, ← Int.natCast_mul, e, Int.natCast_mul, Int.mul_assoc]
  have p2066 : 0 < (2 ^ 2066 : Nat) := Nat.two_pow_pos _
  have pj : 0 < (2 ^ j : Nat) := Nat.two_pow_pos _
  by_cases h0 : 0 < a.toInt
  · by_cases h1 : a.toInt * ((2 ^ j : Nat) : Int) < 4294967296
    · rw [if_pos ⟨h0, h1⟩]
      refine own_rep_one hn ?_ ?_
      · rw [hv]
        refine own_round_ge hp (by omega) (V := val64 4503599627370496) (val64_fits _) (by decide +kernel) own_zmin ?_
        rw [hval]
        have q1 : 1 * ((2 ^ 2066 : Nat) : Int) ≤ (a.toInt * ((2 ^ j : Nat) : Int)) * ((2 ^ 2066 : Nat) : Int) := Int.mul_le_mul_of_nonneg_right (by
          have := Int.mul_pos h0 (show (0 : Int) < ((2 ^ j : Nat) : Int) by omega); omega) (by omega)
        have q2 : (2 ^ 52 : Nat) ≤ 2 ^ 2066 := Nat.pow_le_pow_right (by decide) (by decide)
        generalize (2 ^ 2066 : Nat) = P at *
        omega
      · rw [hv]
        have hz : zval b64 (.fin false 9007199252643840 971) = ((9007199252643840 * 2 ^ 2045 : Nat) : Int) := by decide +kernel
        refine Int.lt_of_le_of_lt (own_round_le hp (by omega) (V := .fin false 9007199252643840 971) ⟨by decide, by decide, by decide, Or.inr (by decide)⟩ Datum.noConfusion hz ?_) (by decide +kernel)
        rw [hval, show (9007199252643840 * 2 ^ 2045 : Nat) = 4294967295 * 2 ^ 2066 by decide +kernel, Int.natCast_mul]
        exact Int.mul_le_mul_of_nonneg_right (by omega) (by omega)
    · rw [if_neg (fun q => h1 q.2)]
      refine own_rep_high hn ?_
      rw [hv]
      refine own_round_ge hp (by omega) (V := val64 9218868437227405312) (val64_fits _) (by decide +kernel) own_zinf ?_
      rw [hval, show (2 ^ 2098 : Nat) = 4294967296 * 2 ^ 2066 by decide +kernel, Int.natCast_mul]
      exact Int.mul_le_mul_of_nonneg_right (by omega) (by omega)
  · rw [if_neg (fun q => h0 q.1)]
    refine own_rep_low hn (Int.lt_of_le_of_lt ?_ own_p52)
    rw [hv]
    refine own_round_le hp (by omega) (V := val64 0) (val64_fits _) (by decide +kernel) zval64_zero ?_
    rw [hval]
    have q0 : a.toInt * ((2 ^ j : Nat) : Int) ≤ 0 := Int.mul_nonpos_of_nonpos_of_nonneg (by omega) (by omega)
    exact Int.mul_nonpos_of_nonpos_of_nonneg q0 (by omega)
end OwnRep
theorem own_pd__D_Z : parseMethodDescriptor "(D)Z" = some ⟨[.double], some .boolean⟩ := by decide +kernel
theorem own_cmpL_lt {x y : Int64} : XT.cmpL x y < 0 ↔ x.toInt < y.toInt := by
  unfold XT.cmpL
  split
  · rename_i h; rw [Int64.lt_iff_toInt_lt] at h; constructor
    · intro q; exact absurd q (by decide)
    · intro q; omega
  · split
    · rename_i h; subst h; constructor
      · intro q; exact absurd q (by decide)
      · intro q; omega
    · rename_i h1 h2; constructor
      · intro _
        rw [Int64.lt_iff_toInt_lt] at h1
        have : x.toInt ≠ y.toInt := fun q => h2 (Int64.toInt_inj.mp q)
        omega
      · intro _; decide
theorem own_pos {x : Int32} : (0 : Int32) < x ↔ 0 < x.toInt := by rw [Int32.lt_iff_toInt_lt]; rfl
theorem own_neg {x : Int32} : x < (0 : Int32) ↔ x.toInt < 0 := by rw [Int32.lt_iff_toInt_lt]; rfl
theorem d1_0 : decode prog_51_method_2_code 0 = .ok (.dload_n 0, 1) := by decide +kernel
theorem d1_1 : decode prog_51_method_2_code 1 = .ok (.ldc2_w 35, 3) := by decide +kernel
theorem d1_4 : decode prog_51_method_2_code 4 = .ok (.dcmp .l, 1) := by decide +kernel
theorem d1_5 : decode prog_51_method_2_code 5 = .ok (.ifCond .lt 15, 3) := by decide +kernel
theorem d1_8 : decode prog_51_method_2_code 8 = .ok (.dload_n 0, 1) := by decide +kernel
theorem d1_9 : decode prog_51_method_2_code 9 = .ok (.ldc2_w 37, 3) := by decide +kernel
theorem d1_12 : decode prog_51_method_2_code 12 = .ok (.dcmp .g, 1) := by decide +kernel
theorem d1_13 : decode prog_51_method_2_code 13 = .ok (.ifCond .ge 7, 3) := by decide +kernel
theorem d1_16 : decode prog_51_method_2_code 16 = .ok (.iconst 1, 1) := by decide +kernel
theorem d1_17 : decode prog_51_method_2_code 17 = .ok (.goto 4, 3) := by decide +kernel
theorem d1_20 : decode prog_51_method_2_code 20 = .ok (.iconst 0, 1) := by decide +kernel
theorem d1_21 : decode prog_51_method_2_code 21 = .ok (.ireturn, 1) := by decide +kernel
theorem own_pn_com_example_bidfold_bidfold_solve_ReserveLine_Meeting : plainName "com/example/bidfold/bidfold/solve/ReserveLine$Meeting" = true := by first | (simp [plainName, overriddenIn]; done) | decide +kernel
theorem own_ef1 (m : MethodId) (x0 : UInt64) : entryFrame m #[(.double x0)] 2 = mkF m 0 #[.val (.double x0), .second] [] := by first | (simp [entryFrame, mkF, argsToLocals, Value.category]; done) | rfl
def Q1 (x : UInt64) (h0 : Heap) (n0 : Nat) (v : Option Value) (h : Heap) (L : List Loc) : Prop := v = some (.int (own_rep x)) ∧ Fr n0 L ∧ h = h0
set_option maxRecDepth 65536 in
set_option maxHeartbeats 40000000 in
theorem rm1 (l : Launch) (Z : State) (a0 : Array Value) (hw : ∀ d ∈ tables_1, d.before a0 Z = true) (ws : List Jvm.Cond) (x : UInt64)  (h0 : Heap) (n0 : Nat) (Z0 : n0 ≤ h0.size)  :
    MetFree l (⟨"com/example/bidfold/bidfold/solve/ReserveLine$Meeting", "representable", "(D)Z"⟩ : MethodName) (head1 (Jvm.Cond.code (⟨"com/example/bidfold/bidfold/solve/ReserveLine$Meeting", "representable", "(D)Z"⟩ : MethodName) prog_51_method_2_code 2 (some .boolean) :: ws) ({ frames := 0, cells := 0, slots := 0, locals := 0 } : Room)) (fun α U => α = #[(.double x)] ∧ Z.Warmed39 U.vm ∧ U.heap = h0) (fun _ _ _ _ _ => True) (fun _ U ω U' => ∃ ν Λ, ω = .returned ν ∧ Q1 x h0 n0 ν U'.heap Λ ∧ FrameEnd U ω U' Λ ({ frames := 0, cells := 0, slots := 0, locals := 0 } : Room).cells ({ frames := 0, cells := 0, slots := 0, locals := 0 } : Room).slots) := by
  refine MetFree.of_bodySF (plainFor_of_name own_pn_com_example_bidfold_bidfold_solve_ReserveLine_Meeting) hisR ?_
  intro p e s m args below meth c s₁ Bd hml0 hP hK
  obtain ⟨rfl, hZ, hh⟩ := hP
  have hx := Bd.exec
  have hby := Bd.bytes
  have hml : c.maxLocals = 2 := hml0
  have hown : s.vm.findClass "com/example/bidfold/bidfold/solve/ReserveLine$Meeting" = some m.cls := findClass_of_methodNamed Bd.named
  have hnm := (name_of_methodNamed Bd.named Bd.method).1
  have X0 : Stand p l e ({ frames := 0, cells := 0, slots := 0, locals := 0 } : Room) s m #[(.double x)] below meth c s₁ [] 0 0 := Stand.of_body Bd
  have e0 : s₁.heap = h0 := by rw [← hh, Bd.state]; rfl
  have N0 := Fr.nil n0
  have KK0 : Keep h0 h0 [] := Keep.refl h0 []
  have pre0 : ∀ τ, Steps p.tables e below (s₁.setTop (mkF m 0 #[.val (.double x), .second] [])) τ → Steps p.tables e below (s₁.setTop (entryFrame m #[(.double x)] 2)) τ := fun τ κ => castTop (own_ef1 m x) κ
  have pre1 : ∀ τ, Steps p.tables e below (s₁.setTop (mkF m 5 #[.val (.double x), .second] [(.int (cmpValue (FP.dcmp x (4503599627370496 : UInt64)) .l))])) τ → Steps p.tables e below (s₁.setTop (entryFrame m #[(.double x)] 2)) τ := fun τ kt => pre0 τ (by
    show Steps p.tables e below (s₁.setTop (mkF m 0 #[.val (.double x), .second] [])) τ
    refine own_dloadN X0.here hx rfl (hb hby d1_0) rfl ?_
    show Steps p.tables e below (s₁.setTop (mkF m 1 #[.val (.double x), .second] [(.double x)])) τ
    refine X0.ldc2DoubleC hx hown (mvT hZ (hw _ (List.mem_of_getElem? (i := 5) rfl))) (g := (mkF m 1 #[.val (.double x), .second] [(.double x)])) rfl (hb hby d1_1) _ ?_
    show Steps p.tables e below (s₁.setTop (mkF m 4 #[.val (.double x), .second] [(.double (4503599627370496 : UInt64)), (.double x)])) τ
    refine own_dcmp X0.here hx rfl (hb hby d1_4) rfl ?_
    exact kt)
  by_cases q1 : (cmpValue (FP.dcmp x (4503599627370496 : UInt64)) .l) < (0 : Int32)
  · have hr : own_rep x = 0 := if_pos q1
    have pre2 : ∀ τ, Steps p.tables e below (s₁.setTop (mkF m 21 #[.val (.double x), .second] [(.int (0 : Int32))])) τ → Steps p.tables e below (s₁.setTop (entryFrame m #[(.double x)] 2)) τ := fun τ kt => pre1 τ (by
      show Steps p.tables e below (s₁.setTop (mkF m 5 #[.val (.double x), .second] [(.int (cmpValue (FP.dcmp x (4503599627370496 : UInt64)) .l))])) τ
      refine XS.ifYes X0.here hx rfl (pc0 := 5) (pc' := 20) rfl (hb hby d1_5) rfl ((if0 _ _).trans (tlt q1).1) (by decide) (by decide) ?_
      show Steps p.tables e below (s₁.setTop (mkF m 20 #[.val (.double x), .second] [])) τ
      refine XS.iconst X0.here hx rfl (hb hby d1_20) ?_
      exact kt)
    obtain ⟨fs, hrL, hrun, hended, hW, hsame⟩ := X0.leave (v := some (.int (0 : Int32))) (fun h => by rw [Bd.returns] at h; cases h)
    refine ⟨_, _, pre2 _ ?_, hrun, hended, _, _, rfl, ?_, ⟨_, rfl⟩, hW, hsame.mono (by decide) (by decide)⟩
    · show Steps p.tables e below (s₁.setTop (mkF m 21 #[.val (.double x), .second] [(.int (0 : Int32))])) _
      exact retN X0 hx (t := .boolean) Bd.returns (by simp) (hb hby d1_21) hrL
    · show Q1 x h0 n0 _ s₁.heap _
      rw [e0]
      exact ⟨congrArg (fun z => some (Value.int z)) hr.symm, N0, rfl⟩
  · skip
    have pre3 : ∀ τ, Steps p.tables e below (s₁.setTop (mkF m 13 #[.val (.double x), .second] [(.int (cmpValue (FP.dcmp x (9218868437227405312 : UInt64)) .g))])) τ → Steps p.tables e below (s₁.setTop (entryFrame m #[(.double x)] 2)) τ := fun τ kt => pre1 τ (by
      show Steps p.tables e below (s₁.setTop (mkF m 5 #[.val (.double x), .second] [(.int (cmpValue (FP.dcmp x (4503599627370496 : UInt64)) .l))])) τ
      refine XS.ifNo X0.here hx rfl (hb hby d1_5) rfl ((if0 _ _).trans (flt q1).1) ?_
      show Steps p.tables e below (s₁.setTop (mkF m 8 #[.val (.double x), .second] [])) τ
      refine own_dloadN X0.here hx rfl (hb hby d1_8) rfl ?_
      show Steps p.tables e below (s₁.setTop (mkF m 9 #[.val (.double x), .second] [(.double x)])) τ
      refine X0.ldc2DoubleC hx hown (mvT hZ (hw _ (List.mem_of_getElem? (i := 7) rfl))) (g := (mkF m 9 #[.val (.double x), .second] [(.double x)])) rfl (hb hby d1_9) _ ?_
      show Steps p.tables e below (s₁.setTop (mkF m 12 #[.val (.double x), .second] [(.double (9218868437227405312 : UInt64)), (.double x)])) τ
      refine own_dcmp X0.here hx rfl (hb hby d1_12) rfl ?_
      exact kt)
    by_cases q2 : (cmpValue (FP.dcmp x (9218868437227405312 : UInt64)) .g) < (0 : Int32)
    · have hr : own_rep x = 1 := (if_neg q1).trans (if_pos q2)
      have pre4 : ∀ τ, Steps p.tables e below (s₁.setTop (mkF m 21 #[.val (.double x), .second] [(.int (1 : Int32))])) τ → Steps p.tables e below (s₁.setTop (entryFrame m #[(.double x)] 2)) τ := fun τ kt => pre3 τ (by
        show Steps p.tables e below (s₁.setTop (mkF m 13 #[.val (.double x), .second] [(.int (cmpValue (FP.dcmp x (9218868437227405312 : UInt64)) .g))])) τ
        refine XS.ifNo X0.here hx rfl (hb hby d1_13) rfl ((if0 _ _).trans (tlt q2).2.1) ?_
        show Steps p.tables e below (s₁.setTop (mkF m 16 #[.val (.double x), .second] [])) τ
        refine XS.iconst X0.here hx rfl (hb hby d1_16) ?_
        show Steps p.tables e below (s₁.setTop (mkF m 17 #[.val (.double x), .second] [(.int (1 : Int32))])) τ
        refine XS.goto X0.here hx rfl (pc0 := 17) (pc' := 21) rfl (hb hby d1_17) (by decide) (by decide) ?_
        exact kt)
      obtain ⟨fs, hrL, hrun, hended, hW, hsame⟩ := X0.leave (v := some (.int (1 : Int32))) (fun h => by rw [Bd.returns] at h; cases h)
      refine ⟨_, _, pre4 _ ?_, hrun, hended, _, _, rfl, ?_, ⟨_, rfl⟩, hW, hsame.mono (by decide) (by decide)⟩
      · show Steps p.tables e below (s₁.setTop (mkF m 21 #[.val (.double x), .second] [(.int (1 : Int32))])) _
        exact retN X0 hx (t := .boolean) Bd.returns (by simp) (hb hby d1_21) hrL
      · show Q1 x h0 n0 _ s₁.heap _
        rw [e0]
        exact ⟨congrArg (fun z => some (Value.int z)) hr.symm, N0, rfl⟩
    · have hr : own_rep x = 0 := (if_neg q1).trans (if_neg q2)
      have pre5 : ∀ τ, Steps p.tables e below (s₁.setTop (mkF m 21 #[.val (.double x), .second] [(.int (0 : Int32))])) τ → Steps p.tables e below (s₁.setTop (entryFrame m #[(.double x)] 2)) τ := fun τ kt => pre3 τ (by
        show Steps p.tables e below (s₁.setTop (mkF m 13 #[.val (.double x), .second] [(.int (cmpValue (FP.dcmp x (9218868437227405312 : UInt64)) .g))])) τ
        refine XS.ifYes X0.here hx rfl (pc0 := 13) (pc' := 20) rfl (hb hby d1_13) rfl ((if0 _ _).trans (flt q2).2.1) (by decide) (by decide) ?_
        show Steps p.tables e below (s₁.setTop (mkF m 20 #[.val (.double x), .second] [])) τ
        refine XS.iconst X0.here hx rfl (hb hby d1_20) ?_
        exact kt)
      obtain ⟨fs, hrL, hrun, hended, hW, hsame⟩ := X0.leave (v := some (.int (0 : Int32))) (fun h => by rw [Bd.returns] at h; cases h)
      refine ⟨_, _, pre5 _ ?_, hrun, hended, _, _, rfl, ?_, ⟨_, rfl⟩, hW, hsame.mono (by decide) (by decide)⟩
      · show Steps p.tables e below (s₁.setTop (mkF m 21 #[.val (.double x), .second] [(.int (0 : Int32))])) _
        exact retN X0 hx (t := .boolean) Bd.returns (by simp) (hb hby d1_21) hrL
      · show Q1 x h0 n0 _ s₁.heap _
        rw [e0]
        exact ⟨congrArg (fun z => some (Value.int z)) hr.symm, N0, rfl⟩
theorem own_pn_com_example_bidfold_bidfold_solve_MeetingRepresentablePinLaw : plainName "com/example/bidfold/bidfold/solve/MeetingRepresentablePinLaw" = true := by first | (simp [plainName, overriddenIn]; done) | decide +kernel
theorem own_ef0 (m : MethodId) (x0 : Int32) (x1 : Int32) (x2 : Int32) : entryFrame m #[(.int x0), (.int x1), (.int x2)] maxLocals = mkF m 0 #[.val (.int x0), .val (.int x1), .val (.int x2), .unset, .unset, .unset, .unset, .unset] [] := by first | (simp [entryFrame, mkF, argsToLocals, Value.category, maxLocals]; done) | rfl
def Q0 (n0 : Nat) (v : Option Value) (h : Heap) (L : List Loc) : Prop := v = some (.int 1) ∧ Fr n0 L
set_option maxRecDepth 65536 in
set_option maxHeartbeats 40000000 in
theorem rm0 (l : Launch) (Z : State) (a0 : Array Value) (hw : ∀ d ∈ tables_1, d.before a0 Z = true) (ws : List Jvm.Cond) (p1 : Int32) (p2 : Int32) (p3 : Int32)  (h0 : Heap) (n0 : Nat) (Z0 : n0 ≤ h0.size)  :
    MetFree l x (head1 (Jvm.Cond.code x code maxLocals ret :: ws) room_1) (fun α U => α = #[(.int p1), (.int p2), (.int p3)] ∧ Z.Warmed39 U.vm ∧ U.heap = h0) (fun _ _ _ _ _ => True) (fun _ U ω U' => ∃ ν Λ, ω = .returned ν ∧ Q0 n0 ν U'.heap Λ ∧ FrameEnd U ω U' Λ room_1.cells room_1.slots) := by
  refine MetFree.of_bodySF (plainFor_of_name own_pn_com_example_bidfold_bidfold_solve_MeetingRepresentablePinLaw) hisR ?_
  intro p e s m args below meth c s₁ Bd hml0 hP hK
  obtain ⟨rfl, hZ, hh⟩ := hP
  have hx := Bd.exec
  have hby := Bd.bytes
  have hml : c.maxLocals = 8 := hml0
  have hown : s.vm.findClass "com/example/bidfold/bidfold/solve/MeetingRepresentablePinLaw" = some m.cls := findClass_of_methodNamed Bd.named
  have hnm := (name_of_methodNamed Bd.named Bd.method).1
  have X0 : Stand p l e room_1 s m #[(.int p1), (.int p2), (.int p3)] below meth c s₁ [] 0 0 := Stand.of_body Bd
  have e0 : s₁.heap = h0 := by rw [← hh, Bd.state]; rfl
  have N0 := Fr.nil n0
  have KK0 : Keep h0 h0 [] := Keep.refl h0 []
  have pre0 : ∀ τ, Steps p.tables e below (s₁.setTop (mkF m 0 #[.val (.int p1), .val (.int p2), .val (.int p3), .unset, .unset, .unset, .unset, .unset] [])) τ → Steps p.tables e below (s₁.setTop (entryFrame m #[(.int p1), (.int p2), (.int p3)] maxLocals)) τ := fun τ κ => castTop (own_ef0 m p1 p2 p3) κ
  obtain ⟨j, hj, hjt, hj1, hj2⟩ := own_one_shl p2
  have a1 := p1.toInt_lt
  have a2 := p1.le_toInt
  have pre6 : ∀ τ, Steps p.tables e below (s₁.setTop (mkF m 12 #[.val (.int p1), .val (.int p2), .val (.int p3), .val (.int (p2 &&& (31 : Int32))), .val (.int (p3 &&& (3 : Int32))), .unset, .unset, .unset] [(.int (p3 &&& (3 : Int32)))])) τ → Steps p.tables e below (s₁.setTop (entryFrame m #[(.int p1), (.int p2), (.int p3)] maxLocals)) τ := fun τ kt => pre0 τ (by
    show Steps p.tables e below (s₁.setTop (mkF m 0 #[.val (.int p1), .val (.int p2), .val (.int p3), .unset, .unset, .unset, .unset, .unset] [])) τ
    refine XS.iloadN X0.here hx rfl (hb hby at_0) rfl ?_
    show Steps p.tables e below (s₁.setTop (mkF m 1 #[.val (.int p1), .val (.int p2), .val (.int p3), .unset, .unset, .unset, .unset, .unset] [(.int p2)])) τ
    refine XS.bipush X0.here hx rfl (hb hby at_1) ?_
    show Steps p.tables e below (s₁.setTop (mkF m 3 #[.val (.int p1), .val (.int p2), .val (.int p3), .unset, .unset, .unset, .unset, .unset] [(.int (31 : Int32)), (.int p2)])) τ
    refine XS.iand X0.here hx rfl (hb hby at_3) rfl ?_
    show Steps p.tables e below (s₁.setTop (mkF m 4 #[.val (.int p1), .val (.int p2), .val (.int p3), .unset, .unset, .unset, .unset, .unset] [(.int (p2 &&& (31 : Int32)))])) τ
    refine XS.istoreN X0.here hx rfl (hb hby at_4) rfl (l' := #[.val (.int p1), .val (.int p2), .val (.int p3), .val (.int (p2 &&& (31 : Int32))), .unset, .unset, .unset, .unset]) rfl ?_
    show Steps p.tables e below (s₁.setTop (mkF m 5 #[.val (.int p1), .val (.int p2), .val (.int p3), .val (.int (p2 &&& (31 : Int32))), .unset, .unset, .unset, .unset] [])) τ
    refine XS.iloadN X0.here hx rfl (hb hby at_5) rfl ?_
    show Steps p.tables e below (s₁.setTop (mkF m 6 #[.val (.int p1), .val (.int p2), .val (.int p3), .val (.int (p2 &&& (31 : Int32))), .unset, .unset, .unset, .unset] [(.int p3)])) τ
    refine XS.iconst X0.here hx rfl (hb hby at_6) ?_
    show Steps p.tables e below (s₁.setTop (mkF m 7 #[.val (.int p1), .val (.int p2), .val (.int p3), .val (.int (p2 &&& (31 : Int32))), .unset, .unset, .unset, .unset] [(.int (3 : Int32)), (.int p3)])) τ
    refine XS.iand X0.here hx rfl (hb hby at_7) rfl ?_
    show Steps p.tables e below (s₁.setTop (mkF m 8 #[.val (.int p1), .val (.int p2), .val (.int p3), .val (.int (p2 &&& (31 : Int32))), .unset, .unset, .unset, .unset] [(.int (p3 &&& (3 : Int32)))])) τ
    refine XS.istore X0.here hx rfl (hb hby at_8) rfl (l' := #[.val (.int p1), .val (.int p2), .val (.int p3), .val (.int (p2 &&& (31 : Int32))), .val (.int (p3 &&& (3 : Int32))), .unset, .unset, .unset]) rfl ?_
    show Steps p.tables e below (s₁.setTop (mkF m 10 #[.val (.int p1), .val (.int p2), .val (.int p3), .val (.int (p2 &&& (31 : Int32))), .val (.int (p3 &&& (3 : Int32))), .unset, .unset, .unset] [])) τ
    refine XS.iload X0.here hx rfl (hb hby at_10) rfl ?_
    exact kt)
  by_cases m0 : (p3 &&& (3 : Int32)) = (0 : Int32)
  · skip
    have pre7 : ∀ τ, Steps p.tables e below (s₁.setTop (mkF m 20 #[.val (.int p1), .val (.int p2), .val (.int p3), .val (.int (p2 &&& (31 : Int32))), .val (.int (p3 &&& (3 : Int32))), .val (.double (FP.i2d p1)), .second, .unset] [(.int p1)])) τ → Steps p.tables e below (s₁.setTop (entryFrame m #[(.int p1), (.int p2), (.int p3)] maxLocals)) τ := fun τ kt => pre6 τ (by
      show Steps p.tables e below (s₁.setTop (mkF m 12 #[.val (.int p1), .val (.int p2), .val (.int p3), .val (.int (p2 &&& (31 : Int32))), .val (.int (p3 &&& (3 : Int32))), .unset, .unset, .unset] [(.int (p3 &&& (3 : Int32)))])) τ
      refine XS.ifNo X0.here hx rfl (hb hby at_12) rfl ((if0 _ _).trans (teq m0).2) ?_
      show Steps p.tables e below (s₁.setTop (mkF m 15 #[.val (.int p1), .val (.int p2), .val (.int p3), .val (.int (p2 &&& (31 : Int32))), .val (.int (p3 &&& (3 : Int32))), .unset, .unset, .unset] [])) τ
      refine XS.iloadN X0.here hx rfl (hb hby at_15) rfl ?_
      show Steps p.tables e below (s₁.setTop (mkF m 16 #[.val (.int p1), .val (.int p2), .val (.int p3), .val (.int (p2 &&& (31 : Int32))), .val (.int (p3 &&& (3 : Int32))), .unset, .unset, .unset] [(.int p1)])) τ
      refine own_i2d X0.here hx rfl (hb hby at_16) rfl ?_
      show Steps p.tables e below (s₁.setTop (mkF m 17 #[.val (.int p1), .val (.int p2), .val (.int p3), .val (.int (p2 &&& (31 : Int32))), .val (.int (p3 &&& (3 : Int32))), .unset, .unset, .unset] [(.double (FP.i2d p1))])) τ
      refine own_dstore X0.here hx rfl (hb hby at_17) rfl (l' := #[.val (.int p1), .val (.int p2), .val (.int p3), .val (.int (p2 &&& (31 : Int32))), .val (.int (p3 &&& (3 : Int32))), .val (.double (FP.i2d p1)), .second, .unset]) rfl ?_
      show Steps p.tables e below (s₁.setTop (mkF m 19 #[.val (.int p1), .val (.int p2), .val (.int p3), .val (.int (p2 &&& (31 : Int32))), .val (.int (p3 &&& (3 : Int32))), .val (.double (FP.i2d p1)), .second, .unset] [])) τ
      refine XS.iloadN X0.here hx rfl (hb hby at_19) rfl ?_
      exact kt)
    by_cases qa : (0 : Int32) < p1
    · skip
      have pre8 : ∀ τ, Steps p.tables e below (s₁.setTop (mkF m 137 #[.val (.int p1), .val (.int p2), .val (.int p3), .val (.int (p2 &&& (31 : Int32))), .val (.int (p3 &&& (3 : Int32))), .val (.double (FP.i2d p1)), .second, .val (.int (1 : Int32))] [(.double (FP.i2d p1))])) τ → Steps p.tables e below (s₁.setTop (entryFrame m #[(.int p1), (.int p2), (.int p3)] maxLocals)) τ := fun τ kt => pre7 τ (by
        show Steps p.tables e below (s₁.setTop (mkF m 20 #[.val (.int p1), .val (.int p2), .val (.int p3), .val (.int (p2 &&& (31 : Int32))), .val (.int (p3 &&& (3 : Int32))), .val (.double (FP.i2d p1)), .second, .unset] [(.int p1)])) τ
        refine XS.ifNo X0.here hx rfl (hb hby at_20) rfl ((if0 _ _).trans (tlt qa).2.2.2) ?_
        show Steps p.tables e below (s₁.setTop (mkF m 23 #[.val (.int p1), .val (.int p2), .val (.int p3), .val (.int (p2 &&& (31 : Int32))), .val (.int (p3 &&& (3 : Int32))), .val (.double (FP.i2d p1)), .second, .unset] [])) τ
        refine XS.iconst X0.here hx rfl (hb hby at_23) ?_
        show Steps p.tables e below (s₁.setTop (mkF m 24 #[.val (.int p1), .val (.int p2), .val (.int p3), .val (.int (p2 &&& (31 : Int32))), .val (.int (p3 &&& (3 : Int32))), .val (.double (FP.i2d p1)), .second, .unset] [(.int (1 : Int32))])) τ
        refine XS.goto X0.here hx rfl (pc0 := 24) (pc' := 28) rfl (hb hby at_24) (by decide) (by decide) ?_
        show Steps p.tables e below (s₁.setTop (mkF m 28 #[.val (.int p1), .val (.int p2), .val (.int p3), .val (.int (p2 &&& (31 : Int32))), .val (.int (p3 &&& (3 : Int32))), .val (.double (FP.i2d p1)), .second, .unset] [(.int (1 : Int32))])) τ
        refine XS.istore X0.here hx rfl (hb hby at_28) rfl (l' := #[.val (.int p1), .val (.int p2), .val (.int p3), .val (.int (p2 &&& (31 : Int32))), .val (.int (p3 &&& (3 : Int32))), .val (.double (FP.i2d p1)), .second, .val (.int (1 : Int32))]) rfl ?_
        show Steps p.tables e below (s₁.setTop (mkF m 30 #[.val (.int p1), .val (.int p2), .val (.int p3), .val (.int (p2 &&& (31 : Int32))), .val (.int (p3 &&& (3 : Int32))), .val (.double (FP.i2d p1)), .second, .val (.int (1 : Int32))] [])) τ
        refine XS.goto X0.here hx rfl (pc0 := 30) (pc' := 135) rfl (hb hby at_30) (by decide) (by decide) ?_
        show Steps p.tables e below (s₁.setTop (mkF m 135 #[.val (.int p1), .val (.int p2), .val (.int p3), .val (.int (p2 &&& (31 : Int32))), .val (.int (p3 &&& (3 : Int32))), .val (.double (FP.i2d p1)), .second, .val (.int (1 : Int32))] [])) τ
        refine own_dload X0.here hx rfl (hb hby at_135) rfl ?_
        exact kt)
      obtain ⟨_, _, ⟨T9, L9, k9, n9⟩, -, X9, ⟨Lc9, hQ9, l9, y9, z9⟩, st9⟩ := Jvm.LawKit.callS X0 hx (y := (⟨"com/example/bidfold/bidfold/solve/ReserveLine$Meeting", "representable", "(D)Z"⟩ : MethodName)) hown (mvT hZ (hw _ (List.mem_of_getElem? (i := 1) rfl))) (mvT hZ (hw _ (List.mem_of_getElem? (i := 2) rfl))) (mvT hZ (hw _ (List.mem_of_getElem? (i := 3) rfl))) (mvT hZ (hw _ (List.mem_of_getElem? (i := 4) rfl))) (by decide) (backOf (W := 0) (rm1 l Z a0 hw [] (FP.i2d p1) h0 n0 Z0) hZ (hw _ (List.mem_of_getElem? (i := 4) rfl)) (hw _ (List.mem_of_getElem? (i := 3) rfl)) (by decide) (by decide)) (g := (mkF m 137 #[.val (.int p1), .val (.int p2), .val (.int p3), .val (.int (p2 &&& (31 : Int32))), .val (.int (p3 &&& (3 : Int32))), .val (.double (FP.i2d p1)), .second, .val (.int (1 : Int32))] [(.double (FP.i2d p1))])) rfl (by rw [hml]; rfl) (argsL := [(.double (FP.i2d p1))]) (rest := []) (lenOf own_pd__D_Z rfl) rfl (by show 2 * 0 + _ ≤ _; exact Nat.le_of_eq rfl) (hb hby at_137) (fun _ _ => ⟨rfl, e0, (by decide : 0 + 0 ≤ _), (by decide : 0 + 0 ≤ _)⟩)
      dsimp only [Pt.U, Pt.locs, Pt.cells, Pt.slots] at X9 l9 y9 z9 st9 hQ9
      subst l9 y9 z9
      obtain ⟨rfl, Nq9, eq9⟩ := hQ9
      have N9 := Fr.app N0 Nq9
      have pre10 : ∀ τ, Steps p.tables e below (T9.setTop (mkF m 140 #[.val (.int p1), .val (.int p2), .val (.int p3), .val (.int (p2 &&& (31 : Int32))), .val (.int (p3 &&& (3 : Int32))), .val (.double (FP.i2d p1)), .second, .val (.int (1 : Int32))] [(.int (own_rep (FP.i2d p1)))])) τ → Steps p.tables e below (s₁.setTop (entryFrame m #[(.int p1), (.int p2), (.int p3)] maxLocals)) τ := fun τ kt => pre8 τ (st9 τ kt)
      have pre11 : ∀ τ, Steps p.tables e below (T9.setTop (mkF m 150 #[.val (.int p1), .val (.int p2), .val (.int p3), .val (.int (p2 &&& (31 : Int32))), .val (.int (p3 &&& (3 : Int32))), .val (.double (FP.i2d p1)), .second, .val (.int (1 : Int32))] [(.int (1 : Int32))])) τ → Steps p.tables e below (s₁.setTop (entryFrame m #[(.int p1), (.int p2), (.int p3)] maxLocals)) τ := fun τ kt => pre10 τ (by
        show Steps p.tables e below (T9.setTop (mkF m 140 #[.val (.int p1), .val (.int p2), .val (.int p3), .val (.int (p2 &&& (31 : Int32))), .val (.int (p3 &&& (3 : Int32))), .val (.double (FP.i2d p1)), .second, .val (.int (1 : Int32))] [(.int (own_rep (FP.i2d p1)))])) τ
        refine XS.iload X9.here hx rfl (hb hby at_140) rfl ?_
        show Steps p.tables e below (T9.setTop (mkF m 142 #[.val (.int p1), .val (.int p2), .val (.int p3), .val (.int (p2 &&& (31 : Int32))), .val (.int (p3 &&& (3 : Int32))), .val (.double (FP.i2d p1)), .second, .val (.int (1 : Int32))] [(.int (1 : Int32)), (.int (own_rep (FP.i2d p1)))])) τ
        refine XS.icmpNo X9.here hx rfl (hb hby at_142) rfl (teq ((own_rep_whole (own_d_i2d p1) (by omega)).trans (if_pos (own_pos.mp qa)))).2 ?_
        show Steps p.tables e below (T9.setTop (mkF m 145 #[.val (.int p1), .val (.int p2), .val (.int p3), .val (.int (p2 &&& (31 : Int32))), .val (.int (p3 &&& (3 : Int32))), .val (.double (FP.i2d p1)), .second, .val (.int (1 : Int32))] [])) τ
        refine XS.iconst X9.here hx rfl (hb hby at_145) ?_
        show Steps p.tables e below (T9.setTop (mkF m 146 #[.val (.int p1), .val (.int p2), .val (.int p3), .val (.int (p2 &&& (31 : Int32))), .val (.int (p3 &&& (3 : Int32))), .val (.double (FP.i2d p1)), .second, .val (.int (1 : Int32))] [(.int (1 : Int32))])) τ
        refine XS.goto X9.here hx rfl (pc0 := 146) (pc' := 150) rfl (hb hby at_146) (by decide) (by decide) ?_
        exact kt)
      obtain ⟨fs, hrL, hrun, hended, hW, hsame⟩ := X9.leave (v := some (.int (1 : Int32))) (fun h => by rw [Bd.returns] at h; cases h)
      refine ⟨_, _, pre11 _ ?_, hrun, hended, _, _, rfl, ?_, ⟨_, rfl⟩, hW, hsame.mono (by decide) (by decide)⟩
      · show Steps p.tables e below (T9.setTop (mkF m 150 #[.val (.int p1), .val (.int p2), .val (.int p3), .val (.int (p2 &&& (31 : Int32))), .val (.int (p3 &&& (3 : Int32))), .val (.double (FP.i2d p1)), .second, .val (.int (1 : Int32))] [(.int (1 : Int32))])) _
        exact retN X9 hx (t := .boolean) Bd.returns (by simp) (hb hby at_150) hrL
      · show Q0 n0 _ T9.heap _
        exact ⟨rfl, N9⟩
    · skip
      have pre12 : ∀ τ, Steps p.tables e below (s₁.setTop (mkF m 137 #[.val (.int p1), .val (.int p2), .val (.int p3), .val (.int (p2 &&& (31 : Int32))), .val (.int (p3 &&& (3 : Int32))), .val (.double (FP.i2d p1)), .second, .val (.int (0 : Int32))] [(.double (FP.i2d p1))])) τ → Steps p.tables e below (s₁.setTop (entryFrame m #[(.int p1), (.int p2), (.int p3)] maxLocals)) τ := fun τ kt => pre7 τ (by
        show Steps p.tables e below (s₁.setTop (mkF m 20 #[.val (.int p1), .val (.int p2), .val (.int p3), .val (.int (p2 &&& (31 : Int32))), .val (.int (p3 &&& (3 : Int32))), .val (.double (FP.i2d p1)), .second, .unset] [(.int p1)])) τ
        refine XS.ifYes X0.here hx rfl (pc0 := 20) (pc' := 27) rfl (hb hby at_20) rfl ((if0 _ _).trans (flt qa).2.2.2) (by decide) (by decide) ?_
        show Steps p.tables e below (s₁.setTop (mkF m 27 #[.val (.int p1), .val (.int p2), .val (.int p3), .val (.int (p2 &&& (31 : Int32))), .val (.int (p3 &&& (3 : Int32))), .val (.double (FP.i2d p1)), .second, .unset] [])) τ
        refine XS.iconst X0.here hx rfl (hb hby at_27) ?_
        show Steps p.tables e below (s₁.setTop (mkF m 28 #[.val (.int p1), .val (.int p2), .val (.int p3), .val (.int (p2 &&& (31 : Int32))), .val (.int (p3 &&& (3 : Int32))), .val (.double (FP.i2d p1)), .second, .unset] [(.int (0 : Int32))])) τ
        refine XS.istore X0.here hx rfl (hb hby at_28) rfl (l' := #[.val (.int p1), .val (.int p2), .val (.int p3), .val (.int (p2 &&& (31 : Int32))), .val (.int (p3 &&& (3 : Int32))), .val (.double (FP.i2d p1)), .second, .val (.int (0 : Int32))]) rfl ?_
        show Steps p.tables e below (s₁.setTop (mkF m 30 #[.val (.int p1), .val (.int p2), .val (.int p3), .val (.int (p2 &&& (31 : Int32))), .val (.int (p3 &&& (3 : Int32))), .val (.double (FP.i2d p1)), .second, .val (.int (0 : Int32))] [])) τ
        refine XS.goto X0.here hx rfl (pc0 := 30) (pc' := 135) rfl (hb hby at_30) (by decide) (by decide) ?_
        show Steps p.tables e below (s₁.setTop (mkF m 135 #[.val (.int p1), .val (.int p2), .val (.int p3), .val (.int (p2 &&& (31 : Int32))), .val (.int (p3 &&& (3 : Int32))), .val (.double (FP.i2d p1)), .second, .val (.int (0 : Int32))] [])) τ
        refine own_dload X0.here hx rfl (hb hby at_135) rfl ?_
        exact kt)
      obtain ⟨_, _, ⟨T13, L13, k13, n13⟩, -, X13, ⟨Lc13, hQ13, l13, y13, z13⟩, st13⟩ := Jvm.LawKit.callS X0 hx (y := (⟨"com/example/bidfold/bidfold/solve/ReserveLine$Meeting", "representable", "(D)Z"⟩ : MethodName)) hown (mvT hZ (hw _ (List.mem_of_getElem? (i := 1) rfl))) (mvT hZ (hw _ (List.mem_of_getElem? (i := 2) rfl))) (mvT hZ (hw _ (List.mem_of_getElem? (i := 3) rfl))) (mvT hZ (hw _ (List.mem_of_getElem? (i := 4) rfl))) (by decide) (backOf (W := 0) (rm1 l Z a0 hw [] (FP.i2d p1) h0 n0 Z0) hZ (hw _ (List.mem_of_getElem? (i := 4) rfl)) (hw _ (List.mem_of_getElem? (i := 3) rfl)) (by decide) (by decide)) (g := (mkF m 137 #[.val (.int p1), .val (.int p2), .val (.int p3), .val (.int (p2 &&& (31 : Int32))), .val (.int (p3 &&& (3 : Int32))), .val (.double (FP.i2d p1)), .second, .val (.int (0 : Int32))] [(.double (FP.i2d p1))])) rfl (by rw [hml]; rfl) (argsL := [(.double (FP.i2d p1))]) (rest := []) (lenOf own_pd__D_Z rfl) rfl (by show 2 * 0 + _ ≤ _; exact Nat.le_of_eq rfl) (hb hby at_137) (fun _ _ => ⟨rfl, e0, (by decide : 0 + 0 ≤ _), (by decide : 0 + 0 ≤ _)⟩)
      dsimp only [Pt.U, Pt.locs, Pt.cells, Pt.slots] at X13 l13 y13 z13 st13 hQ13
      subst l13 y13 z13
      obtain ⟨rfl, Nq13, eq13⟩ := hQ13
      have N13 := Fr.app N0 Nq13
      have pre14 : ∀ τ, Steps p.tables e below (T13.setTop (mkF m 140 #[.val (.int p1), .val (.int p2), .val (.int p3), .val (.int (p2 &&& (31 : Int32))), .val (.int (p3 &&& (3 : Int32))), .val (.double (FP.i2d p1)), .second, .val (.int (0 : Int32))] [(.int (own_rep (FP.i2d p1)))])) τ → Steps p.tables e below (s₁.setTop (entryFrame m #[(.int p1), (.int p2), (.int p3)] maxLocals)) τ := fun τ kt => pre12 τ (st13 τ kt)
      have pre15 : ∀ τ, Steps p.tables e below (T13.setTop (mkF m 150 #[.val (.int p1), .val (.int p2), .val (.int p3), .val (.int (p2 &&& (31 : Int32))), .val (.int (p3 &&& (3 : Int32))), .val (.double (FP.i2d p1)), .second, .val (.int (0 : Int32))] [(.int (1 : Int32))])) τ → Steps p.tables e below (s₁.setTop (entryFrame m #[(.int p1), (.int p2), (.int p3)] maxLocals)) τ := fun τ kt => pre14 τ (by
        show Steps p.tables e below (T13.setTop (mkF m 140 #[.val (.int p1), .val (.int p2), .val (.int p3), .val (.int (p2 &&& (31 : Int32))), .val (.int (p3 &&& (3 : Int32))), .val (.double (FP.i2d p1)), .second, .val (.int (0 : Int32))] [(.int (own_rep (FP.i2d p1)))])) τ
        refine XS.iload X13.here hx rfl (hb hby at_140) rfl ?_
        show Steps p.tables e below (T13.setTop (mkF m 142 #[.val (.int p1), .val (.int p2), .val (.int p3), .val (.int (p2 &&& (31 : Int32))), .val (.int (p3 &&& (3 : Int32))), .val (.double (FP.i2d p1)), .second, .val (.int (0 : Int32))] [(.int (0 : Int32)), (.int (own_rep (FP.i2d p1)))])) τ
        refine XS.icmpNo X13.here hx rfl (hb hby at_142) rfl (teq ((own_rep_whole (own_d_i2d p1) (by omega)).trans (if_neg fun q => qa (own_pos.mpr q)))).2 ?_
        show Steps p.tables e below (T13.setTop (mkF m 145 #[.val (.int p1), .val (.int p2), .val (.int p3), .val (.int (p2 &&& (31 : Int32))), .val (.int (p3 &&& (3 : Int32))), .val (.double (FP.i2d p1)), .second, .val (.int (0 : Int32))] [])) τ
        refine XS.iconst X13.here hx rfl (hb hby at_145) ?_
        show Steps p.tables e below (T13.setTop (mkF m 146 #[.val (.int p1), .val (.int p2), .val (.int p3), .val (.int (p2 &&& (31 : Int32))), .val (.int (p3 &&& (3 : Int32))), .val (.double (FP.i2d p1)), .second, .val (.int (0 : Int32))] [(.int (1 : Int32))])) τ
        refine XS.goto X13.here hx rfl (pc0 := 146) (pc' := 150) rfl (hb hby at_146) (by decide) (by decide) ?_
        exact kt)
      obtain ⟨fs, hrL, hrun, hended, hW, hsame⟩ := X13.leave (v := some (.int (1 : Int32))) (fun h => by rw [Bd.returns] at h; cases h)
      refine ⟨_, _, pre15 _ ?_, hrun, hended, _, _, rfl, ?_, ⟨_, rfl⟩, hW, hsame.mono (by decide) (by decide)⟩
      · show Steps p.tables e below (T13.setTop (mkF m 150 #[.val (.int p1), .val (.int p2), .val (.int p3), .val (.int (p2 &&& (31 : Int32))), .val (.int (p3 &&& (3 : Int32))), .val (.double (FP.i2d p1)), .second, .val (.int (0 : Int32))] [(.int (1 : Int32))])) _
        exact retN X13 hx (t := .boolean) Bd.returns (by simp) (hb hby at_150) hrL
      · show Q0 n0 _ T13.heap _
        exact ⟨rfl, N13⟩
  · skip
    have pre16 : ∀ τ, Steps p.tables e below (s₁.setTop (mkF m 36 #[.val (.int p1), .val (.int p2), .val (.int p3), .val (.int (p2 &&& (31 : Int32))), .val (.int (p3 &&& (3 : Int32))), .unset, .unset, .unset] [(.int (1 : Int32)), (.int (p3 &&& (3 : Int32)))])) τ → Steps p.tables e below (s₁.setTop (entryFrame m #[(.int p1), (.int p2), (.int p3)] maxLocals)) τ := fun τ kt => pre6 τ (by
      show Steps p.tables e below (s₁.setTop (mkF m 12 #[.val (.int p1), .val (.int p2), .val (.int p3), .val (.int (p2 &&& (31 : Int32))), .val (.int (p3 &&& (3 : Int32))), .unset, .unset, .unset] [(.int (p3 &&& (3 : Int32)))])) τ
      refine XS.ifYes X0.here hx rfl (pc0 := 12) (pc' := 33) rfl (hb hby at_12) rfl ((if0 _ _).trans (feq m0).2) (by decide) (by decide) ?_
      show Steps p.tables e below (s₁.setTop (mkF m 33 #[.val (.int p1), .val (.int p2), .val (.int p3), .val (.int (p2 &&& (31 : Int32))), .val (.int (p3 &&& (3 : Int32))), .unset, .unset, .unset] [])) τ
      refine XS.iload X0.here hx rfl (hb hby at_33) rfl ?_
      show Steps p.tables e below (s₁.setTop (mkF m 35 #[.val (.int p1), .val (.int p2), .val (.int p3), .val (.int (p2 &&& (31 : Int32))), .val (.int (p3 &&& (3 : Int32))), .unset, .unset, .unset] [(.int (p3 &&& (3 : Int32)))])) τ
      refine XS.iconst X0.here hx rfl (hb hby at_35) ?_
      exact kt)
    by_cases m1 : (p3 &&& (3 : Int32)) = (1 : Int32)
    · skip
      obtain ⟨hm, hd, hr⟩ := own_mode1 p1 hj hj1
      have pre17 : ∀ τ, Steps p.tables e below (s₁.setTop (mkF m 53 #[.val (.int p1), .val (.int p2), .val (.int p3), .val (.int (p2 &&& (31 : Int32))), .val (.int (p3 &&& (3 : Int32))), .val (.double (FP.ddiv (FP.dmul (FP.i2d p1) (4503599627370496 : UInt64)) (FP.l2d ((1 : Int64) <<< ((p2 &&& (31 : Int32)).toInt64 &&& 63))))), .second, .unset] [(.int p1)])) τ → Steps p.tables e below (s₁.setTop (entryFrame m #[(.int p1), (.int p2), (.int p3)] maxLocals)) τ := fun τ kt => pre16 τ (by
        show Steps p.tables e below (s₁.setTop (mkF m 36 #[.val (.int p1), .val (.int p2), .val (.int p3), .val (.int (p2 &&& (31 : Int32))), .val (.int (p3 &&& (3 : Int32))), .unset, .unset, .unset] [(.int (1 : Int32)), (.int (p3 &&& (3 : Int32)))])) τ
        refine XS.icmpNo X0.here hx rfl (hb hby at_36) rfl (teq m1).2 ?_
        show Steps p.tables e below (s₁.setTop (mkF m 39 #[.val (.int p1), .val (.int p2), .val (.int p3), .val (.int (p2 &&& (31 : Int32))), .val (.int (p3 &&& (3 : Int32))), .unset, .unset, .unset] [])) τ
        refine XS.iloadN X0.here hx rfl (hb hby at_39) rfl ?_
        show Steps p.tables e below (s₁.setTop (mkF m 40 #[.val (.int p1), .val (.int p2), .val (.int p3), .val (.int (p2 &&& (31 : Int32))), .val (.int (p3 &&& (3 : Int32))), .unset, .unset, .unset] [(.int p1)])) τ
        refine own_i2d X0.here hx rfl (hb hby at_40) rfl ?_
        show Steps p.tables e below (s₁.setTop (mkF m 41 #[.val (.int p1), .val (.int p2), .val (.int p3), .val (.int (p2 &&& (31 : Int32))), .val (.int (p3 &&& (3 : Int32))), .unset, .unset, .unset] [(.double (FP.i2d p1))])) τ
        refine X0.ldc2DoubleC hx hown (mvT hZ (hw _ (List.mem_of_getElem? (i := 6) rfl))) (g := (mkF m 41 #[.val (.int p1), .val (.int p2), .val (.int p3), .val (.int (p2 &&& (31 : Int32))), .val (.int (p3 &&& (3 : Int32))), .unset, .unset, .unset] [(.double (FP.i2d p1))])) rfl (hb hby at_41) _ ?_
        show Steps p.tables e below (s₁.setTop (mkF m 44 #[.val (.int p1), .val (.int p2), .val (.int p3), .val (.int (p2 &&& (31 : Int32))), .val (.int (p3 &&& (3 : Int32))), .unset, .unset, .unset] [(.double (4503599627370496 : UInt64)), (.double (FP.i2d p1))])) τ
        refine own_dmul X0.here hx rfl (hb hby at_44) rfl (own_d_no hm) ?_
        show Steps p.tables e below (s₁.setTop (mkF m 45 #[.val (.int p1), .val (.int p2), .val (.int p3), .val (.int (p2 &&& (31 : Int32))), .val (.int (p3 &&& (3 : Int32))), .unset, .unset, .unset] [(.double (FP.dmul (FP.i2d p1) (4503599627370496 : UInt64)))])) τ
        refine XT.lconst X0.here hx rfl (hb hby at_45) ?_
        show Steps p.tables e below (s₁.setTop (mkF m 46 #[.val (.int p1), .val (.int p2), .val (.int p3), .val (.int (p2 &&& (31 : Int32))), .val (.int (p3 &&& (3 : Int32))), .unset, .unset, .unset] [(.long (1 : Int64)), (.double (FP.dmul (FP.i2d p1) (4503599627370496 : UInt64)))])) τ
        refine XS.iloadN X0.here hx rfl (hb hby at_46) rfl ?_
        show Steps p.tables e below (s₁.setTop (mkF m 47 #[.val (.int p1), .val (.int p2), .val (.int p3), .val (.int (p2 &&& (31 : Int32))), .val (.int (p3 &&& (3 : Int32))), .unset, .unset, .unset] [(.int (p2 &&& (31 : Int32))), (.long (1 : Int64)), (.double (FP.dmul (FP.i2d p1) (4503599627370496 : UInt64)))])) τ
        refine XT.lshl X0.here hx rfl (hb hby at_47) rfl ?_
        show Steps p.tables e below (s₁.setTop (mkF m 48 #[.val (.int p1), .val (.int p2), .val (.int p3), .val (.int (p2 &&& (31 : Int32))), .val (.int (p3 &&& (3 : Int32))), .unset, .unset, .unset] [(.long ((1 : Int64) <<< ((p2 &&& (31 : Int32)).toInt64 &&& 63))), (.double (FP.dmul (FP.i2d p1) (4503599627370496 : UInt64)))])) τ
        refine own_l2d X0.here hx rfl (hb hby at_48) rfl ?_
        show Steps p.tables e below (s₁.setTop (mkF m 49 #[.val (.int p1), .val (.int p2), .val (.int p3), .val (.int (p2 &&& (31 : Int32))), .val (.int (p3 &&& (3 : Int32))), .unset, .unset, .unset] [(.double (FP.l2d ((1 : Int64) <<< ((p2 &&& (31 : Int32)).toInt64 &&& 63)))), (.double (FP.dmul (FP.i2d p1) (4503599627370496 : UInt64)))])) τ
        refine own_ddiv X0.here hx rfl (hb hby at_49) rfl (own_d_no hd) ?_
        show Steps p.tables e below (s₁.setTop (mkF m 50 #[.val (.int p1), .val (.int p2), .val (.int p3), .val (.int (p2 &&& (31 : Int32))), .val (.int (p3 &&& (3 : Int32))), .unset, .unset, .unset] [(.double (FP.ddiv (FP.dmul (FP.i2d p1) (4503599627370496 : UInt64)) (FP.l2d ((1 : Int64) <<< ((p2 &&& (31 : Int32)).toInt64 &&& 63)))))])) τ
        refine own_dstore X0.here hx rfl (hb hby at_50) rfl (l' := #[.val (.int p1), .val (.int p2), .val (.int p3), .val (.int (p2 &&& (31 : Int32))), .val (.int (p3 &&& (3 : Int32))), .val (.double (FP.ddiv (FP.dmul (FP.i2d p1) (4503599627370496 : UInt64)) (FP.l2d ((1 : Int64) <<< ((p2 &&& (31 : Int32)).toInt64 &&& 63))))), .second, .unset]) rfl ?_
        show Steps p.tables e below (s₁.setTop (mkF m 52 #[.val (.int p1), .val (.int p2), .val (.int p3), .val (.int (p2 &&& (31 : Int32))), .val (.int (p3 &&& (3 : Int32))), .val (.double (FP.ddiv (FP.dmul (FP.i2d p1) (4503599627370496 : UInt64)) (FP.l2d ((1 : Int64) <<< ((p2 &&& (31 : Int32)).toInt64 &&& 63))))), .second, .unset] [])) τ
        refine XS.iloadN X0.here hx rfl (hb hby at_52) rfl ?_
        exact kt)
      by_cases qa : (0 : Int32) < p1
      · skip
        have pre18 : ∀ τ, Steps p.tables e below (s₁.setTop (mkF m 62 #[.val (.int p1), .val (.int p2), .val (.int p3), .val (.int (p2 &&& (31 : Int32))), .val (.int (p3 &&& (3 : Int32))), .val (.double (FP.ddiv (FP.dmul (FP.i2d p1) (4503599627370496 : UInt64)) (FP.l2d ((1 : Int64) <<< ((p2 &&& (31 : Int32)).toInt64 &&& 63))))), .second, .unset] [(.int (XT.cmpL (p1).toInt64 ((1 : Int64) <<< ((p2 &&& (31 : Int32)).toInt64 &&& 63))))])) τ → Steps p.tables e below (s₁.setTop (entryFrame m #[(.int p1), (.int p2), (.int p3)] maxLocals)) τ := fun τ kt => pre17 τ (by
          show Steps p.tables e below (s₁.setTop (mkF m 53 #[.val (.int p1), .val (.int p2), .val (.int p3), .val (.int (p2 &&& (31 : Int32))), .val (.int (p3 &&& (3 : Int32))), .val (.double (FP.ddiv (FP.dmul (FP.i2d p1) (4503599627370496 : UInt64)) (FP.l2d ((1 : Int64) <<< ((p2 &&& (31 : Int32)).toInt64 &&& 63))))), .second, .unset] [(.int p1)])) τ
          refine XS.ifNo X0.here hx rfl (hb hby at_53) rfl ((if0 _ _).trans (tlt qa).2.2.2) ?_
          show Steps p.tables e below (s₁.setTop (mkF m 56 #[.val (.int p1), .val (.int p2), .val (.int p3), .val (.int (p2 &&& (31 : Int32))), .val (.int (p3 &&& (3 : Int32))), .val (.double (FP.ddiv (FP.dmul (FP.i2d p1) (4503599627370496 : UInt64)) (FP.l2d ((1 : Int64) <<< ((p2 &&& (31 : Int32)).toInt64 &&& 63))))), .second, .unset] [])) τ
          refine XS.iloadN X0.here hx rfl (hb hby at_56) rfl ?_
          show Steps p.tables e below (s₁.setTop (mkF m 57 #[.val (.int p1), .val (.int p2), .val (.int p3), .val (.int (p2 &&& (31 : Int32))), .val (.int (p3 &&& (3 : Int32))), .val (.double (FP.ddiv (FP.dmul (FP.i2d p1) (4503599627370496 : UInt64)) (FP.l2d ((1 : Int64) <<< ((p2 &&& (31 : Int32)).toInt64 &&& 63))))), .second, .unset] [(.int p1)])) τ
          refine XT.i2l X0.here hx rfl (hb hby at_57) rfl ?_
          show Steps p.tables e below (s₁.setTop (mkF m 58 #[.val (.int p1), .val (.int p2), .val (.int p3), .val (.int (p2 &&& (31 : Int32))), .val (.int (p3 &&& (3 : Int32))), .val (.double (FP.ddiv (FP.dmul (FP.i2d p1) (4503599627370496 : UInt64)) (FP.l2d ((1 : Int64) <<< ((p2 &&& (31 : Int32)).toInt64 &&& 63))))), .second, .unset] [(.long (p1).toInt64)])) τ
          refine XT.lconst X0.here hx rfl (hb hby at_58) ?_
          show Steps p.tables e below (s₁.setTop (mkF m 59 #[.val (.int p1), .val (.int p2), .val (.int p3), .val (.int (p2 &&& (31 : Int32))), .val (.int (p3 &&& (3 : Int32))), .val (.double (FP.ddiv (FP.dmul (FP.i2d p1) (4503599627370496 : UInt64)) (FP.l2d ((1 : Int64) <<< ((p2 &&& (31 : Int32)).toInt64 &&& 63))))), .second, .unset] [(.long (1 : Int64)), (.long (p1).toInt64)])) τ
          refine XS.iloadN X0.here hx rfl (hb hby at_59) rfl ?_
          show Steps p.tables e below (s₁.setTop (mkF m 60 #[.val (.int p1), .val (.int p2), .val (.int p3), .val (.int (p2 &&& (31 : Int32))), .val (.int (p3 &&& (3 : Int32))), .val (.double (FP.ddiv (FP.dmul (FP.i2d p1) (4503599627370496 : UInt64)) (FP.l2d ((1 : Int64) <<< ((p2 &&& (31 : Int32)).toInt64 &&& 63))))), .second, .unset] [(.int (p2 &&& (31 : Int32))), (.long (1 : Int64)), (.long (p1).toInt64)])) τ
          refine XT.lshl X0.here hx rfl (hb hby at_60) rfl ?_
          show Steps p.tables e below (s₁.setTop (mkF m 61 #[.val (.int p1), .val (.int p2), .val (.int p3), .val (.int (p2 &&& (31 : Int32))), .val (.int (p3 &&& (3 : Int32))), .val (.double (FP.ddiv (FP.dmul (FP.i2d p1) (4503599627370496 : UInt64)) (FP.l2d ((1 : Int64) <<< ((p2 &&& (31 : Int32)).toInt64 &&& 63))))), .second, .unset] [(.long ((1 : Int64) <<< ((p2 &&& (31 : Int32)).toInt64 &&& 63))), (.long (p1).toInt64)])) τ
          refine XT.lcmp X0.here hx rfl (hb hby at_61) rfl ?_
          exact kt)
        by_cases qb : (XT.cmpL (p1).toInt64 ((1 : Int64) <<< ((p2 &&& (31 : Int32)).toInt64 &&& 63))) < (0 : Int32)
        · skip
          have pre19 : ∀ τ, Steps p.tables e below (s₁.setTop (mkF m 137 #[.val (.int p1), .val (.int p2), .val (.int p3), .val (.int (p2 &&& (31 : Int32))), .val (.int (p3 &&& (3 : Int32))), .val (.double (FP.ddiv (FP.dmul (FP.i2d p1) (4503599627370496 : UInt64)) (FP.l2d ((1 : Int64) <<< ((p2 &&& (31 : Int32)).toInt64 &&& 63))))), .second, .val (.int (0 : Int32))] [(.double (FP.ddiv (FP.dmul (FP.i2d p1) (4503599627370496 : UInt64)) (FP.l2d ((1 : Int64) <<< ((p2 &&& (31 : Int32)).toInt64 &&& 63)))))])) τ → Steps p.tables e below (s₁.setTop (entryFrame m #[(.int p1), (.int p2), (.int p3)] maxLocals)) τ := fun τ kt => pre18 τ (by
            show Steps p.tables e below (s₁.setTop (mkF m 62 #[.val (.int p1), .val (.int p2), .val (.int p3), .val (.int (p2 &&& (31 : Int32))), .val (.int (p3 &&& (3 : Int32))), .val (.double (FP.ddiv (FP.dmul (FP.i2d p1) (4503599627370496 : UInt64)) (FP.l2d ((1 : Int64) <<< ((p2 &&& (31 : Int32)).toInt64 &&& 63))))), .second, .unset] [(.int (XT.cmpL (p1).toInt64 ((1 : Int64) <<< ((p2 &&& (31 : Int32)).toInt64 &&& 63))))])) τ
            refine XS.ifYes X0.here hx rfl (pc0 := 62) (pc' := 69) rfl (hb hby at_62) rfl ((if0 _ _).trans (tlt qb).1) (by decide) (by decide) ?_
            show Steps p.tables e below (s₁.setTop (mkF m 69 #[.val (.int p1), .val (.int p2), .val (.int p3), .val (.int (p2 &&& (31 : Int32))), .val (.int (p3 &&& (3 : Int32))), .val (.double (FP.ddiv (FP.dmul (FP.i2d p1) (4503599627370496 : UInt64)) (FP.l2d ((1 : Int64) <<< ((p2 &&& (31 : Int32)).toInt64 &&& 63))))), .second, .unset] [])) τ
            refine XS.iconst X0.here hx rfl (hb hby at_69) ?_
            show Steps p.tables e below (s₁.setTop (mkF m 70 #[.val (.int p1), .val (.int p2), .val (.int p3), .val (.int (p2 &&& (31 : Int32))), .val (.int (p3 &&& (3 : Int32))), .val (.double (FP.ddiv (FP.dmul (FP.i2d p1) (4503599627370496 : UInt64)) (FP.l2d ((1 : Int64) <<< ((p2 &&& (31 : Int32)).toInt64 &&& 63))))), .second, .unset] [(.int (0 : Int32))])) τ
            refine XS.istore X0.here hx rfl (hb hby at_70) rfl (l' := #[.val (.int p1), .val (.int p2), .val (.int p3), .val (.int (p2 &&& (31 : Int32))), .val (.int (p3 &&& (3 : Int32))), .val (.double (FP.ddiv (FP.dmul (FP.i2d p1) (4503599627370496 : UInt64)) (FP.l2d ((1 : Int64) <<< ((p2 &&& (31 : Int32)).toInt64 &&& 63))))), .second, .val (.int (0 : Int32))]) rfl ?_
            show Steps p.tables e below (s₁.setTop (mkF m 72 #[.val (.int p1), .val (.int p2), .val (.int p3), .val (.int (p2 &&& (31 : Int32))), .val (.int (p3 &&& (3 : Int32))), .val (.double (FP.ddiv (FP.dmul (FP.i2d p1) (4503599627370496 : UInt64)) (FP.l2d ((1 : Int64) <<< ((p2 &&& (31 : Int32)).toInt64 &&& 63))))), .second, .val (.int (0 : Int32))] [])) τ
            refine XS.goto X0.here hx rfl (pc0 := 72) (pc' := 135) rfl (hb hby at_72) (by decide) (by decide) ?_
            show Steps p.tables e below (s₁.setTop (mkF m 135 #[.val (.int p1), .val (.int p2), .val (.int p3), .val (.int (p2 &&& (31 : Int32))), .val (.int (p3 &&& (3 : Int32))), .val (.double (FP.ddiv (FP.dmul (FP.i2d p1) (4503599627370496 : UInt64)) (FP.l2d ((1 : Int64) <<< ((p2 &&& (31 : Int32)).toInt64 &&& 63))))), .second, .val (.int (0 : Int32))] [])) τ
            refine own_dload X0.here hx rfl (hb hby at_135) rfl ?_
            exact kt)
          obtain ⟨_, _, ⟨T20, L20, k20, n20⟩, -, X20, ⟨Lc20, hQ20, l20, y20, z20⟩, st20⟩ := Jvm.LawKit.callS X0 hx (y := (⟨"com/example/bidfold/bidfold/solve/ReserveLine$Meeting", "representable", "(D)Z"⟩ : MethodName)) hown (mvT hZ (hw _ (List.mem_of_getElem? (i := 1) rfl))) (mvT hZ (hw _ (List.mem_of_getElem? (i := 2) rfl))) (mvT hZ (hw _ (List.mem_of_getElem? (i := 3) rfl))) (mvT hZ (hw _ (List.mem_of_getElem? (i := 4) rfl))) (by decide) (backOf (W := 0) (rm1 l Z a0 hw [] (FP.ddiv (FP.dmul (FP.i2d p1) (4503599627370496 : UInt64)) (FP.l2d ((1 : Int64) <<< ((p2 &&& (31 : Int32)).toInt64 &&& 63)))) h0 n0 Z0) hZ (hw _ (List.mem_of_getElem? (i := 4) rfl)) (hw _ (List.mem_of_getElem? (i := 3) rfl)) (by decide) (by decide)) (g := (mkF m 137 #[.val (.int p1), .val (.int p2), .val (.int p3), .val (.int (p2 &&& (31 : Int32))), .val (.int (p3 &&& (3 : Int32))), .val (.double (FP.ddiv (FP.dmul (FP.i2d p1) (4503599627370496 : UInt64)) (FP.l2d ((1 : Int64) <<< ((p2 &&& (31 : Int32)).toInt64 &&& 63))))), .second, .val (.int (0 : Int32))] [(.double (FP.ddiv (FP.dmul (FP.i2d p1) (4503599627370496 : UInt64)) (FP.l2d ((1 : Int64) <<< ((p2 &&& (31 : Int32)).toInt64 &&& 63)))))])) rfl (by rw [hml]; rfl) (argsL := [(.double (FP.ddiv (FP.dmul (FP.i2d p1) (4503599627370496 : UInt64)) (FP.l2d ((1 : Int64) <<< ((p2 &&& (31 : Int32)).toInt64 &&& 63)))))]) (rest := []) (lenOf own_pd__D_Z rfl) rfl (by show 2 * 0 + _ ≤ _; exact Nat.le_of_eq rfl) (hb hby at_137) (fun _ _ => ⟨rfl, e0, (by decide : 0 + 0 ≤ _), (by decide : 0 + 0 ≤ _)⟩)
          dsimp only [Pt.U, Pt.locs, Pt.cells, Pt.slots] at X20 l20 y20 z20 st20 hQ20
          subst l20 y20 z20
          obtain ⟨rfl, Nq20, eq20⟩ := hQ20
          have N20 := Fr.app N0 Nq20
          have pre21 : ∀ τ, Steps p.tables e below (T20.setTop (mkF m 140 #[.val (.int p1), .val (.int p2), .val (.int p3), .val (.int (p2 &&& (31 : Int32))), .val (.int (p3 &&& (3 : Int32))), .val (.double (FP.ddiv (FP.dmul (FP.i2d p1) (4503599627370496 : UInt64)) (FP.l2d ((1 : Int64) <<< ((p2 &&& (31 : Int32)).toInt64 &&& 63))))), .second, .val (.int (0 : Int32))] [(.int (own_rep (FP.ddiv (FP.dmul (FP.i2d p1) (4503599627370496 : UInt64)) (FP.l2d ((1 : Int64) <<< ((p2 &&& (31 : Int32)).toInt64 &&& 63))))))])) τ → Steps p.tables e below (s₁.setTop (entryFrame m #[(.int p1), (.int p2), (.int p3)] maxLocals)) τ := fun τ kt => pre19 τ (st20 τ kt)
          have pre22 : ∀ τ, Steps p.tables e below (T20.setTop (mkF m 150 #[.val (.int p1), .val (.int p2), .val (.int p3), .val (.int (p2 &&& (31 : Int32))), .val (.int (p3 &&& (3 : Int32))), .val (.double (FP.ddiv (FP.dmul (FP.i2d p1) (4503599627370496 : UInt64)) (FP.l2d ((1 : Int64) <<< ((p2 &&& (31 : Int32)).toInt64 &&& 63))))), .second, .val (.int (0 : Int32))] [(.int (1 : Int32))])) τ → Steps p.tables e below (s₁.setTop (entryFrame m #[(.int p1), (.int p2), (.int p3)] maxLocals)) τ := fun τ kt => pre21 τ (by
            show Steps p.tables e below (T20.setTop (mkF m 140 #[.val (.int p1), .val (.int p2), .val (.int p3), .val (.int (p2 &&& (31 : Int32))), .val (.int (p3 &&& (3 : Int32))), .val (.double (FP.ddiv (FP.dmul (FP.i2d p1) (4503599627370496 : UInt64)) (FP.l2d ((1 : Int64) <<< ((p2 &&& (31 : Int32)).toInt64 &&& 63))))), .second, .val (.int (0 : Int32))] [(.int (own_rep (FP.ddiv (FP.dmul (FP.i2d p1) (4503599627370496 : UInt64)) (FP.l2d ((1 : Int64) <<< ((p2 &&& (31 : Int32)).toInt64 &&& 63))))))])) τ
            refine XS.iload X20.here hx rfl (hb hby at_140) rfl ?_
            show Steps p.tables e below (T20.setTop (mkF m 142 #[.val (.int p1), .val (.int p2), .val (.int p3), .val (.int (p2 &&& (31 : Int32))), .val (.int (p3 &&& (3 : Int32))), .val (.double (FP.ddiv (FP.dmul (FP.i2d p1) (4503599627370496 : UInt64)) (FP.l2d ((1 : Int64) <<< ((p2 &&& (31 : Int32)).toInt64 &&& 63))))), .second, .val (.int (0 : Int32))] [(.int (0 : Int32)), (.int (own_rep (FP.ddiv (FP.dmul (FP.i2d p1) (4503599627370496 : UInt64)) (FP.l2d ((1 : Int64) <<< ((p2 &&& (31 : Int32)).toInt64 &&& 63))))))])) τ
            refine XS.icmpNo X20.here hx rfl (hb hby at_142) rfl (teq (hr.trans (if_neg (by have := own_cmpL_lt.mp qb; rw [c_i2l, hj1] at this; omega)))).2 ?_
            show Steps p.tables e below (T20.setTop (mkF m 145 #[.val (.int p1), .val (.int p2), .val (.int p3), .val (.int (p2 &&& (31 : Int32))), .val (.int (p3 &&& (3 : Int32))), .val (.double (FP.ddiv (FP.dmul (FP.i2d p1) (4503599627370496 : UInt64)) (FP.l2d ((1 : Int64) <<< ((p2 &&& (31 : Int32)).toInt64 &&& 63))))), .second, .val (.int (0 : Int32))] [])) τ
            refine XS.iconst X20.here hx rfl (hb hby at_145) ?_
            show Steps p.tables e below (T20.setTop (mkF m 146 #[.val (.int p1), .val (.int p2), .val (.int p3), .val (.int (p2 &&& (31 : Int32))), .val (.int (p3 &&& (3 : Int32))), .val (.double (FP.ddiv (FP.dmul (FP.i2d p1) (4503599627370496 : UInt64)) (FP.l2d ((1 : Int64) <<< ((p2 &&& (31 : Int32)).toInt64 &&& 63))))), .second, .val (.int (0 : Int32))] [(.int (1 : Int32))])) τ
            refine XS.goto X20.here hx rfl (pc0 := 146) (pc' := 150) rfl (hb hby at_146) (by decide) (by decide) ?_
            exact kt)
          obtain ⟨fs, hrL, hrun, hended, hW, hsame⟩ := X20.leave (v := some (.int (1 : Int32))) (fun h => by rw [Bd.returns] at h; cases h)
          refine ⟨_, _, pre22 _ ?_, hrun, hended, _, _, rfl, ?_, ⟨_, rfl⟩, hW, hsame.mono (by decide) (by decide)⟩
          · show Steps p.tables e below (T20.setTop (mkF m 150 #[.val (.int p1), .val (.int p2), .val (.int p3), .val (.int (p2 &&& (31 : Int32))), .val (.int (p3 &&& (3 : Int32))), .val (.double (FP.ddiv (FP.dmul (FP.i2d p1) (4503599627370496 : UInt64)) (FP.l2d ((1 : Int64) <<< ((p2 &&& (31 : Int32)).toInt64 &&& 63))))), .second, .val (.int (0 : Int32))] [(.int (1 : Int32))])) _
            exact retN X20 hx (t := .boolean) Bd.returns (by simp) (hb hby at_150) hrL
          · show Q0 n0 _ T20.heap _
            exact ⟨rfl, N20⟩
        · skip
          have pre23 : ∀ τ, Steps p.tables e below (s₁.setTop (mkF m 137 #[.val (.int p1), .val (.int p2), .val (.int p3), .val (.int (p2 &&& (31 : Int32))), .val (.int (p3 &&& (3 : Int32))), .val (.double (FP.ddiv (FP.dmul (FP.i2d p1) (4503599627370496 : UInt64)) (FP.l2d ((1 : Int64) <<< ((p2 &&& (31 : Int32)).toInt64 &&& 63))))), .second, .val (.int (1 : Int32))] [(.double (FP.ddiv (FP.dmul (FP.i2d p1) (4503599627370496 : UInt64)) (FP.l2d ((1 : Int64) <<< ((p2 &&& (31 : Int32)).toInt64 &&& 63)))))])) τ → Steps p.tables e below (s₁.setTop (entryFrame m #[(.int p1), (.int p2), (.int p3)] maxLocals)) τ := fun τ kt => pre18 τ (by
            show Steps p.tables e below (s₁.setTop (mkF m 62 #[.val (.int p1), .val (.int p2), .val (.int p3), .val (.int (p2 &&& (31 : Int32))), .val (.int (p3 &&& (3 : Int32))), .val (.double (FP.ddiv (FP.dmul (FP.i2d p1) (4503599627370496 : UInt64)) (FP.l2d ((1 : Int64) <<< ((p2 &&& (31 : Int32)).toInt64 &&& 63))))), .second, .unset] [(.int (XT.cmpL (p1).toInt64 ((1 : Int64) <<< ((p2 &&& (31 : Int32)).toInt64 &&& 63))))])) τ
            refine XS.ifNo X0.here hx rfl (hb hby at_62) rfl ((if0 _ _).trans (flt qb).1) ?_
            show Steps p.tables e below (s₁.setTop (mkF m 65 #[.val (.int p1), .val (.int p2), .val (.int p3), .val (.int (p2 &&& (31 : Int32))), .val (.int (p3 &&& (3 : Int32))), .val (.double (FP.ddiv (FP.dmul (FP.i2d p1) (4503599627370496 : UInt64)) (FP.l2d ((1 : Int64) <<< ((p2 &&& (31 : Int32)).toInt64 &&& 63))))), .second, .unset] [])) τ
            refine XS.iconst X0.here hx rfl (hb hby at_65) ?_
            show Steps p.tables e below (s₁.setTop (mkF m 66 #[.val (.int p1), .val (.int p2), .val (.int p3), .val (.int (p2 &&& (31 : Int32))), .val (.int (p3 &&& (3 : Int32))), .val (.double (FP.ddiv (FP.dmul (FP.i2d p1) (4503599627370496 : UInt64)) (FP.l2d ((1 : Int64) <<< ((p2 &&& (31 : Int32)).toInt64 &&& 63))))), .second, .unset] [(.int (1 : Int32))])) τ
            refine XS.goto X0.here hx rfl (pc0 := 66) (pc' := 70) rfl (hb hby at_66) (by decide) (by decide) ?_
            show Steps p.tables e below (s₁.setTop (mkF m 70 #[.val (.int p1), .val (.int p2), .val (.int p3), .val (.int (p2 &&& (31 : Int32))), .val (.int (p3 &&& (3 : Int32))), .val (.double (FP.ddiv (FP.dmul (FP.i2d p1) (4503599627370496 : UInt64)) (FP.l2d ((1 : Int64) <<< ((p2 &&& (31 : Int32)).toInt64 &&& 63))))), .second, .unset] [(.int (1 : Int32))])) τ
            refine XS.istore X0.here hx rfl (hb hby at_70) rfl (l' := #[.val (.int p1), .val (.int p2), .val (.int p3), .val (.int (p2 &&& (31 : Int32))), .val (.int (p3 &&& (3 : Int32))), .val (.double (FP.ddiv (FP.dmul (FP.i2d p1) (4503599627370496 : UInt64)) (FP.l2d ((1 : Int64) <<< ((p2 &&& (31 : Int32)).toInt64 &&& 63))))), .second, .val (.int (1 : Int32))]) rfl ?_
            show Steps p.tables e below (s₁.setTop (mkF m 72 #[.val (.int p1), .val (.int p2), .val (.int p3), .val (.int (p2 &&& (31 : Int32))), .val (.int (p3 &&& (3 : Int32))), .val (.double (FP.ddiv (FP.dmul (FP.i2d p1) (4503599627370496 : UInt64)) (FP.l2d ((1 : Int64) <<< ((p2 &&& (31 : Int32)).toInt64 &&& 63))))), .second, .val (.int (1 : Int32))] [])) τ
            refine XS.goto X0.here hx rfl (pc0 := 72) (pc' := 135) rfl (hb hby at_72) (by decide) (by decide) ?_
            show Steps p.tables e below (s₁.setTop (mkF m 135 #[.val (.int p1), .val (.int p2), .val (.int p3), .val (.int (p2 &&& (31 : Int32))), .val (.int (p3 &&& (3 : Int32))), .val (.double (FP.ddiv (FP.dmul (FP.i2d p1) (4503599627370496 : UInt64)) (FP.l2d ((1 : Int64) <<< ((p2 &&& (31 : Int32)).toInt64 &&& 63))))), .second, .val (.int (1 : Int32))] [])) τ
            refine own_dload X0.here hx rfl (hb hby at_135) rfl ?_
            exact kt)
          obtain ⟨_, _, ⟨T24, L24, k24, n24⟩, -, X24, ⟨Lc24, hQ24, l24, y24, z24⟩, st24⟩ := Jvm.LawKit.callS X0 hx (y := (⟨"com/example/bidfold/bidfold/solve/ReserveLine$Meeting", "representable", "(D)Z"⟩ : MethodName)) hown (mvT hZ (hw _ (List.mem_of_getElem? (i := 1) rfl))) (mvT hZ (hw _ (List.mem_of_getElem? (i := 2) rfl))) (mvT hZ (hw _ (List.mem_of_getElem? (i := 3) rfl))) (mvT hZ (hw _ (List.mem_of_getElem? (i := 4) rfl))) (by decide) (backOf (W := 0) (rm1 l Z a0 hw [] (FP.ddiv (FP.dmul (FP.i2d p1) (4503599627370496 : UInt64)) (FP.l2d ((1 : Int64) <<< ((p2 &&& (31 : Int32)).toInt64 &&& 63)))) h0 n0 Z0) hZ (hw _ (List.mem_of_getElem? (i := 4) rfl)) (hw _ (List.mem_of_getElem? (i := 3) rfl)) (by decide) (by decide)) (g := (mkF m 137 #[.val (.int p1), .val (.int p2), .val (.int p3), .val (.int (p2 &&& (31 : Int32))), .val (.int (p3 &&& (3 : Int32))), .val (.double (FP.ddiv (FP.dmul (FP.i2d p1) (4503599627370496 : UInt64)) (FP.l2d ((1 : Int64) <<< ((p2 &&& (31 : Int32)).toInt64 &&& 63))))), .second, .val (.int (1 : Int32))] [(.double (FP.ddiv (FP.dmul (FP.i2d p1) (4503599627370496 : UInt64)) (FP.l2d ((1 : Int64) <<< ((p2 &&& (31 : Int32)).toInt64 &&& 63)))))])) rfl (by rw [hml]; rfl) (argsL := [(.double (FP.ddiv (FP.dmul (FP.i2d p1) (4503599627370496 : UInt64)) (FP.l2d ((1 : Int64) <<< ((p2 &&& (31 : Int32)).toInt64 &&& 63)))))]) (rest := []) (lenOf own_pd__D_Z rfl) rfl (by show 2 * 0 + _ ≤ _; exact Nat.le_of_eq rfl) (hb hby at_137) (fun _ _ => ⟨rfl, e0, (by decide : 0 + 0 ≤ _), (by decide : 0 + 0 ≤ _)⟩)
          dsimp only [Pt.U, Pt.locs, Pt.cells, Pt.slots] at X24 l24 y24 z24 st24 hQ24
          subst l24 y24 z24
          obtain ⟨rfl, Nq24, eq24⟩ := hQ24
          have N24 := Fr.app N0 Nq24
          have pre25 : ∀ τ, Steps p.tables e below (T24.setTop (mkF m 140 #[.val (.int p1), .val (.int p2), .val (.int p3), .val (.int (p2 &&& (31 : Int32))), .val (.int (p3 &&& (3 : Int32))), .val (.double (FP.ddiv (FP.dmul (FP.i2d p1) (4503599627370496 : UInt64)) (FP.l2d ((1 : Int64) <<< ((p2 &&& (31 : Int32)).toInt64 &&& 63))))), .second, .val (.int (1 : Int32))] [(.int (own_rep (FP.ddiv (FP.dmul (FP.i2d p1) (4503599627370496 : UInt64)) (FP.l2d ((1 : Int64) <<< ((p2 &&& (31 : Int32)).toInt64 &&& 63))))))])) τ → Steps p.tables e below (s₁.setTop (entryFrame m #[(.int p1), (.int p2), (.int p3)] maxLocals)) τ := fun τ kt => pre23 τ (st24 τ kt)
          have pre26 : ∀ τ, Steps p.tables e below (T24.setTop (mkF m 150 #[.val (.int p1), .val (.int p2), .val (.int p3), .val (.int (p2 &&& (31 : Int32))), .val (.int (p3 &&& (3 : Int32))), .val (.double (FP.ddiv (FP.dmul (FP.i2d p1) (4503599627370496 : UInt64)) (FP.l2d ((1 : Int64) <<< ((p2 &&& (31 : Int32)).toInt64 &&& 63))))), .second, .val (.int (1 : Int32))] [(.int (1 : Int32))])) τ → Steps p.tables e below (s₁.setTop (entryFrame m #[(.int p1), (.int p2), (.int p3)] maxLocals)) τ := fun τ kt => pre25 τ (by
            show Steps p.tables e below (T24.setTop (mkF m 140 #[.val (.int p1), .val (.int p2), .val (.int p3), .val (.int (p2 &&& (31 : Int32))), .val (.int (p3 &&& (3 : Int32))), .val (.double (FP.ddiv (FP.dmul (FP.i2d p1) (4503599627370496 : UInt64)) (FP.l2d ((1 : Int64) <<< ((p2 &&& (31 : Int32)).toInt64 &&& 63))))), .second, .val (.int (1 : Int32))] [(.int (own_rep (FP.ddiv (FP.dmul (FP.i2d p1) (4503599627370496 : UInt64)) (FP.l2d ((1 : Int64) <<< ((p2 &&& (31 : Int32)).toInt64 &&& 63))))))])) τ
            refine XS.iload X24.here hx rfl (hb hby at_140) rfl ?_
            show Steps p.tables e below (T24.setTop (mkF m 142 #[.val (.int p1), .val (.int p2), .val (.int p3), .val (.int (p2 &&& (31 : Int32))), .val (.int (p3 &&& (3 : Int32))), .val (.double (FP.ddiv (FP.dmul (FP.i2d p1) (4503599627370496 : UInt64)) (FP.l2d ((1 : Int64) <<< ((p2 &&& (31 : Int32)).toInt64 &&& 63))))), .second, .val (.int (1 : Int32))] [(.int (1 : Int32)), (.int (own_rep (FP.ddiv (FP.dmul (FP.i2d p1) (4503599627370496 : UInt64)) (FP.l2d ((1 : Int64) <<< ((p2 &&& (31 : Int32)).toInt64 &&& 63))))))])) τ
            refine XS.icmpNo X24.here hx rfl (hb hby at_142) rfl (teq (hr.trans (if_pos (by have : ¬ _ := fun q => qb (own_cmpL_lt.mpr q); rw [c_i2l, hj1] at this; omega)))).2 ?_
            show Steps p.tables e below (T24.setTop (mkF m 145 #[.val (.int p1), .val (.int p2), .val (.int p3), .val (.int (p2 &&& (31 : Int32))), .val (.int (p3 &&& (3 : Int32))), .val (.double (FP.ddiv (FP.dmul (FP.i2d p1) (4503599627370496 : UInt64)) (FP.l2d ((1 : Int64) <<< ((p2 &&& (31 : Int32)).toInt64 &&& 63))))), .second, .val (.int (1 : Int32))] [])) τ
            refine XS.iconst X24.here hx rfl (hb hby at_145) ?_
            show Steps p.tables e below (T24.setTop (mkF m 146 #[.val (.int p1), .val (.int p2), .val (.int p3), .val (.int (p2 &&& (31 : Int32))), .val (.int (p3 &&& (3 : Int32))), .val (.double (FP.ddiv (FP.dmul (FP.i2d p1) (4503599627370496 : UInt64)) (FP.l2d ((1 : Int64) <<< ((p2 &&& (31 : Int32)).toInt64 &&& 63))))), .second, .val (.int (1 : Int32))] [(.int (1 : Int32))])) τ
            refine XS.goto X24.here hx rfl (pc0 := 146) (pc' := 150) rfl (hb hby at_146) (by decide) (by decide) ?_
            exact kt)
          obtain ⟨fs, hrL, hrun, hended, hW, hsame⟩ := X24.leave (v := some (.int (1 : Int32))) (fun h => by rw [Bd.returns] at h; cases h)
          refine ⟨_, _, pre26 _ ?_, hrun, hended, _, _, rfl, ?_, ⟨_, rfl⟩, hW, hsame.mono (by decide) (by decide)⟩
          · show Steps p.tables e below (T24.setTop (mkF m 150 #[.val (.int p1), .val (.int p2), .val (.int p3), .val (.int (p2 &&& (31 : Int32))), .val (.int (p3 &&& (3 : Int32))), .val (.double (FP.ddiv (FP.dmul (FP.i2d p1) (4503599627370496 : UInt64)) (FP.l2d ((1 : Int64) <<< ((p2 &&& (31 : Int32)).toInt64 &&& 63))))), .second, .val (.int (1 : Int32))] [(.int (1 : Int32))])) _
            exact retN X24 hx (t := .boolean) Bd.returns (by simp) (hb hby at_150) hrL
          · show Q0 n0 _ T24.heap _
            exact ⟨rfl, N24⟩
      · skip
        have pre27 : ∀ τ, Steps p.tables e below (s₁.setTop (mkF m 137 #[.val (.int p1), .val (.int p2), .val (.int p3), .val (.int (p2 &&& (31 : Int32))), .val (.int (p3 &&& (3 : Int32))), .val (.double (FP.ddiv (FP.dmul (FP.i2d p1) (4503599627370496 : UInt64)) (FP.l2d ((1 : Int64) <<< ((p2 &&& (31 : Int32)).toInt64 &&& 63))))), .second, .val (.int (0 : Int32))] [(.double (FP.ddiv (FP.dmul (FP.i2d p1) (4503599627370496 : UInt64)) (FP.l2d ((1 : Int64) <<< ((p2 &&& (31 : Int32)).toInt64 &&& 63)))))])) τ → Steps p.tables e below (s₁.setTop (entryFrame m #[(.int p1), (.int p2), (.int p3)] maxLocals)) τ := fun τ kt => pre17 τ (by
          show Steps p.tables e below (s₁.setTop (mkF m 53 #[.val (.int p1), .val (.int p2), .val (.int p3), .val (.int (p2 &&& (31 : Int32))), .val (.int (p3 &&& (3 : Int32))), .val (.double (FP.ddiv (FP.dmul (FP.i2d p1) (4503599627370496 : UInt64)) (FP.l2d ((1 : Int64) <<< ((p2 &&& (31 : Int32)).toInt64 &&& 63))))), .second, .unset] [(.int p1)])) τ
          refine XS.ifYes X0.here hx rfl (pc0 := 53) (pc' := 69) rfl (hb hby at_53) rfl ((if0 _ _).trans (flt qa).2.2.2) (by decide) (by decide) ?_
          show Steps p.tables e below (s₁.setTop (mkF m 69 #[.val (.int p1), .val (.int p2), .val (.int p3), .val (.int (p2 &&& (31 : Int32))), .val (.int (p3 &&& (3 : Int32))), .val (.double (FP.ddiv (FP.dmul (FP.i2d p1) (4503599627370496 : UInt64)) (FP.l2d ((1 : Int64) <<< ((p2 &&& (31 : Int32)).toInt64 &&& 63))))), .second, .unset] [])) τ
          refine XS.iconst X0.here hx rfl (hb hby at_69) ?_
          show Steps p.tables e below (s₁.setTop (mkF m 70 #[.val (.int p1), .val (.int p2), .val (.int p3), .val (.int (p2 &&& (31 : Int32))), .val (.int (p3 &&& (3 : Int32))), .val (.double (FP.ddiv (FP.dmul (FP.i2d p1) (4503599627370496 : UInt64)) (FP.l2d ((1 : Int64) <<< ((p2 &&& (31 : Int32)).toInt64 &&& 63))))), .second, .unset] [(.int (0 : Int32))])) τ
          refine XS.istore X0.here hx rfl (hb hby at_70) rfl (l' := #[.val (.int p1), .val (.int p2), .val (.int p3), .val (.int (p2 &&& (31 : Int32))), .val (.int (p3 &&& (3 : Int32))), .val (.double (FP.ddiv (FP.dmul (FP.i2d p1) (4503599627370496 : UInt64)) (FP.l2d ((1 : Int64) <<< ((p2 &&& (31 : Int32)).toInt64 &&& 63))))), .second, .val (.int (0 : Int32))]) rfl ?_
          show Steps p.tables e below (s₁.setTop (mkF m 72 #[.val (.int p1), .val (.int p2), .val (.int p3), .val (.int (p2 &&& (31 : Int32))), .val (.int (p3 &&& (3 : Int32))), .val (.double (FP.ddiv (FP.dmul (FP.i2d p1) (4503599627370496 : UInt64)) (FP.l2d ((1 : Int64) <<< ((p2 &&& (31 : Int32)).toInt64 &&& 63))))), .second, .val (.int (0 : Int32))] [])) τ
          refine XS.goto X0.here hx rfl (pc0 := 72) (pc' := 135) rfl (hb hby at_72) (by decide) (by decide) ?_
          show Steps p.tables e below (s₁.setTop (mkF m 135 #[.val (.int p1), .val (.int p2), .val (.int p3), .val (.int (p2 &&& (31 : Int32))), .val (.int (p3 &&& (3 : Int32))), .val (.double (FP.ddiv (FP.dmul (FP.i2d p1) (4503599627370496 : UInt64)) (FP.l2d ((1 : Int64) <<< ((p2 &&& (31 : Int32)).toInt64 &&& 63))))), .second, .val (.int (0 : Int32))] [])) τ
          refine own_dload X0.here hx rfl (hb hby at_135) rfl ?_
          exact kt)
        obtain ⟨_, _, ⟨T28, L28, k28, n28⟩, -, X28, ⟨Lc28, hQ28, l28, y28, z28⟩, st28⟩ := Jvm.LawKit.callS X0 hx (y := (⟨"com/example/bidfold/bidfold/solve/ReserveLine$Meeting", "representable", "(D)Z"⟩ : MethodName)) hown (mvT hZ (hw _ (List.mem_of_getElem? (i := 1) rfl))) (mvT hZ (hw _ (List.mem_of_getElem? (i := 2) rfl))) (mvT hZ (hw _ (List.mem_of_getElem? (i := 3) rfl))) (mvT hZ (hw _ (List.mem_of_getElem? (i := 4) rfl))) (by decide) (backOf (W := 0) (rm1 l Z a0 hw [] (FP.ddiv (FP.dmul (FP.i2d p1) (4503599627370496 : UInt64)) (FP.l2d ((1 : Int64) <<< ((p2 &&& (31 : Int32)).toInt64 &&& 63)))) h0 n0 Z0) hZ (hw _ (List.mem_of_getElem? (i := 4) rfl)) (hw _ (List.mem_of_getElem? (i := 3) rfl)) (by decide) (by decide)) (g := (mkF m 137 #[.val (.int p1), .val (.int p2), .val (.int p3), .val (.int (p2 &&& (31 : Int32))), .val (.int (p3 &&& (3 : Int32))), .val (.double (FP.ddiv (FP.dmul (FP.i2d p1) (4503599627370496 : UInt64)) (FP.l2d ((1 : Int64) <<< ((p2 &&& (31 : Int32)).toInt64 &&& 63))))), .second, .val (.int (0 : Int32))] [(.double (FP.ddiv (FP.dmul (FP.i2d p1) (4503599627370496 : UInt64)) (FP.l2d ((1 : Int64) <<< ((p2 &&& (31 : Int32)).toInt64 &&& 63)))))])) rfl (by rw [hml]; rfl) (argsL := [(.double (FP.ddiv (FP.dmul (FP.i2d p1) (4503599627370496 : UInt64)) (FP.l2d ((1 : Int64) <<< ((p2 &&& (31 : Int32)).toInt64 &&& 63)))))]) (rest := []) (lenOf own_pd__D_Z rfl) rfl (by show 2 * 0 + _ ≤ _; exact Nat.le_of_eq rfl) (hb hby at_137) (fun _ _ => ⟨rfl, e0, (by decide : 0 + 0 ≤ _), (by decide : 0 + 0 ≤ _)⟩)
        dsimp only [Pt.U, Pt.locs, Pt.cells, Pt.slots] at X28 l28 y28 z28 st28 hQ28
        subst l28 y28 z28
        obtain ⟨rfl, Nq28, eq28⟩ := hQ28
        have N28 := Fr.app N0 Nq28
        have pre29 : ∀ τ, Steps p.tables e below (T28.setTop (mkF m 140 #[.val (.int p1), .val (.int p2), .val (.int p3), .val (.int (p2 &&& (31 : Int32))), .val (.int (p3 &&& (3 : Int32))), .val (.double (FP.ddiv (FP.dmul (FP.i2d p1) (4503599627370496 : UInt64)) (FP.l2d ((1 : Int64) <<< ((p2 &&& (31 : Int32)).toInt64 &&& 63))))), .second, .val (.int (0 : Int32))] [(.int (own_rep (FP.ddiv (FP.dmul (FP.i2d p1) (4503599627370496 : UInt64)) (FP.l2d ((1 : Int64) <<< ((p2 &&& (31 : Int32)).toInt64 &&& 63))))))])) τ → Steps p.tables e below (s₁.setTop (entryFrame m #[(.int p1), (.int p2), (.int p3)] maxLocals)) τ := fun τ kt => pre27 τ (st28 τ kt)
        have pre30 : ∀ τ, Steps p.tables e below (T28.setTop (mkF m 150 #[.val (.int p1), .val (.int p2), .val (.int p3), .val (.int (p2 &&& (31 : Int32))), .val (.int (p3 &&& (3 : Int32))), .val (.double (FP.ddiv (FP.dmul (FP.i2d p1) (4503599627370496 : UInt64)) (FP.l2d ((1 : Int64) <<< ((p2 &&& (31 : Int32)).toInt64 &&& 63))))), .second, .val (.int (0 : Int32))] [(.int (1 : Int32))])) τ → Steps p.tables e below (s₁.setTop (entryFrame m #[(.int p1), (.int p2), (.int p3)] maxLocals)) τ := fun τ kt => pre29 τ (by
          show Steps p.tables e below (T28.setTop (mkF m 140 #[.val (.int p1), .val (.int p2), .val (.int p3), .val (.int (p2 &&& (31 : Int32))), .val (.int (p3 &&& (3 : Int32))), .val (.double (FP.ddiv (FP.dmul (FP.i2d p1) (4503599627370496 : UInt64)) (FP.l2d ((1 : Int64) <<< ((p2 &&& (31 : Int32)).toInt64 &&& 63))))), .second, .val (.int (0 : Int32))] [(.int (own_rep (FP.ddiv (FP.dmul (FP.i2d p1) (4503599627370496 : UInt64)) (FP.l2d ((1 : Int64) <<< ((p2 &&& (31 : Int32)).toInt64 &&& 63))))))])) τ
          refine XS.iload X28.here hx rfl (hb hby at_140) rfl ?_
          show Steps p.tables e below (T28.setTop (mkF m 142 #[.val (.int p1), .val (.int p2), .val (.int p3), .val (.int (p2 &&& (31 : Int32))), .val (.int (p3 &&& (3 : Int32))), .val (.double (FP.ddiv (FP.dmul (FP.i2d p1) (4503599627370496 : UInt64)) (FP.l2d ((1 : Int64) <<< ((p2 &&& (31 : Int32)).toInt64 &&& 63))))), .second, .val (.int (0 : Int32))] [(.int (0 : Int32)), (.int (own_rep (FP.ddiv (FP.dmul (FP.i2d p1) (4503599627370496 : UInt64)) (FP.l2d ((1 : Int64) <<< ((p2 &&& (31 : Int32)).toInt64 &&& 63))))))])) τ
          refine XS.icmpNo X28.here hx rfl (hb hby at_142) rfl (teq (hr.trans (if_neg (by have : ¬ _ := fun q => qa (own_pos.mpr q); have := Nat.two_pow_pos j; omega)))).2 ?_
          show Steps p.tables e below (T28.setTop (mkF m 145 #[.val (.int p1), .val (.int p2), .val (.int p3), .val (.int (p2 &&& (31 : Int32))), .val (.int (p3 &&& (3 : Int32))), .val (.double (FP.ddiv (FP.dmul (FP.i2d p1) (4503599627370496 : UInt64)) (FP.l2d ((1 : Int64) <<< ((p2 &&& (31 : Int32)).toInt64 &&& 63))))), .second, .val (.int (0 : Int32))] [])) τ
          refine XS.iconst X28.here hx rfl (hb hby at_145) ?_
          show Steps p.tables e below (T28.setTop (mkF m 146 #[.val (.int p1), .val (.int p2), .val (.int p3), .val (.int (p2 &&& (31 : Int32))), .val (.int (p3 &&& (3 : Int32))), .val (.double (FP.ddiv (FP.dmul (FP.i2d p1) (4503599627370496 : UInt64)) (FP.l2d ((1 : Int64) <<< ((p2 &&& (31 : Int32)).toInt64 &&& 63))))), .second, .val (.int (0 : Int32))] [(.int (1 : Int32))])) τ
          refine XS.goto X28.here hx rfl (pc0 := 146) (pc' := 150) rfl (hb hby at_146) (by decide) (by decide) ?_
          exact kt)
        obtain ⟨fs, hrL, hrun, hended, hW, hsame⟩ := X28.leave (v := some (.int (1 : Int32))) (fun h => by rw [Bd.returns] at h; cases h)
        refine ⟨_, _, pre30 _ ?_, hrun, hended, _, _, rfl, ?_, ⟨_, rfl⟩, hW, hsame.mono (by decide) (by decide)⟩
        · show Steps p.tables e below (T28.setTop (mkF m 150 #[.val (.int p1), .val (.int p2), .val (.int p3), .val (.int (p2 &&& (31 : Int32))), .val (.int (p3 &&& (3 : Int32))), .val (.double (FP.ddiv (FP.dmul (FP.i2d p1) (4503599627370496 : UInt64)) (FP.l2d ((1 : Int64) <<< ((p2 &&& (31 : Int32)).toInt64 &&& 63))))), .second, .val (.int (0 : Int32))] [(.int (1 : Int32))])) _
          exact retN X28 hx (t := .boolean) Bd.returns (by simp) (hb hby at_150) hrL
        · show Q0 n0 _ T28.heap _
          exact ⟨rfl, N28⟩
    · skip
      have pre31 : ∀ τ, Steps p.tables e below (s₁.setTop (mkF m 78 #[.val (.int p1), .val (.int p2), .val (.int p3), .val (.int (p2 &&& (31 : Int32))), .val (.int (p3 &&& (3 : Int32))), .unset, .unset, .unset] [(.int (2 : Int32)), (.int (p3 &&& (3 : Int32)))])) τ → Steps p.tables e below (s₁.setTop (entryFrame m #[(.int p1), (.int p2), (.int p3)] maxLocals)) τ := fun τ kt => pre16 τ (by
        show Steps p.tables e below (s₁.setTop (mkF m 36 #[.val (.int p1), .val (.int p2), .val (.int p3), .val (.int (p2 &&& (31 : Int32))), .val (.int (p3 &&& (3 : Int32))), .unset, .unset, .unset] [(.int (1 : Int32)), (.int (p3 &&& (3 : Int32)))])) τ
        refine XS.icmpYes X0.here hx rfl (pc0 := 36) (pc' := 75) rfl (hb hby at_36) rfl (feq m1).2 (by decide) (by decide) ?_
        show Steps p.tables e below (s₁.setTop (mkF m 75 #[.val (.int p1), .val (.int p2), .val (.int p3), .val (.int (p2 &&& (31 : Int32))), .val (.int (p3 &&& (3 : Int32))), .unset, .unset, .unset] [])) τ
        refine XS.iload X0.here hx rfl (hb hby at_75) rfl ?_
        show Steps p.tables e below (s₁.setTop (mkF m 77 #[.val (.int p1), .val (.int p2), .val (.int p3), .val (.int (p2 &&& (31 : Int32))), .val (.int (p3 &&& (3 : Int32))), .unset, .unset, .unset] [(.int (p3 &&& (3 : Int32)))])) τ
        refine XS.iconst X0.here hx rfl (hb hby at_77) ?_
        exact kt)
      by_cases m2 : (p3 &&& (3 : Int32)) = (2 : Int32)
      · skip
        obtain ⟨hm, hd, hr⟩ := own_mode2 p1 hj hj1
        have pre32 : ∀ τ, Steps p.tables e below (s₁.setTop (mkF m 95 #[.val (.int p1), .val (.int p2), .val (.int p3), .val (.int (p2 &&& (31 : Int32))), .val (.int (p3 &&& (3 : Int32))), .val (.double (FP.dmul (FP.i2d p1) (FP.dmul (9074753249151549440 : UInt64) (FP.l2d ((1 : Int64) <<< ((p2 &&& (31 : Int32)).toInt64 &&& 63)))))), .second, .unset] [(.int p1)])) τ → Steps p.tables e below (s₁.setTop (entryFrame m #[(.int p1), (.int p2), (.int p3)] maxLocals)) τ := fun τ kt => pre31 τ (by
          show Steps p.tables e below (s₁.setTop (mkF m 78 #[.val (.int p1), .val (.int p2), .val (.int p3), .val (.int (p2 &&& (31 : Int32))), .val (.int (p3 &&& (3 : Int32))), .unset, .unset, .unset] [(.int (2 : Int32)), (.int (p3 &&& (3 : Int32)))])) τ
          refine XS.icmpNo X0.here hx rfl (hb hby at_78) rfl (teq m2).2 ?_
          show Steps p.tables e below (s₁.setTop (mkF m 81 #[.val (.int p1), .val (.int p2), .val (.int p3), .val (.int (p2 &&& (31 : Int32))), .val (.int (p3 &&& (3 : Int32))), .unset, .unset, .unset] [])) τ
          refine XS.iloadN X0.here hx rfl (hb hby at_81) rfl ?_
          show Steps p.tables e below (s₁.setTop (mkF m 82 #[.val (.int p1), .val (.int p2), .val (.int p3), .val (.int (p2 &&& (31 : Int32))), .val (.int (p3 &&& (3 : Int32))), .unset, .unset, .unset] [(.int p1)])) τ
          refine own_i2d X0.here hx rfl (hb hby at_82) rfl ?_
          show Steps p.tables e below (s₁.setTop (mkF m 83 #[.val (.int p1), .val (.int p2), .val (.int p3), .val (.int (p2 &&& (31 : Int32))), .val (.int (p3 &&& (3 : Int32))), .unset, .unset, .unset] [(.double (FP.i2d p1))])) τ
          refine X0.ldc2DoubleC hx hown (mvT hZ (hw _ (List.mem_of_getElem? (i := 0) rfl))) (g := (mkF m 83 #[.val (.int p1), .val (.int p2), .val (.int p3), .val (.int (p2 &&& (31 : Int32))), .val (.int (p3 &&& (3 : Int32))), .unset, .unset, .unset] [(.double (FP.i2d p1))])) rfl (hb hby at_83) _ ?_
          show Steps p.tables e below (s₁.setTop (mkF m 86 #[.val (.int p1), .val (.int p2), .val (.int p3), .val (.int (p2 &&& (31 : Int32))), .val (.int (p3 &&& (3 : Int32))), .unset, .unset, .unset] [(.double (9074753249151549440 : UInt64)), (.double (FP.i2d p1))])) τ
          refine XT.lconst X0.here hx rfl (hb hby at_86) ?_
          show Steps p.tables e below (s₁.setTop (mkF m 87 #[.val (.int p1), .val (.int p2), .val (.int p3), .val (.int (p2 &&& (31 : Int32))), .val (.int (p3 &&& (3 : Int32))), .unset, .unset, .unset] [(.long (1 : Int64)), (.double (9074753249151549440 : UInt64)), (.double (FP.i2d p1))])) τ
          refine XS.iloadN X0.here hx rfl (hb hby at_87) rfl ?_
          show Steps p.tables e below (s₁.setTop (mkF m 88 #[.val (.int p1), .val (.int p2), .val (.int p3), .val (.int (p2 &&& (31 : Int32))), .val (.int (p3 &&& (3 : Int32))), .unset, .unset, .unset] [(.int (p2 &&& (31 : Int32))), (.long (1 : Int64)), (.double (9074753249151549440 : UInt64)), (.double (FP.i2d p1))])) τ
          refine XT.lshl X0.here hx rfl (hb hby at_88) rfl ?_
          show Steps p.tables e below (s₁.setTop (mkF m 89 #[.val (.int p1), .val (.int p2), .val (.int p3), .val (.int (p2 &&& (31 : Int32))), .val (.int (p3 &&& (3 : Int32))), .unset, .unset, .unset] [(.long ((1 : Int64) <<< ((p2 &&& (31 : Int32)).toInt64 &&& 63))), (.double (9074753249151549440 : UInt64)), (.double (FP.i2d p1))])) τ
          refine own_l2d X0.here hx rfl (hb hby at_89) rfl ?_
          show Steps p.tables e below (s₁.setTop (mkF m 90 #[.val (.int p1), .val (.int p2), .val (.int p3), .val (.int (p2 &&& (31 : Int32))), .val (.int (p3 &&& (3 : Int32))), .unset, .unset, .unset] [(.double (FP.l2d ((1 : Int64) <<< ((p2 &&& (31 : Int32)).toInt64 &&& 63)))), (.double (9074753249151549440 : UInt64)), (.double (FP.i2d p1))])) τ
          refine own_dmul X0.here hx rfl (hb hby at_90) rfl (hm) ?_
          show Steps p.tables e below (s₁.setTop (mkF m 91 #[.val (.int p1), .val (.int p2), .val (.int p3), .val (.int (p2 &&& (31 : Int32))), .val (.int (p3 &&& (3 : Int32))), .unset, .unset, .unset] [(.double (FP.dmul (9074753249151549440 : UInt64) (FP.l2d ((1 : Int64) <<< ((p2 &&& (31 : Int32)).toInt64 &&& 63))))), (.double (FP.i2d p1))])) τ
          refine own_dmul X0.here hx rfl (hb hby at_91) rfl (hd) ?_
          show Steps p.tables e below (s₁.setTop (mkF m 92 #[.val (.int p1), .val (.int p2), .val (.int p3), .val (.int (p2 &&& (31 : Int32))), .val (.int (p3 &&& (3 : Int32))), .unset, .unset, .unset] [(.double (FP.dmul (FP.i2d p1) (FP.dmul (9074753249151549440 : UInt64) (FP.l2d ((1 : Int64) <<< ((p2 &&& (31 : Int32)).toInt64 &&& 63))))))])) τ
          refine own_dstore X0.here hx rfl (hb hby at_92) rfl (l' := #[.val (.int p1), .val (.int p2), .val (.int p3), .val (.int (p2 &&& (31 : Int32))), .val (.int (p3 &&& (3 : Int32))), .val (.double (FP.dmul (FP.i2d p1) (FP.dmul (9074753249151549440 : UInt64) (FP.l2d ((1 : Int64) <<< ((p2 &&& (31 : Int32)).toInt64 &&& 63)))))), .second, .unset]) rfl ?_
          show Steps p.tables e below (s₁.setTop (mkF m 94 #[.val (.int p1), .val (.int p2), .val (.int p3), .val (.int (p2 &&& (31 : Int32))), .val (.int (p3 &&& (3 : Int32))), .val (.double (FP.dmul (FP.i2d p1) (FP.dmul (9074753249151549440 : UInt64) (FP.l2d ((1 : Int64) <<< ((p2 &&& (31 : Int32)).toInt64 &&& 63)))))), .second, .unset] [])) τ
          refine XS.iloadN X0.here hx rfl (hb hby at_94) rfl ?_
          exact kt)
        by_cases qa : (0 : Int32) < p1
        · skip
          have pre33 : ∀ τ, Steps p.tables e below (s₁.setTop (mkF m 106 #[.val (.int p1), .val (.int p2), .val (.int p3), .val (.int (p2 &&& (31 : Int32))), .val (.int (p3 &&& (3 : Int32))), .val (.double (FP.dmul (FP.i2d p1) (FP.dmul (9074753249151549440 : UInt64) (FP.l2d ((1 : Int64) <<< ((p2 &&& (31 : Int32)).toInt64 &&& 63)))))), .second, .unset] [(.int (XT.cmpL ((p1).toInt64 <<< ((p2 &&& (31 : Int32)).toInt64 &&& 63)) (4294967296 : Int64)))])) τ → Steps p.tables e below (s₁.setTop (entryFrame m #[(.int p1), (.int p2), (.int p3)] maxLocals)) τ := fun τ kt => pre32 τ (by
            show Steps p.tables e below (s₁.setTop (mkF m 95 #[.val (.int p1), .val (.int p2), .val (.int p3), .val (.int (p2 &&& (31 : Int32))), .val (.int (p3 &&& (3 : Int32))), .val (.double (FP.dmul (FP.i2d p1) (FP.dmul (9074753249151549440 : UInt64) (FP.l2d ((1 : Int64) <<< ((p2 &&& (31 : Int32)).toInt64 &&& 63)))))), .second, .unset] [(.int p1)])) τ
            refine XS.ifNo X0.here hx rfl (hb hby at_95) rfl ((if0 _ _).trans (tlt qa).2.2.2) ?_
            show Steps p.tables e below (s₁.setTop (mkF m 98 #[.val (.int p1), .val (.int p2), .val (.int p3), .val (.int (p2 &&& (31 : Int32))), .val (.int (p3 &&& (3 : Int32))), .val (.double (FP.dmul (FP.i2d p1) (FP.dmul (9074753249151549440 : UInt64) (FP.l2d ((1 : Int64) <<< ((p2 &&& (31 : Int32)).toInt64 &&& 63)))))), .second, .unset] [])) τ
            refine XS.iloadN X0.here hx rfl (hb hby at_98) rfl ?_
            show Steps p.tables e below (s₁.setTop (mkF m 99 #[.val (.int p1), .val (.int p2), .val (.int p3), .val (.int (p2 &&& (31 : Int32))), .val (.int (p3 &&& (3 : Int32))), .val (.double (FP.dmul (FP.i2d p1) (FP.dmul (9074753249151549440 : UInt64) (FP.l2d ((1 : Int64) <<< ((p2 &&& (31 : Int32)).toInt64 &&& 63)))))), .second, .unset] [(.int p1)])) τ
            refine XT.i2l X0.here hx rfl (hb hby at_99) rfl ?_
            show Steps p.tables e below (s₁.setTop (mkF m 100 #[.val (.int p1), .val (.int p2), .val (.int p3), .val (.int (p2 &&& (31 : Int32))), .val (.int (p3 &&& (3 : Int32))), .val (.double (FP.dmul (FP.i2d p1) (FP.dmul (9074753249151549440 : UInt64) (FP.l2d ((1 : Int64) <<< ((p2 &&& (31 : Int32)).toInt64 &&& 63)))))), .second, .unset] [(.long (p1).toInt64)])) τ
            refine XS.iloadN X0.here hx rfl (hb hby at_100) rfl ?_
            show Steps p.tables e below (s₁.setTop (mkF m 101 #[.val (.int p1), .val (.int p2), .val (.int p3), .val (.int (p2 &&& (31 : Int32))), .val (.int (p3 &&& (3 : Int32))), .val (.double (FP.dmul (FP.i2d p1) (FP.dmul (9074753249151549440 : UInt64) (FP.l2d ((1 : Int64) <<< ((p2 &&& (31 : Int32)).toInt64 &&& 63)))))), .second, .unset] [(.int (p2 &&& (31 : Int32))), (.long (p1).toInt64)])) τ
            refine XT.lshl X0.here hx rfl (hb hby at_101) rfl ?_
            show Steps p.tables e below (s₁.setTop (mkF m 102 #[.val (.int p1), .val (.int p2), .val (.int p3), .val (.int (p2 &&& (31 : Int32))), .val (.int (p3 &&& (3 : Int32))), .val (.double (FP.dmul (FP.i2d p1) (FP.dmul (9074753249151549440 : UInt64) (FP.l2d ((1 : Int64) <<< ((p2 &&& (31 : Int32)).toInt64 &&& 63)))))), .second, .unset] [(.long ((p1).toInt64 <<< ((p2 &&& (31 : Int32)).toInt64 &&& 63)))])) τ
            refine X0.ldc2Long hx hown (mvT hZ (hw _ (List.mem_of_getElem? (i := 8) rfl))) (g := (mkF m 102 #[.val (.int p1), .val (.int p2), .val (.int p3), .val (.int (p2 &&& (31 : Int32))), .val (.int (p3 &&& (3 : Int32))), .val (.double (FP.dmul (FP.i2d p1) (FP.dmul (9074753249151549440 : UInt64) (FP.l2d ((1 : Int64) <<< ((p2 &&& (31 : Int32)).toInt64 &&& 63)))))), .second, .unset] [(.long ((p1).toInt64 <<< ((p2 &&& (31 : Int32)).toInt64 &&& 63)))])) rfl (hb hby at_102) _ ?_
            show Steps p.tables e below (s₁.setTop (mkF m 105 #[.val (.int p1), .val (.int p2), .val (.int p3), .val (.int (p2 &&& (31 : Int32))), .val (.int (p3 &&& (3 : Int32))), .val (.double (FP.dmul (FP.i2d p1) (FP.dmul (9074753249151549440 : UInt64) (FP.l2d ((1 : Int64) <<< ((p2 &&& (31 : Int32)).toInt64 &&& 63)))))), .second, .unset] [(.long (4294967296 : Int64)), (.long ((p1).toInt64 <<< ((p2 &&& (31 : Int32)).toInt64 &&& 63)))])) τ
            refine XT.lcmp X0.here hx rfl (hb hby at_105) rfl ?_
            exact kt)
          by_cases qb : (XT.cmpL ((p1).toInt64 <<< ((p2 &&& (31 : Int32)).toInt64 &&& 63)) (4294967296 : Int64)) < (0 : Int32)
          · skip
            have pre34 : ∀ τ, Steps p.tables e below (s₁.setTop (mkF m 137 #[.val (.int p1), .val (.int p2), .val (.int p3), .val (.int (p2 &&& (31 : Int32))), .val (.int (p3 &&& (3 : Int32))), .val (.double (FP.dmul (FP.i2d p1) (FP.dmul (9074753249151549440 : UInt64) (FP.l2d ((1 : Int64) <<< ((p2 &&& (31 : Int32)).toInt64 &&& 63)))))), .second, .val (.int (1 : Int32))] [(.double (FP.dmul (FP.i2d p1) (FP.dmul (9074753249151549440 : UInt64) (FP.l2d ((1 : Int64) <<< ((p2 &&& (31 : Int32)).toInt64 &&& 63))))))])) τ → Steps p.tables e below (s₁.setTop (entryFrame m #[(.int p1), (.int p2), (.int p3)] maxLocals)) τ := fun τ kt => pre33 τ (by
              show Steps p.tables e below (s₁.setTop (mkF m 106 #[.val (.int p1), .val (.int p2), .val (.int p3), .val (.int (p2 &&& (31 : Int32))), .val (.int (p3 &&& (3 : Int32))), .val (.double (FP.dmul (FP.i2d p1) (FP.dmul (9074753249151549440 : UInt64) (FP.l2d ((1 : Int64) <<< ((p2 &&& (31 : Int32)).toInt64 &&& 63)))))), .second, .unset] [(.int (XT.cmpL ((p1).toInt64 <<< ((p2 &&& (31 : Int32)).toInt64 &&& 63)) (4294967296 : Int64)))])) τ
              refine XS.ifNo X0.here hx rfl (hb hby at_106) rfl ((if0 _ _).trans (tlt qb).2.1) ?_
              show Steps p.tables e below (s₁.setTop (mkF m 109 #[.val (.int p1), .val (.int p2), .val (.int p3), .val (.int (p2 &&& (31 : Int32))), .val (.int (p3 &&& (3 : Int32))), .val (.double (FP.dmul (FP.i2d p1) (FP.dmul (9074753249151549440 : UInt64) (FP.l2d ((1 : Int64) <<< ((p2 &&& (31 : Int32)).toInt64 &&& 63)))))), .second, .unset] [])) τ
              refine XS.iconst X0.here hx rfl (hb hby at_109) ?_
              show Steps p.tables e below (s₁.setTop (mkF m 110 #[.val (.int p1), .val (.int p2), .val (.int p3), .val (.int (p2 &&& (31 : Int32))), .val (.int (p3 &&& (3 : Int32))), .val (.double (FP.dmul (FP.i2d p1) (FP.dmul (9074753249151549440 : UInt64) (FP.l2d ((1 : Int64) <<< ((p2 &&& (31 : Int32)).toInt64 &&& 63)))))), .second, .unset] [(.int (1 : Int32))])) τ
              refine XS.goto X0.here hx rfl (pc0 := 110) (pc' := 114) rfl (hb hby at_110) (by decide) (by decide) ?_
              show Steps p.tables e below (s₁.setTop (mkF m 114 #[.val (.int p1), .val (.int p2), .val (.int p3), .val (.int (p2 &&& (31 : Int32))), .val (.int (p3 &&& (3 : Int32))), .val (.double (FP.dmul (FP.i2d p1) (FP.dmul (9074753249151549440 : UInt64) (FP.l2d ((1 : Int64) <<< ((p2 &&& (31 : Int32)).toInt64 &&& 63)))))), .second, .unset] [(.int (1 : Int32))])) τ
              refine XS.istore X0.here hx rfl (hb hby at_114) rfl (l' := #[.val (.int p1), .val (.int p2), .val (.int p3), .val (.int (p2 &&& (31 : Int32))), .val (.int (p3 &&& (3 : Int32))), .val (.double (FP.dmul (FP.i2d p1) (FP.dmul (9074753249151549440 : UInt64) (FP.l2d ((1 : Int64) <<< ((p2 &&& (31 : Int32)).toInt64 &&& 63)))))), .second, .val (.int (1 : Int32))]) rfl ?_
              show Steps p.tables e below (s₁.setTop (mkF m 116 #[.val (.int p1), .val (.int p2), .val (.int p3), .val (.int (p2 &&& (31 : Int32))), .val (.int (p3 &&& (3 : Int32))), .val (.double (FP.dmul (FP.i2d p1) (FP.dmul (9074753249151549440 : UInt64) (FP.l2d ((1 : Int64) <<< ((p2 &&& (31 : Int32)).toInt64 &&& 63)))))), .second, .val (.int (1 : Int32))] [])) τ
              refine XS.goto X0.here hx rfl (pc0 := 116) (pc' := 135) rfl (hb hby at_116) (by decide) (by decide) ?_
              show Steps p.tables e below (s₁.setTop (mkF m 135 #[.val (.int p1), .val (.int p2), .val (.int p3), .val (.int (p2 &&& (31 : Int32))), .val (.int (p3 &&& (3 : Int32))), .val (.double (FP.dmul (FP.i2d p1) (FP.dmul (9074753249151549440 : UInt64) (FP.l2d ((1 : Int64) <<< ((p2 &&& (31 : Int32)).toInt64 &&& 63)))))), .second, .val (.int (1 : Int32))] [])) τ
              refine own_dload X0.here hx rfl (hb hby at_135) rfl ?_
              exact kt)
            obtain ⟨_, _, ⟨T35, L35, k35, n35⟩, -, X35, ⟨Lc35, hQ35, l35, y35, z35⟩, st35⟩ := Jvm.LawKit.callS X0 hx (y := (⟨"com/example/bidfold/bidfold/solve/ReserveLine$Meeting", "representable", "(D)Z"⟩ : MethodName)) hown (mvT hZ (hw _ (List.mem_of_getElem? (i := 1) rfl))) (mvT hZ (hw _ (List.mem_of_getElem? (i := 2) rfl))) (mvT hZ (hw _ (List.mem_of_getElem? (i := 3) rfl))) (mvT hZ (hw _ (List.mem_of_getElem? (i := 4) rfl))) (by decide) (backOf (W := 0) (rm1 l Z a0 hw [] (FP.dmul (FP.i2d p1) (FP.dmul (9074753249151549440 : UInt64) (FP.l2d ((1 : Int64) <<< ((p2 &&& (31 : Int32)).toInt64 &&& 63))))) h0 n0 Z0) hZ (hw _ (List.mem_of_getElem? (i := 4) rfl)) (hw _ (List.mem_of_getElem? (i := 3) rfl)) (by decide) (by decide)) (g := (mkF m 137 #[.val (.int p1), .val (.int p2), .val (.int p3), .val (.int (p2 &&& (31 : Int32))), .val (.int (p3 &&& (3 : Int32))), .val (.double (FP.dmul (FP.i2d p1) (FP.dmul (9074753249151549440 : UInt64) (FP.l2d ((1 : Int64) <<< ((p2 &&& (31 : Int32)).toInt64 &&& 63)))))), .second, .val (.int (1 : Int32))] [(.double (FP.dmul (FP.i2d p1) (FP.dmul (9074753249151549440 : UInt64) (FP.l2d ((1 : Int64) <<< ((p2 &&& (31 : Int32)).toInt64 &&& 63))))))])) rfl (by rw [hml]; rfl) (argsL := [(.double (FP.dmul (FP.i2d p1) (FP.dmul (9074753249151549440 : UInt64) (FP.l2d ((1 : Int64) <<< ((p2 &&& (31 : Int32)).toInt64 &&& 63))))))]) (rest := []) (lenOf own_pd__D_Z rfl) rfl (by show 2 * 0 + _ ≤ _; exact Nat.le_of_eq rfl) (hb hby at_137) (fun _ _ => ⟨rfl, e0, (by decide : 0 + 0 ≤ _), (by decide : 0 + 0 ≤ _)⟩)
            dsimp only [Pt.U, Pt.locs, Pt.cells, Pt.slots] at X35 l35 y35 z35 st35 hQ35
            subst l35 y35 z35
            obtain ⟨rfl, Nq35, eq35⟩ := hQ35
            have N35 := Fr.app N0 Nq35
            have pre36 : ∀ τ, Steps p.tables e below (T35.setTop (mkF m 140 #[.val (.int p1), .val (.int p2), .val (.int p3), .val (.int (p2 &&& (31 : Int32))), .val (.int (p3 &&& (3 : Int32))), .val (.double (FP.dmul (FP.i2d p1) (FP.dmul (9074753249151549440 : UInt64) (FP.l2d ((1 : Int64) <<< ((p2 &&& (31 : Int32)).toInt64 &&& 63)))))), .second, .val (.int (1 : Int32))] [(.int (own_rep (FP.dmul (FP.i2d p1) (FP.dmul (9074753249151549440 : UInt64) (FP.l2d ((1 : Int64) <<< ((p2 &&& (31 : Int32)).toInt64 &&& 63)))))))])) τ → Steps p.tables e below (s₁.setTop (entryFrame m #[(.int p1), (.int p2), (.int p3)] maxLocals)) τ := fun τ kt => pre34 τ (st35 τ kt)
            have pre37 : ∀ τ, Steps p.tables e below (T35.setTop (mkF m 150 #[.val (.int p1), .val (.int p2), .val (.int p3), .val (.int (p2 &&& (31 : Int32))), .val (.int (p3 &&& (3 : Int32))), .val (.double (FP.dmul (FP.i2d p1) (FP.dmul (9074753249151549440 : UInt64) (FP.l2d ((1 : Int64) <<< ((p2 &&& (31 : Int32)).toInt64 &&& 63)))))), .second, .val (.int (1 : Int32))] [(.int (1 : Int32))])) τ → Steps p.tables e below (s₁.setTop (entryFrame m #[(.int p1), (.int p2), (.int p3)] maxLocals)) τ := fun τ kt => pre36 τ (by
              show Steps p.tables e below (T35.setTop (mkF m 140 #[.val (.int p1), .val (.int p2), .val (.int p3), .val (.int (p2 &&& (31 : Int32))), .val (.int (p3 &&& (3 : Int32))), .val (.double (FP.dmul (FP.i2d p1) (FP.dmul (9074753249151549440 : UInt64) (FP.l2d ((1 : Int64) <<< ((p2 &&& (31 : Int32)).toInt64 &&& 63)))))), .second, .val (.int (1 : Int32))] [(.int (own_rep (FP.dmul (FP.i2d p1) (FP.dmul (9074753249151549440 : UInt64) (FP.l2d ((1 : Int64) <<< ((p2 &&& (31 : Int32)).toInt64 &&& 63)))))))])) τ
              refine XS.iload X35.here hx rfl (hb hby at_140) rfl ?_
              show Steps p.tables e below (T35.setTop (mkF m 142 #[.val (.int p1), .val (.int p2), .val (.int p3), .val (.int (p2 &&& (31 : Int32))), .val (.int (p3 &&& (3 : Int32))), .val (.double (FP.dmul (FP.i2d p1) (FP.dmul (9074753249151549440 : UInt64) (FP.l2d ((1 : Int64) <<< ((p2 &&& (31 : Int32)).toInt64 &&& 63)))))), .second, .val (.int (1 : Int32))] [(.int (1 : Int32)), (.int (own_rep (FP.dmul (FP.i2d p1) (FP.dmul (9074753249151549440 : UInt64) (FP.l2d ((1 : Int64) <<< ((p2 &&& (31 : Int32)).toInt64 &&& 63)))))))])) τ
              refine XS.icmpNo X35.here hx rfl (hb hby at_142) rfl (teq (hr.trans (if_pos ⟨own_pos.mp qa, by have := own_cmpL_lt.mp qb; rw [hj2] at this; exact this⟩))).2 ?_
              show Steps p.tables e below (T35.setTop (mkF m 145 #[.val (.int p1), .val (.int p2), .val (.int p3), .val (.int (p2 &&& (31 : Int32))), .val (.int (p3 &&& (3 : Int32))), .val (.double (FP.dmul (FP.i2d p1) (FP.dmul (9074753249151549440 : UInt64) (FP.l2d ((1 : Int64) <<< ((p2 &&& (31 : Int32)).toInt64 &&& 63)))))), .second, .val (.int (1 : Int32))] [])) τ
              refine XS.iconst X35.here hx rfl (hb hby at_145) ?_
              show Steps p.tables e below (T35.setTop (mkF m 146 #[.val (.int p1), .val (.int p2), .val (.int p3), .val (.int (p2 &&& (31 : Int32))), .val (.int (p3 &&& (3 : Int32))), .val (.double (FP.dmul (FP.i2d p1) (FP.dmul (9074753249151549440 : UInt64) (FP.l2d ((1 : Int64) <<< ((p2 &&& (31 : Int32)).toInt64 &&& 63)))))), .second, .val (.int (1 : Int32))] [(.int (1 : Int32))])) τ
              refine XS.goto X35.here hx rfl (pc0 := 146) (pc' := 150) rfl (hb hby at_146) (by decide) (by decide) ?_
              exact kt)
            obtain ⟨fs, hrL, hrun, hended, hW, hsame⟩ := X35.leave (v := some (.int (1 : Int32))) (fun h => by rw [Bd.returns] at h; cases h)
            refine ⟨_, _, pre37 _ ?_, hrun, hended, _, _, rfl, ?_, ⟨_, rfl⟩, hW, hsame.mono (by decide) (by decide)⟩
            · show Steps p.tables e below (T35.setTop (mkF m 150 #[.val (.int p1), .val (.int p2), .val (.int p3), .val (.int (p2 &&& (31 : Int32))), .val (.int (p3 &&& (3 : Int32))), .val (.double (FP.dmul (FP.i2d p1) (FP.dmul (9074753249151549440 : UInt64) (FP.l2d ((1 : Int64) <<< ((p2 &&& (31 : Int32)).toInt64 &&& 63)))))), .second, .val (.int (1 : Int32))] [(.int (1 : Int32))])) _
              exact retN X35 hx (t := .boolean) Bd.returns (by simp) (hb hby at_150) hrL
            · show Q0 n0 _ T35.heap _
              exact ⟨rfl, N35⟩
          · skip
            have pre38 : ∀ τ, Steps p.tables e below (s₁.setTop (mkF m 137 #[.val (.int p1), .val (.int p2), .val (.int p3), .val (.int (p2 &&& (31 : Int32))), .val (.int (p3 &&& (3 : Int32))), .val (.double (FP.dmul (FP.i2d p1) (FP.dmul (9074753249151549440 : UInt64) (FP.l2d ((1 : Int64) <<< ((p2 &&& (31 : Int32)).toInt64 &&& 63)))))), .second, .val (.int (0 : Int32))] [(.double (FP.dmul (FP.i2d p1) (FP.dmul (9074753249151549440 : UInt64) (FP.l2d ((1 : Int64) <<< ((p2 &&& (31 : Int32)).toInt64 &&& 63))))))])) τ → Steps p.tables e below (s₁.setTop (entryFrame m #[(.int p1), (.int p2), (.int p3)] maxLocals)) τ := fun τ kt => pre33 τ (by
              show Steps p.tables e below (s₁.setTop (mkF m 106 #[.val (.int p1), .val (.int p2), .val (.int p3), .val (.int (p2 &&& (31 : Int32))), .val (.int (p3 &&& (3 : Int32))), .val (.double (FP.dmul (FP.i2d p1) (FP.dmul (9074753249151549440 : UInt64) (FP.l2d ((1 : Int64) <<< ((p2 &&& (31 : Int32)).toInt64 &&& 63)))))), .second, .unset] [(.int (XT.cmpL ((p1).toInt64 <<< ((p2 &&& (31 : Int32)).toInt64 &&& 63)) (4294967296 : Int64)))])) τ
              refine XS.ifYes X0.here hx rfl (pc0 := 106) (pc' := 113) rfl (hb hby at_106) rfl ((if0 _ _).trans (flt qb).2.1) (by decide) (by decide) ?_
              show Steps p.tables e below (s₁.setTop (mkF m 113 #[.val (.int p1), .val (.int p2), .val (.int p3), .val (.int (p2 &&& (31 : Int32))), .val (.int (p3 &&& (3 : Int32))), .val (.double (FP.dmul (FP.i2d p1) (FP.dmul (9074753249151549440 : UInt64) (FP.l2d ((1 : Int64) <<< ((p2 &&& (31 : Int32)).toInt64 &&& 63)))))), .second, .unset] [])) τ
              refine XS.iconst X0.here hx rfl (hb hby at_113) ?_
              show Steps p.tables e below (s₁.setTop (mkF m 114 #[.val (.int p1), .val (.int p2), .val (.int p3), .val (.int (p2 &&& (31 : Int32))), .val (.int (p3 &&& (3 : Int32))), .val (.double (FP.dmul (FP.i2d p1) (FP.dmul (9074753249151549440 : UInt64) (FP.l2d ((1 : Int64) <<< ((p2 &&& (31 : Int32)).toInt64 &&& 63)))))), .second, .unset] [(.int (0 : Int32))])) τ
              refine XS.istore X0.here hx rfl (hb hby at_114) rfl (l' := #[.val (.int p1), .val (.int p2), .val (.int p3), .val (.int (p2 &&& (31 : Int32))), .val (.int (p3 &&& (3 : Int32))), .val (.double (FP.dmul (FP.i2d p1) (FP.dmul (9074753249151549440 : UInt64) (FP.l2d ((1 : Int64) <<< ((p2 &&& (31 : Int32)).toInt64 &&& 63)))))), .second, .val (.int (0 : Int32))]) rfl ?_
              show Steps p.tables e below (s₁.setTop (mkF m 116 #[.val (.int p1), .val (.int p2), .val (.int p3), .val (.int (p2 &&& (31 : Int32))), .val (.int (p3 &&& (3 : Int32))), .val (.double (FP.dmul (FP.i2d p1) (FP.dmul (9074753249151549440 : UInt64) (FP.l2d ((1 : Int64) <<< ((p2 &&& (31 : Int32)).toInt64 &&& 63)))))), .second, .val (.int (0 : Int32))] [])) τ
              refine XS.goto X0.here hx rfl (pc0 := 116) (pc' := 135) rfl (hb hby at_116) (by decide) (by decide) ?_
              show Steps p.tables e below (s₁.setTop (mkF m 135 #[.val (.int p1), .val (.int p2), .val (.int p3), .val (.int (p2 &&& (31 : Int32))), .val (.int (p3 &&& (3 : Int32))), .val (.double (FP.dmul (FP.i2d p1) (FP.dmul (9074753249151549440 : UInt64) (FP.l2d ((1 : Int64) <<< ((p2 &&& (31 : Int32)).toInt64 &&& 63)))))), .second, .val (.int (0 : Int32))] [])) τ
              refine own_dload X0.here hx rfl (hb hby at_135) rfl ?_
              exact kt)
            obtain ⟨_, _, ⟨T39, L39, k39, n39⟩, -, X39, ⟨Lc39, hQ39, l39, y39, z39⟩, st39⟩ := Jvm.LawKit.callS X0 hx (y := (⟨"com/example/bidfold/bidfold/solve/ReserveLine$Meeting", "representable", "(D)Z"⟩ : MethodName)) hown (mvT hZ (hw _ (List.mem_of_getElem? (i := 1) rfl))) (mvT hZ (hw _ (List.mem_of_getElem? (i := 2) rfl))) (mvT hZ (hw _ (List.mem_of_getElem? (i := 3) rfl))) (mvT hZ (hw _ (List.mem_of_getElem? (i := 4) rfl))) (by decide) (backOf (W := 0) (rm1 l Z a0 hw [] (FP.dmul (FP.i2d p1) (FP.dmul (9074753249151549440 : UInt64) (FP.l2d ((1 : Int64) <<< ((p2 &&& (31 : Int32)).toInt64 &&& 63))))) h0 n0 Z0) hZ (hw _ (List.mem_of_getElem? (i := 4) rfl)) (hw _ (List.mem_of_getElem? (i := 3) rfl)) (by decide) (by decide)) (g := (mkF m 137 #[.val (.int p1), .val (.int p2), .val (.int p3), .val (.int (p2 &&& (31 : Int32))), .val (.int (p3 &&& (3 : Int32))), .val (.double (FP.dmul (FP.i2d p1) (FP.dmul (9074753249151549440 : UInt64) (FP.l2d ((1 : Int64) <<< ((p2 &&& (31 : Int32)).toInt64 &&& 63)))))), .second, .val (.int (0 : Int32))] [(.double (FP.dmul (FP.i2d p1) (FP.dmul (9074753249151549440 : UInt64) (FP.l2d ((1 : Int64) <<< ((p2 &&& (31 : Int32)).toInt64 &&& 63))))))])) rfl (by rw [hml]; rfl) (argsL := [(.double (FP.dmul (FP.i2d p1) (FP.dmul (9074753249151549440 : UInt64) (FP.l2d ((1 : Int64) <<< ((p2 &&& (31 : Int32)).toInt64 &&& 63))))))]) (rest := []) (lenOf own_pd__D_Z rfl) rfl (by show 2 * 0 + _ ≤ _; exact Nat.le_of_eq rfl) (hb hby at_137) (fun _ _ => ⟨rfl, e0, (by decide : 0 + 0 ≤ _), (by decide : 0 + 0 ≤ _)⟩)
            dsimp only [Pt.U, Pt.locs, Pt.cells, Pt.slots] at X39 l39 y39 z39 st39 hQ39
            subst l39 y39 z39
            obtain ⟨rfl, Nq39, eq39⟩ := hQ39
            have N39 := Fr.app N0 Nq39
            have pre40 : ∀ τ, Steps p.tables e below (T39.setTop (mkF m 140 #[.val (.int p1), .val (.int p2), .val (.int p3), .val (.int (p2 &&& (31 : Int32))), .val (.int (p3 &&& (3 : Int32))), .val (.double (FP.dmul (FP.i2d p1) (FP.dmul (9074753249151549440 : UInt64) (FP.l2d ((1 : Int64) <<< ((p2 &&& (31 : Int32)).toInt64 &&& 63)))))), .second, .val (.int (0 : Int32))] [(.int (own_rep (FP.dmul (FP.i2d p1) (FP.dmul (9074753249151549440 : UInt64) (FP.l2d ((1 : Int64) <<< ((p2 &&& (31 : Int32)).toInt64 &&& 63)))))))])) τ → Steps p.tables e below (s₁.setTop (entryFrame m #[(.int p1), (.int p2), (.int p3)] maxLocals)) τ := fun τ kt => pre38 τ (st39 τ kt)
            have pre41 : ∀ τ, Steps p.tables e below (T39.setTop (mkF m 150 #[.val (.int p1), .val (.int p2), .val (.int p3), .val (.int (p2 &&& (31 : Int32))), .val (.int (p3 &&& (3 : Int32))), .val (.double (FP.dmul (FP.i2d p1) (FP.dmul (9074753249151549440 : UInt64) (FP.l2d ((1 : Int64) <<< ((p2 &&& (31 : Int32)).toInt64 &&& 63)))))), .second, .val (.int (0 : Int32))] [(.int (1 : Int32))])) τ → Steps p.tables e below (s₁.setTop (entryFrame m #[(.int p1), (.int p2), (.int p3)] maxLocals)) τ := fun τ kt => pre40 τ (by
              show Steps p.tables e below (T39.setTop (mkF m 140 #[.val (.int p1), .val (.int p2), .val (.int p3), .val (.int (p2 &&& (31 : Int32))), .val (.int (p3 &&& (3 : Int32))), .val (.double (FP.dmul (FP.i2d p1) (FP.dmul (9074753249151549440 : UInt64) (FP.l2d ((1 : Int64) <<< ((p2 &&& (31 : Int32)).toInt64 &&& 63)))))), .second, .val (.int (0 : Int32))] [(.int (own_rep (FP.dmul (FP.i2d p1) (FP.dmul (9074753249151549440 : UInt64) (FP.l2d ((1 : Int64) <<< ((p2 &&& (31 : Int32)).toInt64 &&& 63)))))))])) τ
              refine XS.iload X39.here hx rfl (hb hby at_140) rfl ?_
              show Steps p.tables e below (T39.setTop (mkF m 142 #[.val (.int p1), .val (.int p2), .val (.int p3), .val (.int (p2 &&& (31 : Int32))), .val (.int (p3 &&& (3 : Int32))), .val (.double (FP.dmul (FP.i2d p1) (FP.dmul (9074753249151549440 : UInt64) (FP.l2d ((1 : Int64) <<< ((p2 &&& (31 : Int32)).toInt64 &&& 63)))))), .second, .val (.int (0 : Int32))] [(.int (0 : Int32)), (.int (own_rep (FP.dmul (FP.i2d p1) (FP.dmul (9074753249151549440 : UInt64) (FP.l2d ((1 : Int64) <<< ((p2 &&& (31 : Int32)).toInt64 &&& 63)))))))])) τ
              refine XS.icmpNo X39.here hx rfl (hb hby at_142) rfl (teq (hr.trans (if_neg fun q => qb (own_cmpL_lt.mpr (by rw [hj2]; exact q.2))))).2 ?_
              show Steps p.tables e below (T39.setTop (mkF m 145 #[.val (.int p1), .val (.int p2), .val (.int p3), .val (.int (p2 &&& (31 : Int32))), .val (.int (p3 &&& (3 : Int32))), .val (.double (FP.dmul (FP.i2d p1) (FP.dmul (9074753249151549440 : UInt64) (FP.l2d ((1 : Int64) <<< ((p2 &&& (31 : Int32)).toInt64 &&& 63)))))), .second, .val (.int (0 : Int32))] [])) τ
              refine XS.iconst X39.here hx rfl (hb hby at_145) ?_
              show Steps p.tables e below (T39.setTop (mkF m 146 #[.val (.int p1), .val (.int p2), .val (.int p3), .val (.int (p2 &&& (31 : Int32))), .val (.int (p3 &&& (3 : Int32))), .val (.double (FP.dmul (FP.i2d p1) (FP.dmul (9074753249151549440 : UInt64) (FP.l2d ((1 : Int64) <<< ((p2 &&& (31 : Int32)).toInt64 &&& 63)))))), .second, .val (.int (0 : Int32))] [(.int (1 : Int32))])) τ
              refine XS.goto X39.here hx rfl (pc0 := 146) (pc' := 150) rfl (hb hby at_146) (by decide) (by decide) ?_
              exact kt)
            obtain ⟨fs, hrL, hrun, hended, hW, hsame⟩ := X39.leave (v := some (.int (1 : Int32))) (fun h => by rw [Bd.returns] at h; cases h)
            refine ⟨_, _, pre41 _ ?_, hrun, hended, _, _, rfl, ?_, ⟨_, rfl⟩, hW, hsame.mono (by decide) (by decide)⟩
            · show Steps p.tables e below (T39.setTop (mkF m 150 #[.val (.int p1), .val (.int p2), .val (.int p3), .val (.int (p2 &&& (31 : Int32))), .val (.int (p3 &&& (3 : Int32))), .val (.double (FP.dmul (FP.i2d p1) (FP.dmul (9074753249151549440 : UInt64) (FP.l2d ((1 : Int64) <<< ((p2 &&& (31 : Int32)).toInt64 &&& 63)))))), .second, .val (.int (0 : Int32))] [(.int (1 : Int32))])) _
              exact retN X39 hx (t := .boolean) Bd.returns (by simp) (hb hby at_150) hrL
            · show Q0 n0 _ T39.heap _
              exact ⟨rfl, N39⟩
        · skip
          have pre42 : ∀ τ, Steps p.tables e below (s₁.setTop (mkF m 137 #[.val (.int p1), .val (.int p2), .val (.int p3), .val (.int (p2 &&& (31 : Int32))), .val (.int (p3 &&& (3 : Int32))), .val (.double (FP.dmul (FP.i2d p1) (FP.dmul (9074753249151549440 : UInt64) (FP.l2d ((1 : Int64) <<< ((p2 &&& (31 : Int32)).toInt64 &&& 63)))))), .second, .val (.int (0 : Int32))] [(.double (FP.dmul (FP.i2d p1) (FP.dmul (9074753249151549440 : UInt64) (FP.l2d ((1 : Int64) <<< ((p2 &&& (31 : Int32)).toInt64 &&& 63))))))])) τ → Steps p.tables e below (s₁.setTop (entryFrame m #[(.int p1), (.int p2), (.int p3)] maxLocals)) τ := fun τ kt => pre32 τ (by
            show Steps p.tables e below (s₁.setTop (mkF m 95 #[.val (.int p1), .val (.int p2), .val (.int p3), .val (.int (p2 &&& (31 : Int32))), .val (.int (p3 &&& (3 : Int32))), .val (.double (FP.dmul (FP.i2d p1) (FP.dmul (9074753249151549440 : UInt64) (FP.l2d ((1 : Int64) <<< ((p2 &&& (31 : Int32)).toInt64 &&& 63)))))), .second, .unset] [(.int p1)])) τ
            refine XS.ifYes X0.here hx rfl (pc0 := 95) (pc' := 113) rfl (hb hby at_95) rfl ((if0 _ _).trans (flt qa).2.2.2) (by decide) (by decide) ?_
            show Steps p.tables e below (s₁.setTop (mkF m 113 #[.val (.int p1), .val (.int p2), .val (.int p3), .val (.int (p2 &&& (31 : Int32))), .val (.int (p3 &&& (3 : Int32))), .val (.double (FP.dmul (FP.i2d p1) (FP.dmul (9074753249151549440 : UInt64) (FP.l2d ((1 : Int64) <<< ((p2 &&& (31 : Int32)).toInt64 &&& 63)))))), .second, .unset] [])) τ
            refine XS.iconst X0.here hx rfl (hb hby at_113) ?_
            show Steps p.tables e below (s₁.setTop (mkF m 114 #[.val (.int p1), .val (.int p2), .val (.int p3), .val (.int (p2 &&& (31 : Int32))), .val (.int (p3 &&& (3 : Int32))), .val (.double (FP.dmul (FP.i2d p1) (FP.dmul (9074753249151549440 : UInt64) (FP.l2d ((1 : Int64) <<< ((p2 &&& (31 : Int32)).toInt64 &&& 63)))))), .second, .unset] [(.int (0 : Int32))])) τ
            refine XS.istore X0.here hx rfl (hb hby at_114) rfl (l' := #[.val (.int p1), .val (.int p2), .val (.int p3), .val (.int (p2 &&& (31 : Int32))), .val (.int (p3 &&& (3 : Int32))), .val (.double (FP.dmul (FP.i2d p1) (FP.dmul (9074753249151549440 : UInt64) (FP.l2d ((1 : Int64) <<< ((p2 &&& (31 : Int32)).toInt64 &&& 63)))))), .second, .val (.int (0 : Int32))]) rfl ?_
            show Steps p.tables e below (s₁.setTop (mkF m 116 #[.val (.int p1), .val (.int p2), .val (.int p3), .val (.int (p2 &&& (31 : Int32))), .val (.int (p3 &&& (3 : Int32))), .val (.double (FP.dmul (FP.i2d p1) (FP.dmul (9074753249151549440 : UInt64) (FP.l2d ((1 : Int64) <<< ((p2 &&& (31 : Int32)).toInt64 &&& 63)))))), .second, .val (.int (0 : Int32))] [])) τ
            refine XS.goto X0.here hx rfl (pc0 := 116) (pc' := 135) rfl (hb hby at_116) (by decide) (by decide) ?_
            show Steps p.tables e below (s₁.setTop (mkF m 135 #[.val (.int p1), .val (.int p2), .val (.int p3), .val (.int (p2 &&& (31 : Int32))), .val (.int (p3 &&& (3 : Int32))), .val (.double (FP.dmul (FP.i2d p1) (FP.dmul (9074753249151549440 : UInt64) (FP.l2d ((1 : Int64) <<< ((p2 &&& (31 : Int32)).toInt64 &&& 63)))))), .second, .val (.int (0 : Int32))] [])) τ
            refine own_dload X0.here hx rfl (hb hby at_135) rfl ?_
            exact kt)
          obtain ⟨_, _, ⟨T43, L43, k43, n43⟩, -, X43, ⟨Lc43, hQ43, l43, y43, z43⟩, st43⟩ := Jvm.LawKit.callS X0 hx (y := (⟨"com/example/bidfold/bidfold/solve/ReserveLine$Meeting", "representable", "(D)Z"⟩ : MethodName)) hown (mvT hZ (hw _ (List.mem_of_getElem? (i := 1) rfl))) (mvT hZ (hw _ (List.mem_of_getElem? (i := 2) rfl))) (mvT hZ (hw _ (List.mem_of_getElem? (i := 3) rfl))) (mvT hZ (hw _ (List.mem_of_getElem? (i := 4) rfl))) (by decide) (backOf (W := 0) (rm1 l Z a0 hw [] (FP.dmul (FP.i2d p1) (FP.dmul (9074753249151549440 : UInt64) (FP.l2d ((1 : Int64) <<< ((p2 &&& (31 : Int32)).toInt64 &&& 63))))) h0 n0 Z0) hZ (hw _ (List.mem_of_getElem? (i := 4) rfl)) (hw _ (List.mem_of_getElem? (i := 3) rfl)) (by decide) (by decide)) (g := (mkF m 137 #[.val (.int p1), .val (.int p2), .val (.int p3), .val (.int (p2 &&& (31 : Int32))), .val (.int (p3 &&& (3 : Int32))), .val (.double (FP.dmul (FP.i2d p1) (FP.dmul (9074753249151549440 : UInt64) (FP.l2d ((1 : Int64) <<< ((p2 &&& (31 : Int32)).toInt64 &&& 63)))))), .second, .val (.int (0 : Int32))] [(.double (FP.dmul (FP.i2d p1) (FP.dmul (9074753249151549440 : UInt64) (FP.l2d ((1 : Int64) <<< ((p2 &&& (31 : Int32)).toInt64 &&& 63))))))])) rfl (by rw [hml]; rfl) (argsL := [(.double (FP.dmul (FP.i2d p1) (FP.dmul (9074753249151549440 : UInt64) (FP.l2d ((1 : Int64) <<< ((p2 &&& (31 : Int32)).toInt64 &&& 63))))))]) (rest := []) (lenOf own_pd__D_Z rfl) rfl (by show 2 * 0 + _ ≤ _; exact Nat.le_of_eq rfl) (hb hby at_137) (fun _ _ => ⟨rfl, e0, (by decide : 0 + 0 ≤ _), (by decide : 0 + 0 ≤ _)⟩)
          dsimp only [Pt.U, Pt.locs, Pt.cells, Pt.slots] at X43 l43 y43 z43 st43 hQ43
          subst l43 y43 z43
          obtain ⟨rfl, Nq43, eq43⟩ := hQ43
          have N43 := Fr.app N0 Nq43
          have pre44 : ∀ τ, Steps p.tables e below (T43.setTop (mkF m 140 #[.val (.int p1), .val (.int p2), .val (.int p3), .val (.int (p2 &&& (31 : Int32))), .val (.int (p3 &&& (3 : Int32))), .val (.double (FP.dmul (FP.i2d p1) (FP.dmul (9074753249151549440 : UInt64) (FP.l2d ((1 : Int64) <<< ((p2 &&& (31 : Int32)).toInt64 &&& 63)))))), .second, .val (.int (0 : Int32))] [(.int (own_rep (FP.dmul (FP.i2d p1) (FP.dmul (9074753249151549440 : UInt64) (FP.l2d ((1 : Int64) <<< ((p2 &&& (31 : Int32)).toInt64 &&& 63)))))))])) τ → Steps p.tables e below (s₁.setTop (entryFrame m #[(.int p1), (.int p2), (.int p3)] maxLocals)) τ := fun τ kt => pre42 τ (st43 τ kt)
          have pre45 : ∀ τ, Steps p.tables e below (T43.setTop (mkF m 150 #[.val (.int p1), .val (.int p2), .val (.int p3), .val (.int (p2 &&& (31 : Int32))), .val (.int (p3 &&& (3 : Int32))), .val (.double (FP.dmul (FP.i2d p1) (FP.dmul (9074753249151549440 : UInt64) (FP.l2d ((1 : Int64) <<< ((p2 &&& (31 : Int32)).toInt64 &&& 63)))))), .second, .val (.int (0 : Int32))] [(.int (1 : Int32))])) τ → Steps p.tables e below (s₁.setTop (entryFrame m #[(.int p1), (.int p2), (.int p3)] maxLocals)) τ := fun τ kt => pre44 τ (by
            show Steps p.tables e below (T43.setTop (mkF m 140 #[.val (.int p1), .val (.int p2), .val (.int p3), .val (.int (p2 &&& (31 : Int32))), .val (.int (p3 &&& (3 : Int32))), .val (.double (FP.dmul (FP.i2d p1) (FP.dmul (9074753249151549440 : UInt64) (FP.l2d ((1 : Int64) <<< ((p2 &&& (31 : Int32)).toInt64 &&& 63)))))), .second, .val (.int (0 : Int32))] [(.int (own_rep (FP.dmul (FP.i2d p1) (FP.dmul (9074753249151549440 : UInt64) (FP.l2d ((1 : Int64) <<< ((p2 &&& (31 : Int32)).toInt64 &&& 63)))))))])) τ
            refine XS.iload X43.here hx rfl (hb hby at_140) rfl ?_
            show Steps p.tables e below (T43.setTop (mkF m 142 #[.val (.int p1), .val (.int p2), .val (.int p3), .val (.int (p2 &&& (31 : Int32))), .val (.int (p3 &&& (3 : Int32))), .val (.double (FP.dmul (FP.i2d p1) (FP.dmul (9074753249151549440 : UInt64) (FP.l2d ((1 : Int64) <<< ((p2 &&& (31 : Int32)).toInt64 &&& 63)))))), .second, .val (.int (0 : Int32))] [(.int (0 : Int32)), (.int (own_rep (FP.dmul (FP.i2d p1) (FP.dmul (9074753249151549440 : UInt64) (FP.l2d ((1 : Int64) <<< ((p2 &&& (31 : Int32)).toInt64 &&& 63)))))))])) τ
            refine XS.icmpNo X43.here hx rfl (hb hby at_142) rfl (teq (hr.trans (if_neg fun q => qa (own_pos.mpr q.1)))).2 ?_
            show Steps p.tables e below (T43.setTop (mkF m 145 #[.val (.int p1), .val (.int p2), .val (.int p3), .val (.int (p2 &&& (31 : Int32))), .val (.int (p3 &&& (3 : Int32))), .val (.double (FP.dmul (FP.i2d p1) (FP.dmul (9074753249151549440 : UInt64) (FP.l2d ((1 : Int64) <<< ((p2 &&& (31 : Int32)).toInt64 &&& 63)))))), .second, .val (.int (0 : Int32))] [])) τ
            refine XS.iconst X43.here hx rfl (hb hby at_145) ?_
            show Steps p.tables e below (T43.setTop (mkF m 146 #[.val (.int p1), .val (.int p2), .val (.int p3), .val (.int (p2 &&& (31 : Int32))), .val (.int (p3 &&& (3 : Int32))), .val (.double (FP.dmul (FP.i2d p1) (FP.dmul (9074753249151549440 : UInt64) (FP.l2d ((1 : Int64) <<< ((p2 &&& (31 : Int32)).toInt64 &&& 63)))))), .second, .val (.int (0 : Int32))] [(.int (1 : Int32))])) τ
            refine XS.goto X43.here hx rfl (pc0 := 146) (pc' := 150) rfl (hb hby at_146) (by decide) (by decide) ?_
            exact kt)
          obtain ⟨fs, hrL, hrun, hended, hW, hsame⟩ := X43.leave (v := some (.int (1 : Int32))) (fun h => by rw [Bd.returns] at h; cases h)
          refine ⟨_, _, pre45 _ ?_, hrun, hended, _, _, rfl, ?_, ⟨_, rfl⟩, hW, hsame.mono (by decide) (by decide)⟩
          · show Steps p.tables e below (T43.setTop (mkF m 150 #[.val (.int p1), .val (.int p2), .val (.int p3), .val (.int (p2 &&& (31 : Int32))), .val (.int (p3 &&& (3 : Int32))), .val (.double (FP.dmul (FP.i2d p1) (FP.dmul (9074753249151549440 : UInt64) (FP.l2d ((1 : Int64) <<< ((p2 &&& (31 : Int32)).toInt64 &&& 63)))))), .second, .val (.int (0 : Int32))] [(.int (1 : Int32))])) _
            exact retN X43 hx (t := .boolean) Bd.returns (by simp) (hb hby at_150) hrL
          · show Q0 n0 _ T43.heap _
            exact ⟨rfl, N43⟩
      · skip
        have pre46 : ∀ τ, Steps p.tables e below (s₁.setTop (mkF m 125 #[.val (.int p1), .val (.int p2), .val (.int p3), .val (.int (p2 &&& (31 : Int32))), .val (.int (p3 &&& (3 : Int32))), .val (.double (FP.dneg (FP.i2d p1))), .second, .unset] [(.int p1)])) τ → Steps p.tables e below (s₁.setTop (entryFrame m #[(.int p1), (.int p2), (.int p3)] maxLocals)) τ := fun τ kt => pre31 τ (by
          show Steps p.tables e below (s₁.setTop (mkF m 78 #[.val (.int p1), .val (.int p2), .val (.int p3), .val (.int (p2 &&& (31 : Int32))), .val (.int (p3 &&& (3 : Int32))), .unset, .unset, .unset] [(.int (2 : Int32)), (.int (p3 &&& (3 : Int32)))])) τ
          refine XS.icmpYes X0.here hx rfl (pc0 := 78) (pc' := 119) rfl (hb hby at_78) rfl (feq m2).2 (by decide) (by decide) ?_
          show Steps p.tables e below (s₁.setTop (mkF m 119 #[.val (.int p1), .val (.int p2), .val (.int p3), .val (.int (p2 &&& (31 : Int32))), .val (.int (p3 &&& (3 : Int32))), .unset, .unset, .unset] [])) τ
          refine XS.iloadN X0.here hx rfl (hb hby at_119) rfl ?_
          show Steps p.tables e below (s₁.setTop (mkF m 120 #[.val (.int p1), .val (.int p2), .val (.int p3), .val (.int (p2 &&& (31 : Int32))), .val (.int (p3 &&& (3 : Int32))), .unset, .unset, .unset] [(.int p1)])) τ
          refine own_i2d X0.here hx rfl (hb hby at_120) rfl ?_
          show Steps p.tables e below (s₁.setTop (mkF m 121 #[.val (.int p1), .val (.int p2), .val (.int p3), .val (.int (p2 &&& (31 : Int32))), .val (.int (p3 &&& (3 : Int32))), .unset, .unset, .unset] [(.double (FP.i2d p1))])) τ
          refine own_dneg X0.here hx rfl (hb hby at_121) rfl ?_
          show Steps p.tables e below (s₁.setTop (mkF m 122 #[.val (.int p1), .val (.int p2), .val (.int p3), .val (.int (p2 &&& (31 : Int32))), .val (.int (p3 &&& (3 : Int32))), .unset, .unset, .unset] [(.double (FP.dneg (FP.i2d p1)))])) τ
          refine own_dstore X0.here hx rfl (hb hby at_122) rfl (l' := #[.val (.int p1), .val (.int p2), .val (.int p3), .val (.int (p2 &&& (31 : Int32))), .val (.int (p3 &&& (3 : Int32))), .val (.double (FP.dneg (FP.i2d p1))), .second, .unset]) rfl ?_
          show Steps p.tables e below (s₁.setTop (mkF m 124 #[.val (.int p1), .val (.int p2), .val (.int p3), .val (.int (p2 &&& (31 : Int32))), .val (.int (p3 &&& (3 : Int32))), .val (.double (FP.dneg (FP.i2d p1))), .second, .unset] [])) τ
          refine XS.iloadN X0.here hx rfl (hb hby at_124) rfl ?_
          exact kt)
        by_cases qa : p1 < (0 : Int32)
        · skip
          have pre47 : ∀ τ, Steps p.tables e below (s₁.setTop (mkF m 137 #[.val (.int p1), .val (.int p2), .val (.int p3), .val (.int (p2 &&& (31 : Int32))), .val (.int (p3 &&& (3 : Int32))), .val (.double (FP.dneg (FP.i2d p1))), .second, .val (.int (1 : Int32))] [(.double (FP.dneg (FP.i2d p1)))])) τ → Steps p.tables e below (s₁.setTop (entryFrame m #[(.int p1), (.int p2), (.int p3)] maxLocals)) τ := fun τ kt => pre46 τ (by
            show Steps p.tables e below (s₁.setTop (mkF m 125 #[.val (.int p1), .val (.int p2), .val (.int p3), .val (.int (p2 &&& (31 : Int32))), .val (.int (p3 &&& (3 : Int32))), .val (.double (FP.dneg (FP.i2d p1))), .second, .unset] [(.int p1)])) τ
            refine XS.ifNo X0.here hx rfl (hb hby at_125) rfl ((if0 _ _).trans (tlt qa).2.1) ?_
            show Steps p.tables e below (s₁.setTop (mkF m 128 #[.val (.int p1), .val (.int p2), .val (.int p3), .val (.int (p2 &&& (31 : Int32))), .val (.int (p3 &&& (3 : Int32))), .val (.double (FP.dneg (FP.i2d p1))), .second, .unset] [])) τ
            refine XS.iconst X0.here hx rfl (hb hby at_128) ?_
            show Steps p.tables e below (s₁.setTop (mkF m 129 #[.val (.int p1), .val (.int p2), .val (.int p3), .val (.int (p2 &&& (31 : Int32))), .val (.int (p3 &&& (3 : Int32))), .val (.double (FP.dneg (FP.i2d p1))), .second, .unset] [(.int (1 : Int32))])) τ
            refine XS.goto X0.here hx rfl (pc0 := 129) (pc' := 133) rfl (hb hby at_129) (by decide) (by decide) ?_
            show Steps p.tables e below (s₁.setTop (mkF m 133 #[.val (.int p1), .val (.int p2), .val (.int p3), .val (.int (p2 &&& (31 : Int32))), .val (.int (p3 &&& (3 : Int32))), .val (.double (FP.dneg (FP.i2d p1))), .second, .unset] [(.int (1 : Int32))])) τ
            refine XS.istore X0.here hx rfl (hb hby at_133) rfl (l' := #[.val (.int p1), .val (.int p2), .val (.int p3), .val (.int (p2 &&& (31 : Int32))), .val (.int (p3 &&& (3 : Int32))), .val (.double (FP.dneg (FP.i2d p1))), .second, .val (.int (1 : Int32))]) rfl ?_
            show Steps p.tables e below (s₁.setTop (mkF m 135 #[.val (.int p1), .val (.int p2), .val (.int p3), .val (.int (p2 &&& (31 : Int32))), .val (.int (p3 &&& (3 : Int32))), .val (.double (FP.dneg (FP.i2d p1))), .second, .val (.int (1 : Int32))] [])) τ
            refine own_dload X0.here hx rfl (hb hby at_135) rfl ?_
            exact kt)
          obtain ⟨_, _, ⟨T48, L48, k48, n48⟩, -, X48, ⟨Lc48, hQ48, l48, y48, z48⟩, st48⟩ := Jvm.LawKit.callS X0 hx (y := (⟨"com/example/bidfold/bidfold/solve/ReserveLine$Meeting", "representable", "(D)Z"⟩ : MethodName)) hown (mvT hZ (hw _ (List.mem_of_getElem? (i := 1) rfl))) (mvT hZ (hw _ (List.mem_of_getElem? (i := 2) rfl))) (mvT hZ (hw _ (List.mem_of_getElem? (i := 3) rfl))) (mvT hZ (hw _ (List.mem_of_getElem? (i := 4) rfl))) (by decide) (backOf (W := 0) (rm1 l Z a0 hw [] (FP.dneg (FP.i2d p1)) h0 n0 Z0) hZ (hw _ (List.mem_of_getElem? (i := 4) rfl)) (hw _ (List.mem_of_getElem? (i := 3) rfl)) (by decide) (by decide)) (g := (mkF m 137 #[.val (.int p1), .val (.int p2), .val (.int p3), .val (.int (p2 &&& (31 : Int32))), .val (.int (p3 &&& (3 : Int32))), .val (.double (FP.dneg (FP.i2d p1))), .second, .val (.int (1 : Int32))] [(.double (FP.dneg (FP.i2d p1)))])) rfl (by rw [hml]; rfl) (argsL := [(.double (FP.dneg (FP.i2d p1)))]) (rest := []) (lenOf own_pd__D_Z rfl) rfl (by show 2 * 0 + _ ≤ _; exact Nat.le_of_eq rfl) (hb hby at_137) (fun _ _ => ⟨rfl, e0, (by decide : 0 + 0 ≤ _), (by decide : 0 + 0 ≤ _)⟩)
          dsimp only [Pt.U, Pt.locs, Pt.cells, Pt.slots] at X48 l48 y48 z48 st48 hQ48
          subst l48 y48 z48
          obtain ⟨rfl, Nq48, eq48⟩ := hQ48
          have N48 := Fr.app N0 Nq48
          have pre49 : ∀ τ, Steps p.tables e below (T48.setTop (mkF m 140 #[.val (.int p1), .val (.int p2), .val (.int p3), .val (.int (p2 &&& (31 : Int32))), .val (.int (p3 &&& (3 : Int32))), .val (.double (FP.dneg (FP.i2d p1))), .second, .val (.int (1 : Int32))] [(.int (own_rep (FP.dneg (FP.i2d p1))))])) τ → Steps p.tables e below (s₁.setTop (entryFrame m #[(.int p1), (.int p2), (.int p3)] maxLocals)) τ := fun τ kt => pre47 τ (st48 τ kt)
          have pre50 : ∀ τ, Steps p.tables e below (T48.setTop (mkF m 150 #[.val (.int p1), .val (.int p2), .val (.int p3), .val (.int (p2 &&& (31 : Int32))), .val (.int (p3 &&& (3 : Int32))), .val (.double (FP.dneg (FP.i2d p1))), .second, .val (.int (1 : Int32))] [(.int (1 : Int32))])) τ → Steps p.tables e below (s₁.setTop (entryFrame m #[(.int p1), (.int p2), (.int p3)] maxLocals)) τ := fun τ kt => pre49 τ (by
            show Steps p.tables e below (T48.setTop (mkF m 140 #[.val (.int p1), .val (.int p2), .val (.int p3), .val (.int (p2 &&& (31 : Int32))), .val (.int (p3 &&& (3 : Int32))), .val (.double (FP.dneg (FP.i2d p1))), .second, .val (.int (1 : Int32))] [(.int (own_rep (FP.dneg (FP.i2d p1))))])) τ
            refine XS.iload X48.here hx rfl (hb hby at_140) rfl ?_
            show Steps p.tables e below (T48.setTop (mkF m 142 #[.val (.int p1), .val (.int p2), .val (.int p3), .val (.int (p2 &&& (31 : Int32))), .val (.int (p3 &&& (3 : Int32))), .val (.double (FP.dneg (FP.i2d p1))), .second, .val (.int (1 : Int32))] [(.int (1 : Int32)), (.int (own_rep (FP.dneg (FP.i2d p1))))])) τ
            refine XS.icmpNo X48.here hx rfl (hb hby at_142) rfl (teq ((own_rep_whole (own_d_neg (own_d_i2d p1)) (by omega)).trans (if_pos (by have := own_neg.mp qa; omega)))).2 ?_
            show Steps p.tables e below (T48.setTop (mkF m 145 #[.val (.int p1), .val (.int p2), .val (.int p3), .val (.int (p2 &&& (31 : Int32))), .val (.int (p3 &&& (3 : Int32))), .val (.double (FP.dneg (FP.i2d p1))), .second, .val (.int (1 : Int32))] [])) τ
            refine XS.iconst X48.here hx rfl (hb hby at_145) ?_
            show Steps p.tables e below (T48.setTop (mkF m 146 #[.val (.int p1), .val (.int p2), .val (.int p3), .val (.int (p2 &&& (31 : Int32))), .val (.int (p3 &&& (3 : Int32))), .val (.double (FP.dneg (FP.i2d p1))), .second, .val (.int (1 : Int32))] [(.int (1 : Int32))])) τ
            refine XS.goto X48.here hx rfl (pc0 := 146) (pc' := 150) rfl (hb hby at_146) (by decide) (by decide) ?_
            exact kt)
          obtain ⟨fs, hrL, hrun, hended, hW, hsame⟩ := X48.leave (v := some (.int (1 : Int32))) (fun h => by rw [Bd.returns] at h; cases h)
          refine ⟨_, _, pre50 _ ?_, hrun, hended, _, _, rfl, ?_, ⟨_, rfl⟩, hW, hsame.mono (by decide) (by decide)⟩
          · show Steps p.tables e below (T48.setTop (mkF m 150 #[.val (.int p1), .val (.int p2), .val (.int p3), .val (.int (p2 &&& (31 : Int32))), .val (.int (p3 &&& (3 : Int32))), .val (.double (FP.dneg (FP.i2d p1))), .second, .val (.int (1 : Int32))] [(.int (1 : Int32))])) _
            exact retN X48 hx (t := .boolean) Bd.returns (by simp) (hb hby at_150) hrL
          · show Q0 n0 _ T48.heap _
            exact ⟨rfl, N48⟩
        · skip
          have pre51 : ∀ τ, Steps p.tables e below (s₁.setTop (mkF m 137 #[.val (.int p1), .val (.int p2), .val (.int p3), .val (.int (p2 &&& (31 : Int32))), .val (.int (p3 &&& (3 : Int32))), .val (.double (FP.dneg (FP.i2d p1))), .second, .val (.int (0 : Int32))] [(.double (FP.dneg (FP.i2d p1)))])) τ → Steps p.tables e below (s₁.setTop (entryFrame m #[(.int p1), (.int p2), (.int p3)] maxLocals)) τ := fun τ kt => pre46 τ (by
            show Steps p.tables e below (s₁.setTop (mkF m 125 #[.val (.int p1), .val (.int p2), .val (.int p3), .val (.int (p2 &&& (31 : Int32))), .val (.int (p3 &&& (3 : Int32))), .val (.double (FP.dneg (FP.i2d p1))), .second, .unset] [(.int p1)])) τ
            refine XS.ifYes X0.here hx rfl (pc0 := 125) (pc' := 132) rfl (hb hby at_125) rfl ((if0 _ _).trans (flt qa).2.1) (by decide) (by decide) ?_
            show Steps p.tables e below (s₁.setTop (mkF m 132 #[.val (.int p1), .val (.int p2), .val (.int p3), .val (.int (p2 &&& (31 : Int32))), .val (.int (p3 &&& (3 : Int32))), .val (.double (FP.dneg (FP.i2d p1))), .second, .unset] [])) τ
            refine XS.iconst X0.here hx rfl (hb hby at_132) ?_
            show Steps p.tables e below (s₁.setTop (mkF m 133 #[.val (.int p1), .val (.int p2), .val (.int p3), .val (.int (p2 &&& (31 : Int32))), .val (.int (p3 &&& (3 : Int32))), .val (.double (FP.dneg (FP.i2d p1))), .second, .unset] [(.int (0 : Int32))])) τ
            refine XS.istore X0.here hx rfl (hb hby at_133) rfl (l' := #[.val (.int p1), .val (.int p2), .val (.int p3), .val (.int (p2 &&& (31 : Int32))), .val (.int (p3 &&& (3 : Int32))), .val (.double (FP.dneg (FP.i2d p1))), .second, .val (.int (0 : Int32))]) rfl ?_
            show Steps p.tables e below (s₁.setTop (mkF m 135 #[.val (.int p1), .val (.int p2), .val (.int p3), .val (.int (p2 &&& (31 : Int32))), .val (.int (p3 &&& (3 : Int32))), .val (.double (FP.dneg (FP.i2d p1))), .second, .val (.int (0 : Int32))] [])) τ
            refine own_dload X0.here hx rfl (hb hby at_135) rfl ?_
            exact kt)
          obtain ⟨_, _, ⟨T52, L52, k52, n52⟩, -, X52, ⟨Lc52, hQ52, l52, y52, z52⟩, st52⟩ := Jvm.LawKit.callS X0 hx (y := (⟨"com/example/bidfold/bidfold/solve/ReserveLine$Meeting", "representable", "(D)Z"⟩ : MethodName)) hown (mvT hZ (hw _ (List.mem_of_getElem? (i := 1) rfl))) (mvT hZ (hw _ (List.mem_of_getElem? (i := 2) rfl))) (mvT hZ (hw _ (List.mem_of_getElem? (i := 3) rfl))) (mvT hZ (hw _ (List.mem_of_getElem? (i := 4) rfl))) (by decide) (backOf (W := 0) (rm1 l Z a0 hw [] (FP.dneg (FP.i2d p1)) h0 n0 Z0) hZ (hw _ (List.mem_of_getElem? (i := 4) rfl)) (hw _ (List.mem_of_getElem? (i := 3) rfl)) (by decide) (by decide)) (g := (mkF m 137 #[.val (.int p1), .val (.int p2), .val (.int p3), .val (.int (p2 &&& (31 : Int32))), .val (.int (p3 &&& (3 : Int32))), .val (.double (FP.dneg (FP.i2d p1))), .second, .val (.int (0 : Int32))] [(.double (FP.dneg (FP.i2d p1)))])) rfl (by rw [hml]; rfl) (argsL := [(.double (FP.dneg (FP.i2d p1)))]) (rest := []) (lenOf own_pd__D_Z rfl) rfl (by show 2 * 0 + _ ≤ _; exact Nat.le_of_eq rfl) (hb hby at_137) (fun _ _ => ⟨rfl, e0, (by decide : 0 + 0 ≤ _), (by decide : 0 + 0 ≤ _)⟩)
          dsimp only [Pt.U, Pt.locs, Pt.cells, Pt.slots] at X52 l52 y52 z52 st52 hQ52
          subst l52 y52 z52
          obtain ⟨rfl, Nq52, eq52⟩ := hQ52
          have N52 := Fr.app N0 Nq52
          have pre53 : ∀ τ, Steps p.tables e below (T52.setTop (mkF m 140 #[.val (.int p1), .val (.int p2), .val (.int p3), .val (.int (p2 &&& (31 : Int32))), .val (.int (p3 &&& (3 : Int32))), .val (.double (FP.dneg (FP.i2d p1))), .second, .val (.int (0 : Int32))] [(.int (own_rep (FP.dneg (FP.i2d p1))))])) τ → Steps p.tables e below (s₁.setTop (entryFrame m #[(.int p1), (.int p2), (.int p3)] maxLocals)) τ := fun τ kt => pre51 τ (st52 τ kt)
          have pre54 : ∀ τ, Steps p.tables e below (T52.setTop (mkF m 150 #[.val (.int p1), .val (.int p2), .val (.int p3), .val (.int (p2 &&& (31 : Int32))), .val (.int (p3 &&& (3 : Int32))), .val (.double (FP.dneg (FP.i2d p1))), .second, .val (.int (0 : Int32))] [(.int (1 : Int32))])) τ → Steps p.tables e below (s₁.setTop (entryFrame m #[(.int p1), (.int p2), (.int p3)] maxLocals)) τ := fun τ kt => pre53 τ (by
            show Steps p.tables e below (T52.setTop (mkF m 140 #[.val (.int p1), .val (.int p2), .val (.int p3), .val (.int (p2 &&& (31 : Int32))), .val (.int (p3 &&& (3 : Int32))), .val (.double (FP.dneg (FP.i2d p1))), .second, .val (.int (0 : Int32))] [(.int (own_rep (FP.dneg (FP.i2d p1))))])) τ
            refine XS.iload X52.here hx rfl (hb hby at_140) rfl ?_
            show Steps p.tables e below (T52.setTop (mkF m 142 #[.val (.int p1), .val (.int p2), .val (.int p3), .val (.int (p2 &&& (31 : Int32))), .val (.int (p3 &&& (3 : Int32))), .val (.double (FP.dneg (FP.i2d p1))), .second, .val (.int (0 : Int32))] [(.int (0 : Int32)), (.int (own_rep (FP.dneg (FP.i2d p1))))])) τ
            refine XS.icmpNo X52.here hx rfl (hb hby at_142) rfl (teq ((own_rep_whole (own_d_neg (own_d_i2d p1)) (by omega)).trans (if_neg fun q => qa (own_neg.mpr (by omega))))).2 ?_
            show Steps p.tables e below (T52.setTop (mkF m 145 #[.val (.int p1), .val (.int p2), .val (.int p3), .val (.int (p2 &&& (31 : Int32))), .val (.int (p3 &&& (3 : Int32))), .val (.double (FP.dneg (FP.i2d p1))), .second, .val (.int (0 : Int32))] [])) τ
            refine XS.iconst X52.here hx rfl (hb hby at_145) ?_
            show Steps p.tables e below (T52.setTop (mkF m 146 #[.val (.int p1), .val (.int p2), .val (.int p3), .val (.int (p2 &&& (31 : Int32))), .val (.int (p3 &&& (3 : Int32))), .val (.double (FP.dneg (FP.i2d p1))), .second, .val (.int (0 : Int32))] [(.int (1 : Int32))])) τ
            refine XS.goto X52.here hx rfl (pc0 := 146) (pc' := 150) rfl (hb hby at_146) (by decide) (by decide) ?_
            exact kt)
          obtain ⟨fs, hrL, hrun, hended, hW, hsame⟩ := X52.leave (v := some (.int (1 : Int32))) (fun h => by rw [Bd.returns] at h; cases h)
          refine ⟨_, _, pre54 _ ?_, hrun, hended, _, _, rfl, ?_, ⟨_, rfl⟩, hW, hsame.mono (by decide) (by decide)⟩
          · show Steps p.tables e below (T52.setTop (mkF m 150 #[.val (.int p1), .val (.int p2), .val (.int p3), .val (.int (p2 &&& (31 : Int32))), .val (.int (p3 &&& (3 : Int32))), .val (.double (FP.dneg (FP.i2d p1))), .second, .val (.int (0 : Int32))] [(.int (1 : Int32))])) _
            exact retN X52 hx (t := .boolean) Bd.returns (by simp) (hb hby at_150) hrL
          · show Q0 n0 _ T52.heap _
            exact ⟨rfl, N52⟩
set_option maxRecDepth 65536 in
set_option maxHeartbeats 40000000 in
theorem comes_1 {Post : Tables → Env → Array Value → State → Outcome → State → Prop} (hpost : ∀ tb e args s v u, (limb_1_1.after args s (.returned v) u = true ∧ limb_1_2.after args s (.returned v) u = true ∧ True) → FrameEnd s (.returned v) u (Jvm.fieldLocs frame_1_writes args s ++ Jvm.arrayLocs frame_1_arrays args s ++ Jvm.staticLocs frame_1_statics s) 0 0 → Post tb e args s (.returned v) u) :
    ArmFor flags0 classFile x code maxLocals ret World_1 tables_1 room_1 Calls_1 rest_1 Pre_1 Post := by
  intro l hfl _ _ p e ha hc hk s m args below hf hA hF happ hP
  obtain ⟨hcalls, hrest, hpre⟩ := hP
  obtain ⟨-, -, -, hnamed, -, -, -, hat⟩ := (Spec.applies_iff hf).mp happ
  obtain ⟨hg, hn⟩ := and_e (Cond.before_iff.mp (show (Jvm.Cond.and given_1 narrow_1).before args s = true from hpre))
  obtain ⟨g1, g2⟩ := and_e hg
  obtain ⟨g3, g4⟩ := and_e g2
  obtain ⟨g5, g6⟩ := and_e g4
  obtain ⟨w0, w1, w2, rfl⟩ : ∃ w0 w1 w2 : Value, args = #[w0, w1, w2] := by
    have hs : args.size = 3 := by simpa [Cond.value, given_1] using g1
    obtain ⟨L⟩ := args
    match L, hs with
    | [w0, w1, w2], _ => exact ⟨w0, w1, w2, rfl⟩
  have hw := fun d (hd : d ∈ tables_1) => atoms_spec (ws := Jvm.Cond.code x code maxLocals ret :: tables_1) hat d (List.mem_cons_of_mem _ hd)
  obtain ⟨i0, ei0⟩ := is_v g3
  obtain rfl : w0 = (.int i0) := Option.some.inj ei0
  obtain ⟨i1, ei1⟩ := is_v g5
  obtain rfl : w1 = (.int i1) := Option.some.inj ei1
  obtain ⟨i2, ei2⟩ := is_v g6
  obtain rfl : w2 = (.int i2) := Option.some.inj ei2
  obtain ⟨n, o, h1, h2, h3, _, L, rfl, ⟨rfl, N⟩, hq⟩ := rm0 l s _ hw tables_1 i0 i1 i2 s.heap s.heap.size (Nat.le_refl _) p e ha hc hk s m _ below hf ((Spec.applies_iff_loose hf).mp happ).1 ⟨rfl, State.Warmed39.refl s, rfl⟩ trivial
  refine ⟨n, _, h1, h2, h3, hpost _ _ _ _ _ _ ⟨Cond.after_iff.mpr rfl, Cond.after_iff.mpr (eq_i res_at (Term.int_eval (1)) rfl), trivial⟩ ⟨hq.1, hq.2.1, (hq.2.2.sift fun y hy => Or.inr (N y hy)).mono (by decide) (by decide)⟩⟩
theorem main_1_1 : Claimed_1_1 := comes_1 fun _ _ _ _ _ _ h hF => ⟨h.1, hF⟩
theorem main_1_2 : Claimed_1_2 := comes_1 fun _ _ _ _ _ _ h hF => ⟨h.2.1, hF⟩
end Jvm.Pilot.@@N@@
namespace Jvm.Pilot.@@N@@
open Jvm Jvm.ClassFile Sem Op Lib Jvm.Free Jvm.Stand Jvm.Pilot.@@N@@.Jvm.D
/-! MADE BY PROGRAM (witnessworld.py) out of the Statement's table words and the real class files: 10 classes; the members and pool entries that the words name. The judged class is class 1, her method 1. -/
namespace start1
open Jvm.ClassFile
def u (s : String) : CpInfo := .utf8 (stringToUtf16 s)
/-- a pool by its gaps: so many unusable entries, then the entry; so many at the end -/
def gap : Nat → List CpInfo → List CpInfo
  | 0, r => r
  | n + 1, r => .unusable :: gap n r
def poolList (es : List (Nat × CpInfo)) (last : Nat) : List CpInfo := es.foldr (fun e r => gap e.1 (e.2 :: r)) (gap last [])
def pool (es : List (Nat × CpInfo)) (last : Nat) : Array CpInfo := ⟨poolList es last⟩
def fileOf (pool : Array CpInfo) (this : Nat) (attrs : Array Attribute := #[]) (ms : Array MethodInfo := #[]) (fl : Nat := 33) (sup : Nat := 0) (ifs : Array Nat := #[]) (fds : Array FieldInfo := #[]) : ClassFile where
  minorVersion := 0
  majorVersion := 65
  constantPool := pool
  accessFlags := fl
  thisClass := this
  superClass := sup
  interfaces := ifs
  fields := fds
  methods := ms
  attributes := attrs
def plain (name : String) (sup : Option ClassId) : Class where
  name := name
  kind := .ordinary
  loader := none
  accessFlags := 33
  super := sup
  interfaces := #[]
  cf := none
  fields := #[]
  methods := #[]
  instanceTypes := #[]
  staticTypes := #[]
  resolved := #[]
  callSites := []
  init := .initialized
  statics := none
  mirror := none

def pool0 : Array CpInfo := pool [(5, u "<init>"), (0, u "()V"), (1, .class_ 10), (1, u "java/lang/Object")] 113

def k0m0 : Method := { name := "<init>", desc := "()V", sig := { parameters := [], returnType := none }, accessFlags := 1, code := none }
/-- java/lang/Object -/
def k0 : Class := { plain "java/lang/Object" none with
  accessFlags := 33
  interfaces := #[]
  cf := some (fileOf pool0 8 #[] #[{ accessFlags := 1, nameIndex := 5, descriptorIndex := 6, attributes := #[] }] 33 0 #[] #[])
  fields := #[]
  methods := #[k0m0]
  instanceTypes := #[]
  staticTypes := #[]
  resolved := Array.replicate 124 none
  statics := none }

def pool1 : Array CpInfo := pool [(2, .class_ 4), (1, u "java/lang/Object"), (0, u "<init>"), (0, u "()V"), (0, .double 4503599627370496), (1, .double 9074753249151549440), (1, .long 4294967296), (1, .methodref 14 15), (0, .class_ 16), (0, .nameAndType 17 18), (0, u "com/example/bidfold/bidfold/solve/ReserveLine$Meeting"), (0, u "representable"), (0, u "(D)Z"), (0, .class_ 20), (0, u "com/example/bidfold/bidfold/solve/MeetingRepresentablePinLaw"), (2, u "law"), (0, u "(III)Z")] 7

def k1m0 : Method := { name := "<init>", desc := "()V", sig := { parameters := [], returnType := none }, accessFlags := 1, code := none }
def k1c1 : Code := { maxStack := 7, maxLocals := 8, code := code, exceptionTable := #[], attributes := #[] }
def k1m1 : Method := { name := "law", desc := "(III)Z", sig := { parameters := [.int, .int, .int], returnType := some .boolean }, accessFlags := 9, code := some k1c1 }
/-- com/example/bidfold/bidfold/solve/MeetingRepresentablePinLaw -/
def k1 : Class := { plain "com/example/bidfold/bidfold/solve/MeetingRepresentablePinLaw" (some 0) with
  accessFlags := 49
  interfaces := #[]
  cf := some (fileOf pool1 19 #[] #[{ accessFlags := 1, nameIndex := 5, descriptorIndex := 6, attributes := #[] }, { accessFlags := 9, nameIndex := 23, descriptorIndex := 24, attributes := #[] }] 49 2 #[] #[])
  fields := #[]
  methods := #[k1m0, k1m1]
  instanceTypes := #[]
  staticTypes := #[]
  resolved := Array.replicate 32 none
  statics := none }

def pool2 : Array CpInfo := pool [(1, .class_ 2), (0, u "java/lang/Comparable"), (0, .class_ 4), (0, u "java/lang/Object")] 7

/-- java/lang/Comparable -/
def k2 : Class := { plain "java/lang/Comparable" (some 0) with
  accessFlags := 1537
  interfaces := #[]
  cf := some (fileOf pool2 1 #[] #[] 1537 3 #[] #[])
  fields := #[]
  methods := #[]
  instanceTypes := #[]
  staticTypes := #[]
  resolved := Array.replicate 12 none
  statics := none }

def pool3 : Array CpInfo := pool [(2, .class_ 4), (1, u "java/lang/Object"), (3, .class_ 10), (1, u "com/example/bidfold/bidfold/solve/ReserveLine$Meeting"), (0, u "bid"), (0, u "J"), (2, u "across"), (0, u "Lcom/example/bidfold/bidfold/model/Rational;"), (2, u "acrossApproximate"), (0, u "D"), (2, u "count"), (2, u "representable"), (0, u "(D)Z"), (6, u "approximate"), (0, .double 4503599627370496), (1, .double 9218868437227405312), (3, u "factor"), (12, u "scaled"), (0, u "Ljava/math/BigInteger;"), (82, .class_ 139), (0, u "java/lang/Comparable"), (0, u "APART"), (17, .class_ 159), (0, u "com/example/bidfold/bidfold/solve/ReserveLine")] 21

def k3c0 : Code := { maxStack := 4, maxLocals := 2, code := prog_51_method_2_code, exceptionTable := #[], attributes := #[] }
def k3m0 : Method := { name := "representable", desc := "(D)Z", sig := { parameters := [.double], returnType := some .boolean }, accessFlags := 8, code := some k3c0 }
/-- com/example/bidfold/bidfold/solve/ReserveLine$Meeting -/
def k3 : Class := { plain "com/example/bidfold/bidfold/solve/ReserveLine$Meeting" (some 0) with
  accessFlags := 48
  interfaces := #[2]
  cf := some (fileOf pool3 8 #[.nestHost 158] #[{ accessFlags := 8, nameIndex := 26, descriptorIndex := 27, attributes := #[] }] 48 2 #[138] #[{ accessFlags := 26, nameIndex := 140, descriptorIndex := 20, attributes := #[] }, { accessFlags := 18, nameIndex := 11, descriptorIndex := 12, attributes := #[] }, { accessFlags := 18, nameIndex := 15, descriptorIndex := 16, attributes := #[] }, { accessFlags := 18, nameIndex := 19, descriptorIndex := 20, attributes := #[] }, { accessFlags := 18, nameIndex := 23, descriptorIndex := 12, attributes := #[] }, { accessFlags := 18, nameIndex := 34, descriptorIndex := 20, attributes := #[] }, { accessFlags := 2, nameIndex := 41, descriptorIndex := 16, attributes := #[] }, { accessFlags := 2, nameIndex := 54, descriptorIndex := 55, attributes := #[] }])
  fields := #[{ name := "APART", type := .double, accessFlags := 26, slot := 0, constantValue := 0 }, { name := "bid", type := .long, accessFlags := 18, slot := 0, constantValue := 0 }, { name := "across", type := (.object "com/example/bidfold/bidfold/model/Rational"), accessFlags := 18, slot := 1, constantValue := 0 }, { name := "acrossApproximate", type := .double, accessFlags := 18, slot := 2, constantValue := 0 }, { name := "count", type := .long, accessFlags := 18, slot := 3, constantValue := 0 }, { name := "approximate", type := .double, accessFlags := 18, slot := 4, constantValue := 0 }, { name := "factor", type := (.object "com/example/bidfold/bidfold/model/Rational"), accessFlags := 2, slot := 5, constantValue := 0 }, { name := "scaled", type := (.object "java/math/BigInteger"), accessFlags := 2, slot := 6, constantValue := 0 }]
  methods := #[k3m0]
  instanceTypes := #[.long, (.object "com/example/bidfold/bidfold/model/Rational"), .double, .long, .double, (.object "com/example/bidfold/bidfold/model/Rational"), (.object "java/math/BigInteger")]
  staticTypes := #[.double]
  resolved := Array.replicate 181 none
  statics := none }

def pool4 : Array CpInfo := pool [(1, u "java/lang/Cloneable"), (0, .class_ 1), (0, u "java/lang/Object"), (0, .class_ 3)] 3

/-- java/lang/Cloneable -/
def k4 : Class := { plain "java/lang/Cloneable" (some 0) with
  accessFlags := 1537
  interfaces := #[]
  cf := some (fileOf pool4 2 #[] #[] 1537 4 #[] #[])
  fields := #[]
  methods := #[]
  instanceTypes := #[]
  staticTypes := #[]
  resolved := Array.replicate 8 none
  statics := none }

def pool5 : Array CpInfo := pool [(1, u "java/io/Serializable"), (0, .class_ 1), (0, u "java/lang/Object"), (0, .class_ 3)] 3

/-- java/io/Serializable -/
def k5 : Class := { plain "java/io/Serializable" (some 0) with
  accessFlags := 1537
  interfaces := #[]
  cf := some (fileOf pool5 2 #[] #[] 1537 4 #[] #[])
  fields := #[]
  methods := #[]
  instanceTypes := #[]
  staticTypes := #[]
  resolved := Array.replicate 8 none
  statics := none }

/-- the primitive byte -/
def k6 : Class := { plain "byte" none with kind := .primitive 'B', accessFlags := 0x411 }
/-- [B -/
def k7 : Class := { plain "[B" (some 0) with kind := .array 6 .byte, interfaces := #[4, 5], accessFlags := 1041 }

/-- the primitive int -/
def k8 : Class := { plain "int" none with kind := .primitive 'I', accessFlags := 0x411 }
/-- [I -/
def k9 : Class := { plain "[I" (some 0) with kind := .array 8 .int, interfaces := #[4, 5], accessFlags := 1041 }

def heap : Heap := #[]
def classes : Array Class := #[k0, k1, k2, k3, k4, k5, k6, k7, k8, k9]
def interned : List (Array UInt16 × Addr) := []
def slotsUsed : Nat := 0
def theMethod : MethodId := ⟨1, 1⟩
def args0 : Array Value := #[.int 5, .int 7, .int 1]
def aboutOver (below : List Frame) : State where
  vm := { classes := classes, interned := interned.toArray }
  heap := heap
  slotsUsed := slotsUsed
  threads := #[{ frames := .invoking theMethod args0 :: below }]
def below0 : List Frame := [.native { method := ⟨0, 0⟩, args := #[] }]
def about1 : State := aboutOver below0
def p0 : Program := .bare "" "" ""
def e0 : Env := launch0.env 0 0 0
theorem w_frames : about1.frames = Frame.invoking theMethod args0 :: below0 := rfl
set_option maxRecDepth 65536 in
theorem w_args : argsFit about1.vm theMethod args0 = true := by decide +kernel
set_option maxRecDepth 65536 in
theorem w_heap : heapFits about1 = true := by decide +kernel
set_option maxRecDepth 65536 in
theorem w_runnable : about1.curStatus? = some .runnable := by decide +kernel
set_option maxRecDepth 65536 in
theorem w_alone : about1.alone = true := by decide +kernel
set_option maxRecDepth 65536 in
theorem w_named : about1.methodNamed? x = some theMethod := by decide +kernel
set_option maxRecDepth 65536 in
theorem w_hears : about1.hears theMethod below0 = true := by decide +kernel
set_option maxRecDepth 65536 in
theorem w_ripe : about1.ripe theMethod args0 below0 = true := by decide +kernel
theorem w_running : about1.status = .running := rfl
set_option maxRecDepth 65536 in
theorem w_room : about1.hasRoom e0.platform room_1 = true :=
  launch0.hasRoom_least _ room_1 (by decide +kernel) (by decide +kernel) (by decide +kernel) (by decide +kernel) (by decide +kernel) (by decide +kernel)
theorem allAtoms_all (ts : List Jvm.Cond) (a : Array Jvm.Value) (st : Jvm.State) : (allAtoms ts).before a st = ts.all (fun c => c.before a st) := by
  induction ts with
  | nil => rfl
  | cons c t ih =>
    show (Jvm.Cond.and c (allAtoms t)).before a st = _
    rw [Jvm.Cond.before_and, ih, List.all_cons]
def words1 : List Jvm.Cond := Jvm.Cond.code x code maxLocals ret :: tables_1
/-- a 'code' word, met by the world's own term for the bytes: nothing is compared byte by byte -/
theorem code_word {y : MethodName} {bytes : ByteArray} {mx : Nat} {rt : Option FieldType} {a : Array Value} {s : State} {m : MethodId} {meth : Method} {c : Code} (h1 : s.methodNamed? y = some m) (h2 : s.vm.method? m = some meth) (h3 : meth.code = some c) (h4 : c.code = bytes)
    (h5 : (c.maxLocals == mx && c.exceptionTable.isEmpty && decide (c.maxStack ≤ mostOperands) && decide (meth.sig.returnType = rt) && !meth.locks && decide (parseMethodDescriptor y.desc = some meth.sig)) = true) : (Jvm.Cond.code y bytes mx rt).before a s = true := by
  simp only [Bool.and_eq_true, beq_iff_eq, Bool.not_eq_true', decide_eq_true_eq] at h5
  obtain ⟨⟨⟨⟨⟨g1, g2⟩, g3⟩, g4⟩, g5⟩, g6⟩ := h5
  simp [Cond.before, Cond.holds, Cond.value, h1, h2, h3, h4, g1, g2, g3, g4, g5, g6]
def isCode : Jvm.Cond → Bool
  | .code _ _ _ _ => true
  | _ => false
theorem all_split {L : List Jvm.Cond} {P : Jvm.Cond → Bool} (h1 : L.all (fun c => isCode c || P c) = true) (h2 : ∀ c ∈ L.filter isCode, P c = true) : L.all P = true := by
  refine List.all_eq_true.mpr fun c hc => ?_
  have h := List.all_eq_true.mp h1 c hc
  rcases Bool.eq_false_or_eq_true (isCode c) with hi | hi
  · exact h2 c (List.mem_filter.mpr ⟨hc, hi⟩)
  · simpa [hi] using h
set_option maxRecDepth 65536 in
theorem w_c0 : (Jvm.Cond.code x code maxLocals ret).before args0 about1 = true := code_word (m := ⟨1, 1⟩) (meth := k1m1) (c := k1c1) (by decide +kernel) rfl rfl rfl (by decide +kernel)
set_option maxRecDepth 65536 in
theorem w_c1 : (Jvm.Cond.code ({ cls := "com/example/bidfold/bidfold/solve/ReserveLine$Meeting", name := "representable", desc := "(D)Z" } : Jvm.MethodName) prog_51_method_2_code (2 : Nat) (Option.some Jvm.ClassFile.FieldType.boolean)).before args0 about1 = true := code_word (m := ⟨3, 0⟩) (meth := k3m0) (c := k3c0) (by decide +kernel) rfl rfl rfl (by decide +kernel)
def codes1 : List Jvm.Cond := [Jvm.Cond.code x code maxLocals ret, Jvm.Cond.code ({ cls := "com/example/bidfold/bidfold/solve/ReserveLine$Meeting", name := "representable", desc := "(D)Z" } : Jvm.MethodName) prog_51_method_2_code (2 : Nat) (Option.some Jvm.ClassFile.FieldType.boolean)]
set_option maxRecDepth 65536 in
theorem codes_eq : words1.filter isCode = codes1 := rfl
theorem w_codes : ∀ c ∈ words1.filter isCode, c.before args0 about1 = true := by
  rw [codes_eq]
  intro c hc
  simp only [codes1, List.mem_cons, List.not_mem_nil, or_false] at hc
  rcases hc with rfl | rfl
  · exact w_c0
  · exact w_c1
set_option maxRecDepth 65536 in
theorem w_t1 : words1.all (fun c => isCode c || c.before args0 about1) = true := by decide +kernel
theorem w_tables : (allAtoms (Jvm.Cond.code x code maxLocals ret :: tables_1)).before args0 about1 = true := by
  rw [allAtoms_all]
  show words1.all (fun c => c.before args0 about1) = true
  refine all_split ?_ w_codes
  rw [w_t1]
set_option maxRecDepth 65536 in
theorem w_case : (Jvm.Cond.and given_1 narrow_1).before args0 about1 = true := by decide +kernel
theorem w_applies : (headSpec (Jvm.Cond.code x code maxLocals ret :: tables_1) room_1).applies x e0.platform about1 = true :=
  (Spec.applies_iff w_frames).mpr ⟨w_running, w_runnable, w_alone, w_named, w_hears, w_ripe, w_room, w_tables⟩
theorem atStart : AtStart classFile x code maxLocals ret World_1 tables_1 room_1 Calls_1 rest_1 Pre_1 launch0 p0 e0 about1 theMethod args0 below0 :=
  ⟨lists_1, trivial, launch0.admits_env _ _ _, launch0.least_env, fairChoices_fair.cas, fairChoices_fair.clock, w_frames, w_args, w_heap, w_applies, trivial, trivial, w_case⟩
end start1
theorem witness_1 : WitnessClaimed_1 := ⟨start1.p0, start1.e0, start1.about1, start1.theMethod, start1.args0, start1.below0, start1.atStart⟩
end Jvm.Pilot.@@N@@
