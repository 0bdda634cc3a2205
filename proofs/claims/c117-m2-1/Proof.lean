import JvmDerived
import JvmDerived.Pilot.@@N@@Statement
import JvmDerived.Pilot.@@N@@Code
set_option linter.unusedVariables false
set_option linter.unusedSimpArgs false
namespace Jvm.RoadKit
open Sem ClassFile Op Lib Jvm.Stand Jvm.Free Jvm.LawKit
section New
variable {p : Program} {l : Launch} {e : Env} {R : Room} {s : State} {m : MethodId} {args : Array Value} {below : List Frame} {meth : Method} {c : Code} {T : State} {locs : List Loc} {cells slots : Nat}
theorem retI (X : Stand p l e R s m args below meth c T locs cells slots) (hx : p.tables.exec = Jvm.exec) {pc : Nat} {Ls : Array Slot} {z : Int32} {rest : List Value} (hret : meth.sig.returnType = some .int) (hd : decode c.code pc = .ok (.ireturn, 1)) {fs : List Frame}
    (hl : ∀ (f : JFrame) (acts : List Action), f.method = m → f.locked = none → f.entered = [] → (doReturn e (T.setTop f) acts (some (.int z))).1 = T.setFrames fs) : Steps p.tables e below (T.setTop (mkF m pc Ls (.int z :: rest))) (T.setFrames fs) :=
  retOut X hx hret rfl (Or.inl ⟨rfl, Or.inl rfl, z, rfl⟩) hd hl
end New
end Jvm.RoadKit
namespace Jvm.Pilot.@@N@@
open Jvm Jvm.ClassFile Sem Op Lib Jvm.Free Jvm.Stand Jvm.LawKit Jvm.RoadKit Bundle Jvm.Pilot.@@N@@.Jvm.D
theorem own_dloadN {tb : Tables} [Ours tb] {e : Env} {below : List Frame} {T target : State} {m : MethodId} {c : Code} {g : JFrame} (h : At T m c below) (hx : tb.exec = Jvm.exec) (hg : g.method = m) {k : Fin 4} {v : UInt64} (hd : decode c.code g.pc = .ok (.dload_n k, 1)) (hl : g.locals[k.val]? = some (.val (.double v)))
    (hr : Steps tb e below (T.setTop { g with pc := g.pc + 1, stack := .double v :: g.stack }) target) : Steps tb e below (T.setTop g) target := by
  subst hg
  jvm_step h [h.top, hx, hd, hl]
  exact hr
theorem own_dload {tb : Tables} [Ours tb] {e : Env} {below : List Frame} {T target : State} {m : MethodId} {c : Code} {g : JFrame} (h : At T m c below) (hx : tb.exec = Jvm.exec) (hg : g.method = m) {k : Nat} {v : UInt64} (hd : decode c.code g.pc = .ok (.dload k, 2)) (hl : g.locals[k]? = some (.val (.double v)))
    (hr : Steps tb e below (T.setTop { g with pc := g.pc + 2, stack := .double v :: g.stack }) target) : Steps tb e below (T.setTop g) target := by
  subst hg
  jvm_step h [h.top, hx, hd, hl]
  exact hr
theorem own_dstoreN {tb : Tables} [Ours tb] {e : Env} {below : List Frame} {T target : State} {m : MethodId} {c : Code} {g : JFrame} (h : At T m c below) (hx : tb.exec = Jvm.exec) (hg : g.method = m) {k : Fin 4} {x : UInt64} {rest : List Value} {l' : Array Slot} (hd : decode c.code g.pc = .ok (.dstore_n k, 1)) (hs : g.stack = .double x :: rest) (hl : storeLocals g.locals k.val (.double x) = some l')
    (hr : Steps tb e below (T.setTop { g with pc := g.pc + 1, stack := rest, locals := l' }) target) : Steps tb e below (T.setTop g) target := by
  subst hg
  jvm_step h [h.top, hx, hd, hs, hl]
  exact hr
theorem own_dstore {tb : Tables} [Ours tb] {e : Env} {below : List Frame} {T target : State} {m : MethodId} {c : Code} {g : JFrame} (h : At T m c below) (hx : tb.exec = Jvm.exec) (hg : g.method = m) {k : Nat} {x : UInt64} {rest : List Value} {l' : Array Slot} (hd : decode c.code g.pc = .ok (.dstore k, 2)) (hs : g.stack = .double x :: rest) (hl : storeLocals g.locals k (.double x) = some l')
    (hr : Steps tb e below (T.setTop { g with pc := g.pc + 2, stack := rest, locals := l' }) target) : Steps tb e below (T.setTop g) target := by
  subst hg
  jvm_step h [h.top, hx, hd, hs, hl]
  exact hr
theorem own_dconst0 {tb : Tables} [Ours tb] {e : Env} {below : List Frame} {T target : State} {m : MethodId} {c : Code} {g : JFrame} (h : At T m c below) (hx : tb.exec = Jvm.exec) (hg : g.method = m) (hd : decode c.code g.pc = .ok (.dconst 0, 1))
    (hr : Steps tb e below (T.setTop { g with pc := g.pc + 1, stack := .double FP.dconst0 :: g.stack }) target) : Steps tb e below (T.setTop g) target := by
  subst hg
  jvm_step h [h.top, hx, hd]
  exact hr
theorem own_dconst1 {tb : Tables} [Ours tb] {e : Env} {below : List Frame} {T target : State} {m : MethodId} {c : Code} {g : JFrame} (h : At T m c below) (hx : tb.exec = Jvm.exec) (hg : g.method = m) (hd : decode c.code g.pc = .ok (.dconst 1, 1))
    (hr : Steps tb e below (T.setTop { g with pc := g.pc + 1, stack := .double FP.dconst1 :: g.stack }) target) : Steps tb e below (T.setTop g) target := by
  subst hg
  jvm_step h [h.top, hx, hd]
  exact hr
theorem own_i2d {tb : Tables} [Ours tb] {e : Env} {below : List Frame} {T target : State} {m : MethodId} {c : Code} {g : JFrame} (h : At T m c below) (hx : tb.exec = Jvm.exec) (hg : g.method = m) {x : Int32} {rest : List Value} (hd : decode c.code g.pc = .ok (.i2d, 1)) (hs : g.stack = .int x :: rest)
    (hr : Steps tb e below (T.setTop { g with pc := g.pc + 1, stack := .double (FP.i2d x) :: rest }) target) : Steps tb e below (T.setTop g) target := by
  subst hg
  jvm_step h [h.top, hx, hd, hs]
  exact hr
theorem own_l2d {tb : Tables} [Ours tb] {e : Env} {below : List Frame} {T target : State} {m : MethodId} {c : Code} {g : JFrame} (h : At T m c below) (hx : tb.exec = Jvm.exec) (hg : g.method = m) {x : Int64} {rest : List Value} (hd : decode c.code g.pc = .ok (.l2d, 1)) (hs : g.stack = .long x :: rest)
    (hr : Steps tb e below (T.setTop { g with pc := g.pc + 1, stack := .double (FP.l2d x) :: rest }) target) : Steps tb e below (T.setTop g) target := by
  subst hg
  jvm_step h [h.top, hx, hd, hs]
  exact hr
theorem own_d2l {tb : Tables} [Ours tb] {e : Env} {below : List Frame} {T target : State} {m : MethodId} {c : Code} {g : JFrame} (h : At T m c below) (hx : tb.exec = Jvm.exec) (hg : g.method = m) {x : UInt64} {rest : List Value} (hd : decode c.code g.pc = .ok (.d2l, 1)) (hs : g.stack = .double x :: rest)
    (hr : Steps tb e below (T.setTop { g with pc := g.pc + 1, stack := .long (FP.d2l x) :: rest }) target) : Steps tb e below (T.setTop g) target := by
  subst hg
  jvm_step h [h.top, hx, hd, hs]
  exact hr
theorem own_d2i {tb : Tables} [Ours tb] {e : Env} {below : List Frame} {T target : State} {m : MethodId} {c : Code} {g : JFrame} (h : At T m c below) (hx : tb.exec = Jvm.exec) (hg : g.method = m) {x : UInt64} {rest : List Value} (hd : decode c.code g.pc = .ok (.d2i, 1)) (hs : g.stack = .double x :: rest)
    (hr : Steps tb e below (T.setTop { g with pc := g.pc + 1, stack := .int (FP.d2i x) :: rest }) target) : Steps tb e below (T.setTop g) target := by
  subst hg
  jvm_step h [h.top, hx, hd, hs]
  exact hr
theorem own_dneg {tb : Tables} [Ours tb] {e : Env} {below : List Frame} {T target : State} {m : MethodId} {c : Code} {g : JFrame} (h : At T m c below) (hx : tb.exec = Jvm.exec) (hg : g.method = m) {x : UInt64} {rest : List Value} (hd : decode c.code g.pc = .ok (.dneg, 1)) (hs : g.stack = .double x :: rest)
    (hr : Steps tb e below (T.setTop { g with pc := g.pc + 1, stack := .double (FP.dneg x) :: rest }) target) : Steps tb e below (T.setTop g) target := by
  subst hg
  jvm_step h [h.top, hx, hd, hs]
  exact hr
theorem own_dcmp {tb : Tables} [Ours tb] {e : Env} {below : List Frame} {T target : State} {m : MethodId} {c : Code} {g : JFrame} (h : At T m c below) (hx : tb.exec = Jvm.exec) (hg : g.method = m) {op : CmpOp} {x y : UInt64} {rest : List Value} (hd : decode c.code g.pc = .ok (.dcmp op, 1)) (hs : g.stack = .double y :: .double x :: rest)
    (hr : Steps tb e below (T.setTop { g with pc := g.pc + 1, stack := .int (cmpValue (FP.dcmp x y) op) :: rest }) target) : Steps tb e below (T.setTop g) target := by
  subst hg
  jvm_step h [h.top, hx, hd, hs]
  exact hr
theorem own_dadd {tb : Tables} [Ours tb] {e : Env} {below : List Frame} {T target : State} {m : MethodId} {c : Code} {g : JFrame} (h : At T m c below) (hx : tb.exec = Jvm.exec) (hg : g.method = m) {x y : UInt64} {rest : List Value} (hd : decode c.code g.pc = .ok (.dadd, 1)) (hs : g.stack = .double y :: .double x :: rest) (hn : Jvm.Free.Fl.NoNaN64 (FP.dadd x y))
    (hr : Steps tb e below (T.setTop { g with pc := g.pc + 1, stack := .double (FP.dadd x y) :: rest }) target) : Steps tb e below (T.setTop g) target := by
  obtain ⟨gm, gpc, gl, gs, glk, gen, gmr⟩ := g
  subst hg
  dsimp only at hs
  subst hs
  jvm_step h [hx, hd, Op.dadd.at_number h.top hn]
  exact hr
theorem own_dsub {tb : Tables} [Ours tb] {e : Env} {below : List Frame} {T target : State} {m : MethodId} {c : Code} {g : JFrame} (h : At T m c below) (hx : tb.exec = Jvm.exec) (hg : g.method = m) {x y : UInt64} {rest : List Value} (hd : decode c.code g.pc = .ok (.dsub, 1)) (hs : g.stack = .double y :: .double x :: rest) (hn : Jvm.Free.Fl.NoNaN64 (FP.dsub x y))
    (hr : Steps tb e below (T.setTop { g with pc := g.pc + 1, stack := .double (FP.dsub x y) :: rest }) target) : Steps tb e below (T.setTop g) target := by
  obtain ⟨gm, gpc, gl, gs, glk, gen, gmr⟩ := g
  subst hg
  dsimp only at hs
  subst hs
  jvm_step h [hx, hd, Op.dsub.at_number h.top hn]
  exact hr
theorem own_dmul {tb : Tables} [Ours tb] {e : Env} {below : List Frame} {T target : State} {m : MethodId} {c : Code} {g : JFrame} (h : At T m c below) (hx : tb.exec = Jvm.exec) (hg : g.method = m) {x y : UInt64} {rest : List Value} (hd : decode c.code g.pc = .ok (.dmul, 1)) (hs : g.stack = .double y :: .double x :: rest) (hn : Jvm.Free.Fl.NoNaN64 (FP.dmul x y))
    (hr : Steps tb e below (T.setTop { g with pc := g.pc + 1, stack := .double (FP.dmul x y) :: rest }) target) : Steps tb e below (T.setTop g) target := by
  obtain ⟨gm, gpc, gl, gs, glk, gen, gmr⟩ := g
  subst hg
  dsimp only at hs
  subst hs
  jvm_step h [hx, hd, Op.dmul.at_number h.top hn]
  exact hr
theorem own_ddiv {tb : Tables} [Ours tb] {e : Env} {below : List Frame} {T target : State} {m : MethodId} {c : Code} {g : JFrame} (h : At T m c below) (hx : tb.exec = Jvm.exec) (hg : g.method = m) {x y : UInt64} {rest : List Value} (hd : decode c.code g.pc = .ok (.ddiv, 1)) (hs : g.stack = .double y :: .double x :: rest) (hn : Jvm.Free.Fl.NoNaN64 (FP.ddiv x y))
    (hr : Steps tb e below (T.setTop { g with pc := g.pc + 1, stack := .double (FP.ddiv x y) :: rest }) target) : Steps tb e below (T.setTop g) target := by
  obtain ⟨gm, gpc, gl, gs, glk, gen, gmr⟩ := g
  subst hg
  dsimp only at hs
  subst hs
  jvm_step h [hx, hd, Op.ddiv.at_number h.top hn]
  exact hr
theorem own_dup2D {tb : Tables} [Ours tb] {e : Env} {below : List Frame} {T target : State} {m : MethodId} {c : Code} {g : JFrame} (h : At T m c below) (hx : tb.exec = Jvm.exec) (hg : g.method = m) {x : UInt64} {rest : List Value} (hd : decode c.code g.pc = .ok (.dup2, 1)) (hs : g.stack = .double x :: rest)
    (hr : Steps tb e below (T.setTop { g with pc := g.pc + 1, stack := .double x :: .double x :: rest }) target) : Steps tb e below (T.setTop g) target := by
  subst hg
  jvm_step h [h.top, hx, hd, hs, Value.category]
  exact hr
theorem own_retD {p : Program} {l : Launch} {e : Env} {R : Room} {s : State} {m : MethodId} {args : Array Value} {below : List Frame} {meth : Method} {c : Code} {T : State} {locs : List Loc} {cells slots : Nat} (Y : Stand p l e R s m args below meth c T locs cells slots) (hexec : p.tables.exec = Jvm.exec) {pc : Nat} {Ls : Array Slot} {w : UInt64} {rest : List Value} (hret : meth.sig.returnType = some .double)
    (hdg : decode c.code pc = .ok (.dreturn, 1)) {fs : List Frame} (hleave : ∀ (f : JFrame) (acts : List Action), f.method = m → f.locked = none → f.entered = [] → (doReturn e (T.setTop f) acts (some (.double w))).1 = T.setFrames fs) :
    Steps p.tables e below (T.setTop (mkF m pc Ls (.double w :: rest))) (T.setFrames fs) :=
  retOut Y hexec hret rfl (Or.inr (Or.inr (Or.inl ⟨rfl, rfl, w, rfl⟩))) hdg hleave
theorem own_stD {p : Program} {l : Launch} {e : Env} {R : Room} {s : State} {m : MethodId} {args : Array Value} {below : List Frame} {meth : Method} {c : Code} {T : State} {locs : List Loc} {cells slots : Nat} {Z : State} {h : Heap}
    (X : Stand p l e R s m args below meth c T locs cells slots) (hx : p.tables.exec = Jvm.exec) (hZ : Z.Warmed39 s.vm) (eT : T.heap = h) {a : Addr} {cl : Cell} (A : Arr Z h a cl .double) {j : Int32} {x : UInt64} (hj : ¬ (j < 0 ∨ cl.slots.size ≤ j.toNatClampNeg)) {g : JFrame} (hg : g.method = m) {rest : List Value} (hs : g.stack = .double x :: .int j :: .ref a :: rest) (hd : decode c.code g.pc = .ok (.dastore, 1)) :
    ∃ T' h', Stand p l e R s m args below meth c T' (locs ++ [⟨a, j.toNatClampNeg⟩]) cells slots ∧ T'.heap = h' ∧ Wr h h' a j.toNatClampNeg (.double x) ∧ ∀ target, Steps p.tables e below (T'.setTop { g with pc := g.pc + 1, stack := rest }) target → Steps p.tables e below (T.setTop g) target := by
  obtain ⟨X', st⟩ := X.dastore hx (by rw [eT]; exact A.1) (State.isArrayOf_alike hZ.alike A.2.1) A.2.2 hj hg hs hd
  exact ⟨_, _, X', rfl, ⟨cl, A.1, A.plain, Nat.lt_of_not_le fun q => hj (Or.inr q), by rw [← eT]; rfl⟩, st⟩
section OwnDy
open Jvm.FP Jvm.FP.Core
/-- the datum's exponent moved by j -/
def own_sh (j : Int) : Datum → Datum
  | .fin s c q => .fin s c (q + j)
  | d => d
/-- the datum is n * 2^k -/
def own_Dy (n k : Int) (d : Datum) : Prop := Whole n (own_sh (-k) d)
theorem own_dy0 {n : Int} {d : Datum} : own_Dy n 0 d ↔ Whole n d := by
  cases d with
  | nan => exact Iff.rfl
  | inf => exact Iff.rfl
  | fin s c q =>
    show Whole n (.fin s c (q + -0)) ↔ _
    rw [show q + -0 = q by omega]
theorem own_sh_sum (j : Int) (x y : Datum) : exactSum (own_sh j x) (own_sh j y) = own_sh j (exactSum x y) := by
  cases x <;> cases y <;> try rfl
  · simp only [own_sh, exactSum]; split <;> rfl
  · rename_i s c q t d r
    have hm : min (q + j) (r + j) = min q r + j := by omega
    have hu : sumUnits s c (q + j) t d (r + j) (min q r + j) = sumUnits s c q t d r (min q r) := by
      unfold sumUnits inUnits
      rw [show q + j - (min q r + j) = q - min q r by omega, show r + j - (min q r + j) = r - min q r by omega]
    simp only [own_sh, exactSum, hm, hu]
theorem own_sh_prod (i j : Int) (x y : Datum) : exactProduct (own_sh i x) (own_sh j y) = own_sh (i + j) (exactProduct x y) := by
  cases x <;> cases y <;> try rfl
  · simp only [own_sh, exactProduct]; split <;> rfl
  · simp only [own_sh, exactProduct]; split <;> rfl
  · simp only [own_sh, exactProduct, Datum.fin.injEq, true_and]; omega
theorem own_sh_order (j : Int) (x y : Datum) : order (own_sh j x) (own_sh j y) = order x y := by
  cases x <;> cases y <;> try rfl
  rename_i s c q t d r
  simp only [own_sh, order]
  unfold inUnits
  rw [show q + j - min (q + j) (r + j) = q - min q r by omega, show r + j - min (q + j) (r + j) = r - min q r by omega]
theorem own_sh_neg (j : Int) (x : Datum) : negate (own_sh j x) = own_sh j (negate x) := by cases x <;> rfl
theorem own_dy_sum {n m k : Int} {x y : Datum} (hx : own_Dy n k x) (hy : own_Dy m k y) : own_Dy (n + m) k (exactSum x y) := by
  unfold own_Dy; rw [← own_sh_sum]; exact whole_sum hx hy
theorem own_dy_neg {n k : Int} {x : Datum} (hx : own_Dy n k x) : own_Dy (-n) k (negate x) := by
  unfold own_Dy; rw [← own_sh_neg]; exact whole_negate hx
theorem own_dy_prod {n m k l : Int} {x y : Datum} (hx : own_Dy n k x) (hy : own_Dy m l y) : own_Dy (n * m) (k + l) (exactProduct x y) := by
  unfold own_Dy; rw [show -(k + l) = -k + -l by omega, ← own_sh_prod]; exact whole_product hx hy
theorem own_dy_order {n m k : Int} {x y : Datum} (hx : own_Dy n k x) (hy : own_Dy m k y) : order x y = some (compare n m) := by
  rw [← own_sh_order (-k)]; exact order_whole hx hy
theorem own_dy_fin {n k : Int} {x : Datum} (h : own_Dy n k x) : ∃ s c q, x = .fin s c q := by
  cases x with
  | nan => exact h.elim
  | inf => exact h.elim
  | fin s c q => exact ⟨s, c, q, rfl⟩
theorem own_dy_abs {n k q : Int} {s : Bool} {c : Nat} (h : own_Dy n k (.fin s c q)) : c * 2 ^ (q - k).toNat = n.natAbs * 2 ^ (k - q).toNat := by
  have := whole_natAbs (q := q + -k) h
  rw [show q + -k = q - k by omega, show -(q - k) = k - q by omega] at this
  exact this
theorem own_dy_sign {n k q : Int} {s : Bool} {c : Nat} (h : own_Dy n k (.fin s c q)) (hn : n ≠ 0) : s = decide (n < 0) := whole_sign (q := q + -k) h hn
theorem own_dy_mk {n k q : Int} {s : Bool} {c : Nat} (h : c * 2 ^ (q - k).toNat = n.natAbs * 2 ^ (k - q).toNat) (hs : n ≠ 0 → s = decide (n < 0)) : own_Dy n k (.fin s c q) := by
  show signed s (c * 2 ^ (q + -k).toNat) = n * ((2 ^ (-(q + -k)).toNat : Nat) : Int)
  rw [show q + -k = q - k by omega, show -(q - k) = k - q by omega, h]
  by_cases h0 : n = 0
  · subst h0; simp [signed]
  · rw [hs h0, signed_mul]
    congr 1
    unfold signed
    by_cases h : n < 0 <;> simp [h] <;> omega
/-- the same number in smaller units -/
theorem own_dy_scale {n k : Int} {x : Datum} (h : own_Dy n k x) (j : Nat) : own_Dy (n * ((2 ^ j : Nat) : Int)) (k - j) x := by
  obtain ⟨s, c, q, rfl⟩ := own_dy_fin h
  have p : 0 < 2 ^ j := Nat.two_pow_pos j
  refine own_dy_mk ?_ fun hn => ?_
  · have ha := own_dy_abs h
    rw [Int.natAbs_mul, Int.natAbs_natCast]
    have e1 : (q - (k - (j : Int))).toNat + (k - q).toNat = (q - k).toNat + j + (k - (j : Int) - q).toNat := by omega
    refine Nat.eq_of_mul_eq_mul_right (Nat.two_pow_pos (k - q).toNat) ?_
    calc c * 2 ^ (q - (k - (j : Int))).toNat * 2 ^ (k - q).toNat = c * 2 ^ ((q - (k - (j : Int))).toNat + (k - q).toNat) := by rw [Nat.pow_add, Nat.mul_assoc]
      _ = (c * 2 ^ (q - k).toNat) * 2 ^ j * 2 ^ (k - (j : Int) - q).toNat := by rw [e1, Nat.pow_add, Nat.pow_add]; simp only [Nat.mul_assoc]
      _ = n.natAbs * 2 ^ j * 2 ^ (k - (j : Int) - q).toNat * 2 ^ (k - q).toNat := by rw [ha]; ac_rfl
  · have p' : (0 : Int) < ((2 ^ j : Nat) : Int) := by omega
    have h0 : n ≠ 0 := fun h => hn (by rw [h, Int.zero_mul])
    rw [own_dy_sign h h0, decide_eq_decide]
    constructor
    · intro hl; exact Int.mul_neg_of_neg_of_pos hl p'
    · intro hl; exact Int.lt_of_not_ge fun hg => by have := Int.mul_nonneg hg (Int.le_of_lt p'); omega
/-- whole multiples of 2^k of at most 53 digits are doubles -/
theorem own_fit {n : Nat} {k : Int} (s : Bool) (hn : n ≤ 2 ^ 53) (h1 : -1074 ≤ k) (h2 : k ≤ 971) (h3 : n = 2 ^ 53 → k ≤ 970) : ∃ c q, Core.fits b64 (.fin s c q) ∧ n * 2 ^ (k - q).toNat = c * 1 * 2 ^ (q - k).toNat := by
  have ht : b64.tails = 2 ^ 52 := by decide
  have hp : b64.p = 53 := rfl
  have hm : b64.qmin = -1074 := by decide
  have hM : b64.qmax = 971 := by decide
  by_cases h0 : n = 0
  · subst h0
    exact ⟨0, b64.qmin, zero_fits good_b64 s, by simp⟩
  by_cases hp2 : n = 2 ^ 53
  · have h3 := h3 hp2
    refine ⟨2 ^ 52, k + 1, ⟨by rw [hp]; decide, by omega, by omega, .inr (by omega)⟩, ?_⟩
    rw [hp2, show (k - (k + 1)).toNat = 0 by omega, show (k + 1 - k).toNat = 1 by omega]
  · have l1 : 2 ^ n.log2 ≤ n := Nat.log2_self_le h0
    have l2 : n < 2 ^ (n.log2 + 1) := Nat.lt_log2_self
    have l3 : n.log2 < 53 := (Nat.pow_lt_pow_iff_right (by decide : 1 < 2)).mp (Nat.lt_of_le_of_lt l1 (by omega))
    generalize n.log2 = L at l1 l2 l3
    have hq : ∃ q : Int, q = max (-1074) ((L : Int) + k - 52) := ⟨_, rfl⟩
    obtain ⟨q, hq⟩ := hq
    have q1 : q ≤ k := by omega
    refine ⟨n * 2 ^ (k - q).toNat, q, ⟨?_, by omega, by omega, ?_⟩, ?_⟩
    · rw [hp]
      calc n * 2 ^ (k - q).toNat < 2 ^ (L + 1) * 2 ^ (k - q).toNat := Nat.mul_lt_mul_of_pos_right l2 (Nat.two_pow_pos _)
        _ = 2 ^ (L + 1 + (k - q).toNat) := by rw [← Nat.pow_add]
        _ ≤ 2 ^ 53 := Nat.pow_le_pow_right (by decide) (by omega)
    · by_cases hm2 : q = -1074
      · left; rw [hm]; exact hm2
      · right
        rw [ht]
        calc 2 ^ 52 = 2 ^ L * 2 ^ (k - q).toNat := by rw [← Nat.pow_add]; congr 1; omega
          _ ≤ n * 2 ^ (k - q).toNat := Nat.mul_le_mul_right _ l1
    · rw [show (q - k).toNat = 0 by omega]; simp
theorem own_dy_roundRatio {n k e : Int} {A B : Nat} {s : Bool} (hB : 0 < B) (hn : n.natAbs ≤ 2 ^ 53) (h1 : -1074 ≤ k) (h2 : k ≤ 970) (hA : A * 2 ^ (e - k).toNat = n.natAbs * B * 2 ^ (k - e).toNat) (hs : n ≠ 0 → s = decide (n < 0)) : own_Dy n k (roundRatio b64 s A B e) := by
  obtain ⟨c, q, hf, hv⟩ := own_fit (n := n.natAbs) s hn h1 (by omega) (fun _ => h2)
  have : roundRatio b64 s A B e = .fin s c q := by
    rw [roundRatio_congr (A' := n.natAbs) (B' := 1) (e' := k) hB (by decide) (by rw [Nat.mul_one]; exact hA)]
    exact roundRatio_exact good_b64 (by decide) hf hv
  rw [this]
  refine own_dy_mk ?_ hs
  rw [Nat.mul_one] at hv
  exact hv.symm
theorem own_dy_round {n k : Int} {d : Datum} (hn : n.natAbs ≤ 2 ^ 53) (h1 : -1074 ≤ k) (h2 : k ≤ 970) (h : own_Dy n k d) : own_Dy n k (round b64 d) := by
  obtain ⟨s, c, q, rfl⟩ := own_dy_fin h
  refine own_dy_roundRatio (by decide) hn h1 h2 ?_ (own_dy_sign h)
  rw [Nat.mul_one]; exact own_dy_abs h
theorem own_pow_cancel {a b x y : Nat} {u : Int} (h : a * 2 ^ x = b * 2 ^ y) (hu : u = (x : Int) - y) : a * 2 ^ u.toNat = b * 2 ^ (-u).toNat := by
  have hx : x = u.toNat + min x y := by omega
  have hy : y = (-u).toNat + min x y := by omega
  generalize u.toNat = v at *
  generalize (-u).toNat = w at *
  generalize min x y = t at hx hy
  subst hx hy
  rw [Nat.pow_add, Nat.pow_add, ← Nat.mul_assoc, ← Nat.mul_assoc] at h
  exact Nat.eq_of_mul_eq_mul_right (Nat.two_pow_pos t) h
/-- an exact quotient -/
theorem own_dy_quot {r m k l : Int} {x y : Datum} (hm : m ≠ 0) (hn : r.natAbs ≤ 2 ^ 53) (h1 : -1074 ≤ k) (h2 : k ≤ 970) (hx : own_Dy (r * m) (k + l) x) (hy : own_Dy m l y) : own_Dy r k (quotient b64 x y) := by
  obtain ⟨s, c, q, rfl⟩ := own_dy_fin hx
  obtain ⟨t, d, q', rfl⟩ := own_dy_fin hy
  have ha := own_dy_abs hx
  have hb := own_dy_abs hy
  have hd : d ≠ 0 := by
    rintro rfl
    rw [Nat.zero_mul] at hb
    rcases Nat.mul_eq_zero.mp hb.symm with h | h
    · exact hm (Int.natAbs_eq_zero.mp h)
    · have := Nat.two_pow_pos (l - q').toNat; omega
  show own_Dy r k (if d = 0 then _ else _)
  rw [if_neg hd]
  refine own_dy_roundRatio (Nat.pos_of_ne_zero hd) hn h1 h2 ?_ fun h0 => ?_
  · rw [Int.natAbs_mul] at ha
    have e1 : (q - q' - k) = (((q - (k + l)).toNat + (l - q').toNat : Nat) : Int) - (((k + l - q).toNat + (q' - l).toNat : Nat) : Int) := by omega
    have e2 : k - (q - q') = -(q - q' - k) := by omega
    rw [e2]
    refine own_pow_cancel (x := (q - (k + l)).toNat + (l - q').toNat) (y := (k + l - q).toNat + (q' - l).toNat) ?_ e1
    calc c * 2 ^ ((q - (k + l)).toNat + (l - q').toNat) = (c * 2 ^ (q - (k + l)).toNat) * 2 ^ (l - q').toNat := by rw [Nat.pow_add, Nat.mul_assoc]
      _ = r.natAbs * (m.natAbs * 2 ^ (l - q').toNat) * 2 ^ (k + l - q).toNat := by rw [ha]; ac_rfl
      _ = r.natAbs * d * 2 ^ ((k + l - q).toNat + (q' - l).toNat) := by rw [← hb, Nat.pow_add]; ac_rfl
  · have h3 : r * m ≠ 0 := fun h => (Int.mul_eq_zero.mp h).elim h0 hm
    rw [own_dy_sign hx h3, own_dy_sign hy hm]
    rcases Int.lt_or_gt_of_ne h0 with a | a <;> rcases Int.lt_or_gt_of_ne hm with b | b
    · have := Int.mul_pos_of_neg_of_neg a b; simp [a, b]; omega
    · have := Int.mul_neg_of_neg_of_pos a b; simp [a, this]; omega
    · have := Int.mul_neg_of_pos_of_neg a b; simp [b, this]; omega
    · have := Int.mul_pos a b; simp [show ¬ r < 0 by omega, show ¬ m < 0 by omega]; omega
theorem own_dy_unscale {n k : Int} {x : Datum} (j : Nat) (h : own_Dy (n * ((2 ^ j : Nat) : Int)) k x) : own_Dy n (k + j) x := by
  obtain ⟨s, c, q, rfl⟩ := own_dy_fin h
  have p : 0 < 2 ^ j := Nat.two_pow_pos j
  have p' : (0 : Int) < ((2 ^ j : Nat) : Int) := by omega
  refine own_dy_mk ?_ fun h0 => ?_
  · have ha := own_dy_abs h
    rw [Int.natAbs_mul, Int.natAbs_natCast] at ha
    have e1 : (q - (k + (j : Int))) = (((q - k).toNat : Nat) : Int) - (((k - q).toNat + j : Nat) : Int) := by omega
    have e2 : k + (j : Int) - q = -(q - (k + (j : Int))) := by omega
    rw [e2]
    refine own_pow_cancel (x := (q - k).toNat) (y := (k - q).toNat + j) ?_ e1
    rw [ha, Nat.pow_add]; ac_rfl
  · have hn : n * ((2 ^ j : Nat) : Int) ≠ 0 := fun h => (Int.mul_eq_zero.mp h).elim h0 (by omega)
    rw [own_dy_sign h hn, decide_eq_decide]
    constructor
    · intro hl; exact Int.lt_of_not_ge fun hg => by have := Int.mul_nonneg hg (Int.le_of_lt p'); omega
    · intro hl; exact Int.mul_neg_of_neg_of_pos hl p'
/-- the number in units of 2^e -/
theorem own_dy_units {n k q e : Int} {s : Bool} {c : Nat} (h : own_Dy n k (.fin s c q)) (h1 : e ≤ k) (h2 : e ≤ q) : signed s (inUnits c q e) = n * ((2 ^ (k - e).toNat : Nat) : Int) := by
  have ha := own_dy_abs h
  have e1 : inUnits c q e = n.natAbs * 2 ^ (k - e).toNat := by
    unfold inUnits
    refine Nat.eq_of_mul_eq_mul_right (Nat.two_pow_pos (k - q).toNat) ?_
    calc c * 2 ^ (q - e).toNat * 2 ^ (k - q).toNat = (c * 2 ^ (q - k).toNat) * 2 ^ (k - e).toNat := by
          rw [Nat.mul_assoc, ← Nat.pow_add, Nat.mul_assoc, ← Nat.pow_add]; congr 2; omega
      _ = n.natAbs * 2 ^ (k - e).toNat * 2 ^ (k - q).toNat := by rw [ha]; ac_rfl
  rw [e1, signed_mul]
  congr 1
  by_cases h0 : n = 0
  · subst h0; simp [signed]
  · rw [own_dy_sign h h0]
    unfold signed
    by_cases hl : n < 0 <;> simp [hl] <;> omega
theorem own_pow_split (n : Int) {k e : Int} (h1 : -1074 ≤ k) (h2 : e ≤ -1074) : n * ((2 ^ (k - e).toNat : Nat) : Int) = n * ((2 ^ (k + 1074).toNat : Nat) : Int) * ((2 ^ (b64.qmin - e).toNat : Nat) : Int) := by
  have hm : b64.qmin = -1074 := by decide
  rw [hm, Int.mul_assoc, ← Int.natCast_mul, ← Nat.pow_add]
  congr 4
  omega
/-- rounding is monotone -/
theorem own_round_le {n k w : Int} {d V : Datum} (h : own_Dy n k d) (h1 : -1074 ≤ k) (hV : Core.fits b64 V) (hn : V ≠ .nan) (hz : zval b64 V = w) (hw : n * ((2 ^ (k + 1074).toNat : Nat) : Int) ≤ w) : zval b64 (round b64 d) ≤ w := by
  obtain ⟨s, c, q, rfl⟩ := own_dy_fin h
  have hm : b64.qmin = -1074 := by decide
  have p := Nat.two_pow_pos (b64.qmin - min (-1074) q).toNat
  rw [← hz]
  refine zval_round_le good_b64 hV hn (e0 := min (-1074) q) (by omega) (by omega) ?_
  rw [own_dy_units h (by omega) (by omega), own_pow_split n h1 (by omega), hz]
  exact Int.mul_le_mul_of_nonneg_right hw (by omega)
theorem own_round_ge {n k w : Int} {d V : Datum} (h : own_Dy n k d) (h1 : -1074 ≤ k) (hV : Core.fits b64 V) (hn : V ≠ .nan) (hz : zval b64 V = w) (hw : w ≤ n * ((2 ^ (k + 1074).toNat : Nat) : Int)) : w ≤ zval b64 (round b64 d) := by
  obtain ⟨s, c, q, rfl⟩ := own_dy_fin h
  have hm : b64.qmin = -1074 := by decide
  have p := Nat.two_pow_pos (b64.qmin - min (-1074) q).toNat
  rw [← hz]
  refine zval_round_ge good_b64 hV hn (e0 := min (-1074) q) (by omega) (by omega) ?_
  rw [own_dy_units h (by omega) (by omega), own_pow_split n h1 (by omega), hz]
  exact Int.mul_le_mul_of_nonneg_right hw (by omega)
/-! ### on doubles -/
def own_D (n k : Int) (a : UInt64) : Prop := own_Dy n k (val64 a)
theorem own_d_int {n : Int} {a : UInt64} : own_D n 0 a ↔ DInt n a := own_dy0
theorem own_d_ne {n k : Int} {a : UInt64} (h : own_D n k a) : val64 a ≠ .nan := by
  obtain ⟨s, c, q, e⟩ := own_dy_fin h; rw [e]; exact Datum.noConfusion
theorem own_d_no {n k : Int} {a : UInt64} (h : own_D n k a) : Jvm.Free.Fl.NoNaN64 a := Jvm.Free.Fl.val64_no.mpr (own_d_ne h)
theorem own_d_scale {n k : Int} {a : UInt64} (h : own_D n k a) (j : Nat) : own_D (n * ((2 ^ j : Nat) : Int)) (k - j) a := own_dy_scale h j
theorem own_d_add {n m k : Int} {a b : UInt64} (ha : own_D n k a) (hb : own_D m k b) (hn : (n + m).natAbs ≤ 2 ^ 53) (h1 : -1074 ≤ k) (h2 : k ≤ 970) : own_D (n + m) k (FP.dadd a b) := by
  unfold own_D; rw [show FP.dadd a b = Core.dadd a b from rfl, val64_dadd]; exact own_dy_round hn h1 h2 (own_dy_sum ha hb)
theorem own_d_sub {n m k : Int} {a b : UInt64} (ha : own_D n k a) (hb : own_D m k b) (hn : (n - m).natAbs ≤ 2 ^ 53) (h1 : -1074 ≤ k) (h2 : k ≤ 970) : own_D (n - m) k (FP.dsub a b) := by
  unfold own_D; rw [show FP.dsub a b = Core.dsub a b from rfl, val64_dsub]; exact own_dy_round hn h1 h2 (own_dy_sum ha (own_dy_neg hb))
theorem own_d_mul {n m k l : Int} {a b : UInt64} (ha : own_D n k a) (hb : own_D m l b) (hn : (n * m).natAbs ≤ 2 ^ 53) (h1 : -1074 ≤ k + l) (h2 : k + l ≤ 970) : own_D (n * m) (k + l) (FP.dmul a b) := by
  unfold own_D; rw [show FP.dmul a b = Core.dmul a b from rfl, val64_dmul]; exact own_dy_round hn h1 h2 (own_dy_prod ha hb)
theorem own_d_div {r m k l : Int} {a b : UInt64} (hm : m ≠ 0) (ha : own_D (r * m) (k + l) a) (hb : own_D m l b) (hn : r.natAbs ≤ 2 ^ 53) (h1 : -1074 ≤ k) (h2 : k ≤ 970) : own_D r k (FP.ddiv a b) := by
  unfold own_D; rw [show FP.ddiv a b = Core.ddiv a b from rfl, val64_ddiv]; exact own_dy_quot hm hn h1 h2 ha hb
theorem own_d_neg {n k : Int} {a : UInt64} (ha : own_D n k a) : own_D (-n) k (FP.dneg a) := by
  unfold own_D; rw [FP.val64_dneg]; exact own_dy_neg ha
theorem own_d_cmp {n m k : Int} {a b : UInt64} (ha : own_D n k a) (hb : own_D m k b) : FP.dcmp a b = some (compare n m) := own_dy_order ha hb
theorem own_d_i2d (x : Int32) : own_D x.toInt 0 (FP.i2d x) := own_d_int.mpr (i2d_int x)
theorem own_d_l2d {x : Int64} (h : x.toInt.natAbs ≤ 2 ^ 53) : own_D x.toInt 0 (FP.l2d x) := own_d_int.mpr (l2d_int h)
theorem own_d_unscale {n k : Int} {a : UInt64} (j : Nat) (h : own_D (n * ((2 ^ j : Nat) : Int)) k a) : own_D n (k + j) a := own_dy_unscale j h
theorem own_d_zv {n k : Int} {a : UInt64} (h : own_D n k a) (h1 : -1074 ≤ k) : zval b64 (val64 a) = n * ((2 ^ (k + 1074).toNat : Nat) : Int) := by
  obtain ⟨s, c, q, e⟩ := own_dy_fin h
  have hf := val64_fits a
  unfold own_D at h
  rw [e] at h hf ⊢
  have hm : b64.qmin = -1074 := by decide
  have := own_dy_units h (e := b64.qmin) (by omega) (by have := hf.2.1; omega)
  show signed s (inUnits c q b64.qmin) = _
  rw [this, hm]
  congr 4
theorem own_cmp_eq (n : Int) : compare n n = .eq := by simp [compare, compareOfLessAndEq]
theorem own_cmp0 {r : Option Ordering} {op : CmpOp} : cmpValue r op = 0 ↔ r = some .eq := by
  rcases r with _ | o
  · cases op <;> simp [cmpValue] <;> decide
  · cases o <;> simp [cmpValue]
theorem own_d_of {n k q : Int} {s : Bool} {c : Nat} {a : UInt64} (h : val64 a = .fin s c q) (h' : c * 2 ^ (q - k).toNat = n.natAbs * 2 ^ (k - q).toNat) (hs : n = 0 ∨ s = decide (n < 0)) : own_D n k a := by
  unfold own_D; rw [h]; exact own_dy_mk h' fun h0 => hs.resolve_left h0
theorem own_d_0 {k l : Int} {a : UInt64} (h : own_D 0 k a) : own_D 0 l a := by
  obtain ⟨s, c, q, e⟩ := own_dy_fin h
  unfold own_D at h ⊢
  rw [e] at h ⊢
  have := own_dy_abs h
  refine own_dy_mk ?_ fun h0 => absurd rfl h0
  have p := Nat.two_pow_pos (q - k).toNat
  rw [show (0 : Int).natAbs = 0 from rfl, Nat.zero_mul] at this
  rcases Nat.mul_eq_zero.mp this with h | h
  · rw [h]; simp
  · omega
theorem own_d_zero : own_D 0 0 FP.dconst0 := own_d_of (s := false) (c := 0) (q := -1074) (by decide +kernel) (by decide +kernel) (Or.inl rfl)
theorem own_d_one : own_D 1 0 FP.dconst1 := own_d_of (s := false) (c := 4503599627370496) (q := -52) (by decide +kernel) (by decide +kernel) (Or.inr rfl)
end OwnDy
theorem own_pd__DD_D : parseMethodDescriptor "(DD)D" = some ⟨[.double, .double], some .double⟩ := by decide +kernel
theorem d1_0 : decode prog_1_method_2_code 0 = .ok (.dload_n 2, 1) := by decide +kernel
theorem d1_1 : decode prog_1_method_2_code 1 = .ok (.dconst 0, 1) := by decide +kernel
theorem d1_2 : decode prog_1_method_2_code 2 = .ok (.dcmp .l, 1) := by decide +kernel
theorem d1_3 : decode prog_1_method_2_code 3 = .ok (.ifCond .ne 7, 3) := by decide +kernel
theorem d1_6 : decode prog_1_method_2_code 6 = .ok (.dconst 1, 1) := by decide +kernel
theorem d1_7 : decode prog_1_method_2_code 7 = .ok (.goto 6, 3) := by decide +kernel
theorem d1_10 : decode prog_1_method_2_code 10 = .ok (.dload_n 0, 1) := by decide +kernel
theorem d1_11 : decode prog_1_method_2_code 11 = .ok (.dload_n 2, 1) := by decide +kernel
theorem d1_12 : decode prog_1_method_2_code 12 = .ok (.ddiv, 1) := by decide +kernel
theorem d1_13 : decode prog_1_method_2_code 13 = .ok (.dreturn, 1) := by decide +kernel
theorem own_pn_com_example_bidfold_bidfold_cli_Shares : plainName "com/example/bidfold/bidfold/cli/Shares" = true := by first | (simp [plainName, overriddenIn]; done) | decide +kernel
theorem own_ef1 (m : MethodId) (x0 : UInt64) (x1 : UInt64) : entryFrame m #[(.double x0), (.double x1)] 4 = mkF m 0 #[.val (.double x0), .second, .val (.double x1), .second] [] := by first | (simp [entryFrame, mkF, argsToLocals, Value.category]; done) | rfl
def Q1 (r : UInt64) (h0 : Heap) (n0 : Nat) (v : Option Value) (h : Heap) (L : List Loc) : Prop := v = some (.double r) ∧ Fr n0 L ∧ h = h0
set_option maxRecDepth 65536 in
set_option maxHeartbeats 40000000 in
theorem rm1a (l : Launch) (Z : State) (a0 : Array Value) (hw : ∀ d ∈ tables_1, d.before a0 Z = true) (ws : List Jvm.Cond) (k : UInt64) (o : UInt64)  (h0 : Heap) (n0 : Nat) (Z0 : n0 ≤ h0.size) (hz : FP.dcmp o FP.dconst0 = some .eq) :
    MetFree l (⟨"com/example/bidfold/bidfold/cli/Shares", "of", "(DD)D"⟩ : MethodName) (head1 (Jvm.Cond.code (⟨"com/example/bidfold/bidfold/cli/Shares", "of", "(DD)D"⟩ : MethodName) prog_1_method_2_code 4 (some .double) :: ws) ({ frames := 0, cells := 0, slots := 0, locals := 0 } : Room)) (fun a U => a = #[(.double k), (.double o)] ∧ Z.Warmed39 U.vm ∧ U.heap = h0) (fun _ _ _ _ _ => True) (fun _ U ω U' => ∃ ν Λ, ω = .returned ν ∧ Q1 FP.dconst1 h0 n0 ν U'.heap Λ ∧ FrameEnd U ω U' Λ ({ frames := 0, cells := 0, slots := 0, locals := 0 } : Room).cells ({ frames := 0, cells := 0, slots := 0, locals := 0 } : Room).slots) := by
  refine MetFree.of_bodySF (plainFor_of_name own_pn_com_example_bidfold_bidfold_cli_Shares) hisR ?_
  intro p e s m args below meth c s₁ Bd hml0 hP hK
  obtain ⟨rfl, hZ, hh⟩ := hP
  have hx := Bd.exec
  have hby := Bd.bytes
  have hml : c.maxLocals = 4 := hml0
  have hown : s.vm.findClass "com/example/bidfold/bidfold/cli/Shares" = some m.cls := findClass_of_methodNamed Bd.named
  have hnm := (name_of_methodNamed Bd.named Bd.method).1
  have X0 : Stand p l e ({ frames := 0, cells := 0, slots := 0, locals := 0 } : Room) s m #[(.double k), (.double o)] below meth c s₁ [] 0 0 := Stand.of_body Bd
  have e0 : s₁.heap = h0 := by rw [← hh, Bd.state]; rfl
  have N0 := Fr.nil n0
  have KK0 : Keep h0 h0 [] := Keep.refl h0 []
  have pre0 : ∀ τ, Steps p.tables e below (s₁.setTop (mkF m 0 #[.val (.double k), .second, .val (.double o), .second] [])) τ → Steps p.tables e below (s₁.setTop (entryFrame m #[(.double k), (.double o)] 4)) τ := fun τ κ => castTop (own_ef1 m k o) κ
  have pre1 : ∀ τ, Steps p.tables e below (s₁.setTop (mkF m 13 #[.val (.double k), .second, .val (.double o), .second] [(.double FP.dconst1)])) τ → Steps p.tables e below (s₁.setTop (entryFrame m #[(.double k), (.double o)] 4)) τ := fun τ kt => pre0 τ (by
    show Steps p.tables e below (s₁.setTop (mkF m 0 #[.val (.double k), .second, .val (.double o), .second] [])) τ
    refine own_dloadN X0.here hx rfl (hb hby d1_0) rfl ?_
    show Steps p.tables e below (s₁.setTop (mkF m 1 #[.val (.double k), .second, .val (.double o), .second] [(.double o)])) τ
    refine own_dconst0 X0.here hx rfl (hb hby d1_1) ?_
    show Steps p.tables e below (s₁.setTop (mkF m 2 #[.val (.double k), .second, .val (.double o), .second] [(.double FP.dconst0), (.double o)])) τ
    refine own_dcmp X0.here hx rfl (hb hby d1_2) rfl ?_
    show Steps p.tables e below (s₁.setTop (mkF m 3 #[.val (.double k), .second, .val (.double o), .second] [(.int (cmpValue (FP.dcmp o FP.dconst0) .l))])) τ
    refine XS.ifNo X0.here hx rfl (hb hby d1_3) rfl ((if0 _ _).trans (teq (own_cmp0.mpr hz)).2) ?_
    show Steps p.tables e below (s₁.setTop (mkF m 6 #[.val (.double k), .second, .val (.double o), .second] [])) τ
    refine own_dconst1 X0.here hx rfl (hb hby d1_6) ?_
    show Steps p.tables e below (s₁.setTop (mkF m 7 #[.val (.double k), .second, .val (.double o), .second] [(.double FP.dconst1)])) τ
    refine XS.goto X0.here hx rfl (pc0 := 7) (pc' := 13) rfl (hb hby d1_7) (by decide) (by decide) ?_
    exact kt)
  obtain ⟨fs, hr, hrun, hended, hW, hsame⟩ := X0.leave (v := some (.double FP.dconst1)) (fun h => by rw [Bd.returns] at h; cases h)
  refine ⟨_, _, pre1 _ ?_, hrun, hended, _, _, rfl, ?_, ⟨_, rfl⟩, hW, hsame.mono (by decide) (by decide)⟩
  · show Steps p.tables e below (s₁.setTop (mkF m 13 #[.val (.double k), .second, .val (.double o), .second] [(.double FP.dconst1)])) _
    exact own_retD X0 hx Bd.returns (hb hby d1_13) hr
  · show Q1 FP.dconst1 h0 n0 _ s₁.heap _
    rw [e0]
    exact ⟨rfl, N0, rfl⟩
set_option maxRecDepth 65536 in
set_option maxHeartbeats 40000000 in
theorem rm1b (l : Launch) (Z : State) (a0 : Array Value) (hw : ∀ d ∈ tables_1, d.before a0 Z = true) (ws : List Jvm.Cond) (k : UInt64) (o : UInt64)  (h0 : Heap) (n0 : Nat) (Z0 : n0 ≤ h0.size) (hz : ¬ FP.dcmp o FP.dconst0 = some .eq) (hd : Jvm.Free.Fl.NoNaN64 (FP.ddiv k o)) :
    MetFree l (⟨"com/example/bidfold/bidfold/cli/Shares", "of", "(DD)D"⟩ : MethodName) (head1 (Jvm.Cond.code (⟨"com/example/bidfold/bidfold/cli/Shares", "of", "(DD)D"⟩ : MethodName) prog_1_method_2_code 4 (some .double) :: ws) ({ frames := 0, cells := 0, slots := 0, locals := 0 } : Room)) (fun a U => a = #[(.double k), (.double o)] ∧ Z.Warmed39 U.vm ∧ U.heap = h0) (fun _ _ _ _ _ => True) (fun _ U ω U' => ∃ ν Λ, ω = .returned ν ∧ Q1 (FP.ddiv k o) h0 n0 ν U'.heap Λ ∧ FrameEnd U ω U' Λ ({ frames := 0, cells := 0, slots := 0, locals := 0 } : Room).cells ({ frames := 0, cells := 0, slots := 0, locals := 0 } : Room).slots) := by
  refine MetFree.of_bodySF (plainFor_of_name own_pn_com_example_bidfold_bidfold_cli_Shares) hisR ?_
  intro p e s m args below meth c s₁ Bd hml0 hP hK
  obtain ⟨rfl, hZ, hh⟩ := hP
  have hx := Bd.exec
  have hby := Bd.bytes
  have hml : c.maxLocals = 4 := hml0
  have hown : s.vm.findClass "com/example/bidfold/bidfold/cli/Shares" = some m.cls := findClass_of_methodNamed Bd.named
  have hnm := (name_of_methodNamed Bd.named Bd.method).1
  have X0 : Stand p l e ({ frames := 0, cells := 0, slots := 0, locals := 0 } : Room) s m #[(.double k), (.double o)] below meth c s₁ [] 0 0 := Stand.of_body Bd
  have e0 : s₁.heap = h0 := by rw [← hh, Bd.state]; rfl
  have N0 := Fr.nil n0
  have KK0 : Keep h0 h0 [] := Keep.refl h0 []
  have pre0 : ∀ τ, Steps p.tables e below (s₁.setTop (mkF m 0 #[.val (.double k), .second, .val (.double o), .second] [])) τ → Steps p.tables e below (s₁.setTop (entryFrame m #[(.double k), (.double o)] 4)) τ := fun τ κ => castTop (own_ef1 m k o) κ
  have pre2 : ∀ τ, Steps p.tables e below (s₁.setTop (mkF m 13 #[.val (.double k), .second, .val (.double o), .second] [(.double (FP.ddiv k o))])) τ → Steps p.tables e below (s₁.setTop (entryFrame m #[(.double k), (.double o)] 4)) τ := fun τ kt => pre0 τ (by
    show Steps p.tables e below (s₁.setTop (mkF m 0 #[.val (.double k), .second, .val (.double o), .second] [])) τ
    refine own_dloadN X0.here hx rfl (hb hby d1_0) rfl ?_
    show Steps p.tables e below (s₁.setTop (mkF m 1 #[.val (.double k), .second, .val (.double o), .second] [(.double o)])) τ
    refine own_dconst0 X0.here hx rfl (hb hby d1_1) ?_
    show Steps p.tables e below (s₁.setTop (mkF m 2 #[.val (.double k), .second, .val (.double o), .second] [(.double FP.dconst0), (.double o)])) τ
    refine own_dcmp X0.here hx rfl (hb hby d1_2) rfl ?_
    show Steps p.tables e below (s₁.setTop (mkF m 3 #[.val (.double k), .second, .val (.double o), .second] [(.int (cmpValue (FP.dcmp o FP.dconst0) .l))])) τ
    refine XS.ifYes X0.here hx rfl (pc0 := 3) (pc' := 10) rfl (hb hby d1_3) rfl ((if0 _ _).trans (feq (fun q => hz (own_cmp0.mp q))).2) (by decide) (by decide) ?_
    show Steps p.tables e below (s₁.setTop (mkF m 10 #[.val (.double k), .second, .val (.double o), .second] [])) τ
    refine own_dloadN X0.here hx rfl (hb hby d1_10) rfl ?_
    show Steps p.tables e below (s₁.setTop (mkF m 11 #[.val (.double k), .second, .val (.double o), .second] [(.double k)])) τ
    refine own_dloadN X0.here hx rfl (hb hby d1_11) rfl ?_
    show Steps p.tables e below (s₁.setTop (mkF m 12 #[.val (.double k), .second, .val (.double o), .second] [(.double o), (.double k)])) τ
    refine own_ddiv X0.here hx rfl (hb hby d1_12) rfl (hd) ?_
    exact kt)
  obtain ⟨fs, hr, hrun, hended, hW, hsame⟩ := X0.leave (v := some (.double (FP.ddiv k o))) (fun h => by rw [Bd.returns] at h; cases h)
  refine ⟨_, _, pre2 _ ?_, hrun, hended, _, _, rfl, ?_, ⟨_, rfl⟩, hW, hsame.mono (by decide) (by decide)⟩
  · show Steps p.tables e below (s₁.setTop (mkF m 13 #[.val (.double k), .second, .val (.double o), .second] [(.double (FP.ddiv k o))])) _
    exact own_retD X0 hx Bd.returns (hb hby d1_13) hr
  · show Q1 (FP.ddiv k o) h0 n0 _ s₁.heap _
    rw [e0]
    exact ⟨rfl, N0, rfl⟩
theorem own_toInt64 (x : Int32) : x.toInt64.toInt = x.toInt := Int32.toInt_toInt64 x
theorem own_cmpL {x : Int64} : XT.cmpL x (0 : Int64) = 0 ↔ x = 0 := by
  unfold XT.cmpL
  split
  · rename_i h; constructor
    · intro q; exact absurd q (by decide)
    · rintro rfl; exact absurd h (by decide)
  · split
    · rename_i h; simp [h]
    · rename_i h; constructor
      · intro q; exact absurd q (by decide)
      · intro q; exact absurd q h
/-- the plain law: the quotient of k * o by o is k -/
theorem own_share (a b : Int32) (ho : ¬ b.toInt64 = 0) : ¬ FP.dcmp (FP.l2d b.toInt64) FP.dconst0 = some .eq ∧ own_D (a >>> ((10 : Int32) &&& 31)).toInt 0 (FP.ddiv (FP.l2d ((a >>> ((10 : Int32) &&& 31)).toInt64 * b.toInt64)) (FP.l2d b.toInt64)) ∧ own_D (a >>> ((10 : Int32) &&& 31)).toInt 0 (FP.l2d (a >>> ((10 : Int32) &&& 31)).toInt64) := by
  have hk : (a >>> ((10 : Int32) &&& 31)).toInt = a.toInt / 1024 := by
    rw [c_ishr a 10 10 (by decide)]; rfl
  generalize (a >>> ((10 : Int32) &&& 31)) = k at *
  have b1 := b.toInt_lt
  have b2 := b.le_toInt
  have a1 := a.toInt_lt
  have a2 := a.le_toInt
  have o0 : b.toInt ≠ 0 := fun h => ho (Int64.toInt_inj.mp (by rw [own_toInt64, h]; rfl))
  have hB : own_D b.toInt 0 (FP.l2d b.toInt64) := by
    have := own_d_l2d (x := b.toInt64) (by rw [own_toInt64]; omega)
    rwa [own_toInt64] at this
  have hK : own_D k.toInt 0 (FP.l2d k.toInt64) := by
    have := own_d_l2d (x := k.toInt64) (by rw [own_toInt64]; omega)
    rwa [own_toInt64] at this
  have k1 : k.toInt ≤ 2097151 := by omega
  have k2 : -2097152 ≤ k.toInt := by omega
  have hm : (k.toInt * b.toInt).natAbs ≤ 2 ^ 52 := by
    rw [Int.natAbs_mul]
    calc k.toInt.natAbs * b.toInt.natAbs ≤ 2 ^ 21 * 2 ^ 31 := Nat.mul_le_mul (by omega) (by omega)
      _ = 2 ^ 52 := by decide
  have e : (k.toInt64 * b.toInt64).toInt = k.toInt * b.toInt := by
    rw [Jvm.FP.Core.int64_mul, own_toInt64, own_toInt64] <;> rw [own_toInt64, own_toInt64] <;> omega
  have hP : own_D (k.toInt * b.toInt) (0 + 0) (FP.l2d (k.toInt64 * b.toInt64)) := by
    have := own_d_l2d (x := k.toInt64 * b.toInt64) (by rw [e]; omega)
    rwa [e] at this
  refine ⟨?_, own_d_div o0 hP hB (by omega) (by omega) (by omega), hK⟩
  rw [own_d_cmp hB own_d_zero]
  intro q
  have := Option.some.inj q
  rw [Int.compare_eq_eq] at this
  exact o0 this
theorem own_zero_share : FP.dcmp (FP.l2d (0 : Int32).toInt64) FP.dconst0 = some .eq := by decide +kernel
theorem own_pn_com_example_bidfold_bidfold_cli_SharesOfPinLaw : plainName "com/example/bidfold/bidfold/cli/SharesOfPinLaw" = true := by first | (simp [plainName, overriddenIn]; done) | decide +kernel
theorem own_ef0 (m : MethodId) (x0 : Int32) (x1 : Int32) (x2 : Int32) (x3 : Int32) : entryFrame m #[(.int x0), (.int x1), (.int x2), (.int x3)] maxLocals = mkF m 0 #[.val (.int x0), .val (.int x1), .val (.int x2), .val (.int x3), .unset, .unset, .unset, .unset, .unset, .unset, .unset, .unset, .unset, .unset, .unset, .unset, .unset, .unset] [] := by first | (simp [entryFrame, mkF, argsToLocals, Value.category, maxLocals]; done) | rfl
def Q0 (n0 : Nat) (v : Option Value) (h : Heap) (L : List Loc) : Prop := v = some (.int 1) ∧ Fr n0 L
set_option maxRecDepth 65536 in
set_option maxHeartbeats 40000000 in
theorem rm0 (l : Launch) (Z : State) (a0 : Array Value) (hw : ∀ d ∈ tables_1, d.before a0 Z = true) (ws : List Jvm.Cond) (p1 : Int32) (p2 : Int32) (p3 : Int32) (p4 : Int32)  (h0 : Heap) (n0 : Nat) (Z0 : n0 ≤ h0.size)  :
    MetFree l x (head1 (Jvm.Cond.code x code maxLocals ret :: ws) room_1) (fun a U => a = #[(.int p1), (.int p2), (.int p3), (.int p4)] ∧ Z.Warmed39 U.vm ∧ U.heap = h0) (fun _ _ _ _ _ => True) (fun _ U ω U' => ∃ ν Λ, ω = .returned ν ∧ Q0 n0 ν U'.heap Λ ∧ FrameEnd U ω U' Λ room_1.cells room_1.slots) := by
  refine MetFree.of_bodySF (plainFor_of_name own_pn_com_example_bidfold_bidfold_cli_SharesOfPinLaw) hisR ?_
  intro p e s m args below meth c s₁ Bd hml0 hP hK
  obtain ⟨rfl, hZ, hh⟩ := hP
  have hx := Bd.exec
  have hby := Bd.bytes
  have hml : c.maxLocals = 18 := hml0
  have hown : s.vm.findClass "com/example/bidfold/bidfold/cli/SharesOfPinLaw" = some m.cls := findClass_of_methodNamed Bd.named
  have hnm := (name_of_methodNamed Bd.named Bd.method).1
  have X0 : Stand p l e room_1 s m #[(.int p1), (.int p2), (.int p3), (.int p4)] below meth c s₁ [] 0 0 := Stand.of_body Bd
  have e0 : s₁.heap = h0 := by rw [← hh, Bd.state]; rfl
  have N0 := Fr.nil n0
  have KK0 : Keep h0 h0 [] := Keep.refl h0 []
  have pre0 : ∀ τ, Steps p.tables e below (s₁.setTop (mkF m 0 #[.val (.int p1), .val (.int p2), .val (.int p3), .val (.int p4), .unset, .unset, .unset, .unset, .unset, .unset, .unset, .unset, .unset, .unset, .unset, .unset, .unset, .unset] [])) τ → Steps p.tables e below (s₁.setTop (entryFrame m #[(.int p1), (.int p2), (.int p3), (.int p4)] maxLocals)) τ := fun τ κ => castTop (own_ef0 m p1 p2 p3 p4) κ
  by_cases ho : p2.toInt64 = 0
  · skip
    have hz : FP.dcmp (FP.l2d (p2).toInt64) FP.dconst0 = some .eq := by rw [ho]; decide +kernel
    have pre3 : ∀ τ, Steps p.tables e below (s₁.setTop (mkF m 28 #[.val (.int p1), .val (.int p2), .val (.int p3), .val (.int p4), .val (.long ((p1 >>> ((10 : Int32) &&& 31))).toInt64), .second, .val (.long (p2).toInt64), .second, .val (.double (FP.l2d (((p1 >>> ((10 : Int32) &&& 31))).toInt64 * (p2).toInt64))), .second, .val (.double (FP.l2d (p2).toInt64)), .second, .unset, .unset, .unset, .unset, .unset, .unset] [(.double (FP.l2d (p2).toInt64)), (.double (FP.l2d (((p1 >>> ((10 : Int32) &&& 31))).toInt64 * (p2).toInt64)))])) τ → Steps p.tables e below (s₁.setTop (entryFrame m #[(.int p1), (.int p2), (.int p3), (.int p4)] maxLocals)) τ := fun τ kt => pre0 τ (by
      show Steps p.tables e below (s₁.setTop (mkF m 0 #[.val (.int p1), .val (.int p2), .val (.int p3), .val (.int p4), .unset, .unset, .unset, .unset, .unset, .unset, .unset, .unset, .unset, .unset, .unset, .unset, .unset, .unset] [])) τ
      refine XS.iloadN X0.here hx rfl (hb hby at_0) rfl ?_
      show Steps p.tables e below (s₁.setTop (mkF m 1 #[.val (.int p1), .val (.int p2), .val (.int p3), .val (.int p4), .unset, .unset, .unset, .unset, .unset, .unset, .unset, .unset, .unset, .unset, .unset, .unset, .unset, .unset] [(.int p1)])) τ
      refine XS.bipush X0.here hx rfl (hb hby at_1) ?_
      show Steps p.tables e below (s₁.setTop (mkF m 3 #[.val (.int p1), .val (.int p2), .val (.int p3), .val (.int p4), .unset, .unset, .unset, .unset, .unset, .unset, .unset, .unset, .unset, .unset, .unset, .unset, .unset, .unset] [(.int (10 : Int32)), (.int p1)])) τ
      refine XT.ishr X0.here hx rfl (hb hby at_3) rfl ?_
      show Steps p.tables e below (s₁.setTop (mkF m 4 #[.val (.int p1), .val (.int p2), .val (.int p3), .val (.int p4), .unset, .unset, .unset, .unset, .unset, .unset, .unset, .unset, .unset, .unset, .unset, .unset, .unset, .unset] [(.int (p1 >>> ((10 : Int32) &&& 31)))])) τ
      refine XT.i2l X0.here hx rfl (hb hby at_4) rfl ?_
      show Steps p.tables e below (s₁.setTop (mkF m 5 #[.val (.int p1), .val (.int p2), .val (.int p3), .val (.int p4), .unset, .unset, .unset, .unset, .unset, .unset, .unset, .unset, .unset, .unset, .unset, .unset, .unset, .unset] [(.long ((p1 >>> ((10 : Int32) &&& 31))).toInt64)])) τ
      refine XT.lstore X0.here hx rfl (hb hby at_5) rfl (l' := #[.val (.int p1), .val (.int p2), .val (.int p3), .val (.int p4), .val (.long ((p1 >>> ((10 : Int32) &&& 31))).toInt64), .second, .unset, .unset, .unset, .unset, .unset, .unset, .unset, .unset, .unset, .unset, .unset, .unset]) rfl ?_
      show Steps p.tables e below (s₁.setTop (mkF m 7 #[.val (.int p1), .val (.int p2), .val (.int p3), .val (.int p4), .val (.long ((p1 >>> ((10 : Int32) &&& 31))).toInt64), .second, .unset, .unset, .unset, .unset, .unset, .unset, .unset, .unset, .unset, .unset, .unset, .unset] [])) τ
      refine XS.iloadN X0.here hx rfl (hb hby at_7) rfl ?_
      show Steps p.tables e below (s₁.setTop (mkF m 8 #[.val (.int p1), .val (.int p2), .val (.int p3), .val (.int p4), .val (.long ((p1 >>> ((10 : Int32) &&& 31))).toInt64), .second, .unset, .unset, .unset, .unset, .unset, .unset, .unset, .unset, .unset, .unset, .unset, .unset] [(.int p2)])) τ
      refine XT.i2l X0.here hx rfl (hb hby at_8) rfl ?_
      show Steps p.tables e below (s₁.setTop (mkF m 9 #[.val (.int p1), .val (.int p2), .val (.int p3), .val (.int p4), .val (.long ((p1 >>> ((10 : Int32) &&& 31))).toInt64), .second, .unset, .unset, .unset, .unset, .unset, .unset, .unset, .unset, .unset, .unset, .unset, .unset] [(.long (p2).toInt64)])) τ
      refine XT.lstore X0.here hx rfl (hb hby at_9) rfl (l' := #[.val (.int p1), .val (.int p2), .val (.int p3), .val (.int p4), .val (.long ((p1 >>> ((10 : Int32) &&& 31))).toInt64), .second, .val (.long (p2).toInt64), .second, .unset, .unset, .unset, .unset, .unset, .unset, .unset, .unset, .unset, .unset]) rfl ?_
      show Steps p.tables e below (s₁.setTop (mkF m 11 #[.val (.int p1), .val (.int p2), .val (.int p3), .val (.int p4), .val (.long ((p1 >>> ((10 : Int32) &&& 31))).toInt64), .second, .val (.long (p2).toInt64), .second, .unset, .unset, .unset, .unset, .unset, .unset, .unset, .unset, .unset, .unset] [])) τ
      refine XT.lload X0.here hx rfl (hb hby at_11) rfl ?_
      show Steps p.tables e below (s₁.setTop (mkF m 13 #[.val (.int p1), .val (.int p2), .val (.int p3), .val (.int p4), .val (.long ((p1 >>> ((10 : Int32) &&& 31))).toInt64), .second, .val (.long (p2).toInt64), .second, .unset, .unset, .unset, .unset, .unset, .unset, .unset, .unset, .unset, .unset] [(.long ((p1 >>> ((10 : Int32) &&& 31))).toInt64)])) τ
      refine XT.lload X0.here hx rfl (hb hby at_13) rfl ?_
      show Steps p.tables e below (s₁.setTop (mkF m 15 #[.val (.int p1), .val (.int p2), .val (.int p3), .val (.int p4), .val (.long ((p1 >>> ((10 : Int32) &&& 31))).toInt64), .second, .val (.long (p2).toInt64), .second, .unset, .unset, .unset, .unset, .unset, .unset, .unset, .unset, .unset, .unset] [(.long (p2).toInt64), (.long ((p1 >>> ((10 : Int32) &&& 31))).toInt64)])) τ
      refine XT.lmul X0.here hx rfl (hb hby at_15) rfl ?_
      show Steps p.tables e below (s₁.setTop (mkF m 16 #[.val (.int p1), .val (.int p2), .val (.int p3), .val (.int p4), .val (.long ((p1 >>> ((10 : Int32) &&& 31))).toInt64), .second, .val (.long (p2).toInt64), .second, .unset, .unset, .unset, .unset, .unset, .unset, .unset, .unset, .unset, .unset] [(.long (((p1 >>> ((10 : Int32) &&& 31))).toInt64 * (p2).toInt64))])) τ
      refine own_l2d X0.here hx rfl (hb hby at_16) rfl ?_
      show Steps p.tables e below (s₁.setTop (mkF m 17 #[.val (.int p1), .val (.int p2), .val (.int p3), .val (.int p4), .val (.long ((p1 >>> ((10 : Int32) &&& 31))).toInt64), .second, .val (.long (p2).toInt64), .second, .unset, .unset, .unset, .unset, .unset, .unset, .unset, .unset, .unset, .unset] [(.double (FP.l2d (((p1 >>> ((10 : Int32) &&& 31))).toInt64 * (p2).toInt64)))])) τ
      refine own_dstore X0.here hx rfl (hb hby at_17) rfl (l' := #[.val (.int p1), .val (.int p2), .val (.int p3), .val (.int p4), .val (.long ((p1 >>> ((10 : Int32) &&& 31))).toInt64), .second, .val (.long (p2).toInt64), .second, .val (.double (FP.l2d (((p1 >>> ((10 : Int32) &&& 31))).toInt64 * (p2).toInt64))), .second, .unset, .unset, .unset, .unset, .unset, .unset, .unset, .unset]) rfl ?_
      show Steps p.tables e below (s₁.setTop (mkF m 19 #[.val (.int p1), .val (.int p2), .val (.int p3), .val (.int p4), .val (.long ((p1 >>> ((10 : Int32) &&& 31))).toInt64), .second, .val (.long (p2).toInt64), .second, .val (.double (FP.l2d (((p1 >>> ((10 : Int32) &&& 31))).toInt64 * (p2).toInt64))), .second, .unset, .unset, .unset, .unset, .unset, .unset, .unset, .unset] [])) τ
      refine XT.lload X0.here hx rfl (hb hby at_19) rfl ?_
      show Steps p.tables e below (s₁.setTop (mkF m 21 #[.val (.int p1), .val (.int p2), .val (.int p3), .val (.int p4), .val (.long ((p1 >>> ((10 : Int32) &&& 31))).toInt64), .second, .val (.long (p2).toInt64), .second, .val (.double (FP.l2d (((p1 >>> ((10 : Int32) &&& 31))).toInt64 * (p2).toInt64))), .second, .unset, .unset, .unset, .unset, .unset, .unset, .unset, .unset] [(.long (p2).toInt64)])) τ
      refine own_l2d X0.here hx rfl (hb hby at_21) rfl ?_
      show Steps p.tables e below (s₁.setTop (mkF m 22 #[.val (.int p1), .val (.int p2), .val (.int p3), .val (.int p4), .val (.long ((p1 >>> ((10 : Int32) &&& 31))).toInt64), .second, .val (.long (p2).toInt64), .second, .val (.double (FP.l2d (((p1 >>> ((10 : Int32) &&& 31))).toInt64 * (p2).toInt64))), .second, .unset, .unset, .unset, .unset, .unset, .unset, .unset, .unset] [(.double (FP.l2d (p2).toInt64))])) τ
      refine own_dstore X0.here hx rfl (hb hby at_22) rfl (l' := #[.val (.int p1), .val (.int p2), .val (.int p3), .val (.int p4), .val (.long ((p1 >>> ((10 : Int32) &&& 31))).toInt64), .second, .val (.long (p2).toInt64), .second, .val (.double (FP.l2d (((p1 >>> ((10 : Int32) &&& 31))).toInt64 * (p2).toInt64))), .second, .val (.double (FP.l2d (p2).toInt64)), .second, .unset, .unset, .unset, .unset, .unset, .unset]) rfl ?_
      show Steps p.tables e below (s₁.setTop (mkF m 24 #[.val (.int p1), .val (.int p2), .val (.int p3), .val (.int p4), .val (.long ((p1 >>> ((10 : Int32) &&& 31))).toInt64), .second, .val (.long (p2).toInt64), .second, .val (.double (FP.l2d (((p1 >>> ((10 : Int32) &&& 31))).toInt64 * (p2).toInt64))), .second, .val (.double (FP.l2d (p2).toInt64)), .second, .unset, .unset, .unset, .unset, .unset, .unset] [])) τ
      refine own_dload X0.here hx rfl (hb hby at_24) rfl ?_
      show Steps p.tables e below (s₁.setTop (mkF m 26 #[.val (.int p1), .val (.int p2), .val (.int p3), .val (.int p4), .val (.long ((p1 >>> ((10 : Int32) &&& 31))).toInt64), .second, .val (.long (p2).toInt64), .second, .val (.double (FP.l2d (((p1 >>> ((10 : Int32) &&& 31))).toInt64 * (p2).toInt64))), .second, .val (.double (FP.l2d (p2).toInt64)), .second, .unset, .unset, .unset, .unset, .unset, .unset] [(.double (FP.l2d (((p1 >>> ((10 : Int32) &&& 31))).toInt64 * (p2).toInt64)))])) τ
      refine own_dload X0.here hx rfl (hb hby at_26) rfl ?_
      exact kt)
    obtain ⟨_, _, ⟨T4, L4, k4, n4⟩, -, X4, ⟨Lc4, hQ4, l4, y4, z4⟩, st4⟩ := Jvm.LawKit.callS X0 hx (y := (⟨"com/example/bidfold/bidfold/cli/Shares", "of", "(DD)D"⟩ : MethodName)) hown (mvT hZ (hw _ (List.mem_of_getElem? (i := 0) rfl))) (mvT hZ (hw _ (List.mem_of_getElem? (i := 1) rfl))) (mvT hZ (hw _ (List.mem_of_getElem? (i := 2) rfl))) (mvT hZ (hw _ (List.mem_of_getElem? (i := 3) rfl))) (by decide) (backOf (W := 0) (rm1a l Z a0 hw [] (FP.l2d (((p1 >>> ((10 : Int32) &&& 31))).toInt64 * (p2).toInt64)) (FP.l2d (p2).toInt64) h0 n0 Z0 hz) hZ (hw _ (List.mem_of_getElem? (i := 3) rfl)) (hw _ (List.mem_of_getElem? (i := 2) rfl)) (by decide) (by decide)) (g := (mkF m 28 #[.val (.int p1), .val (.int p2), .val (.int p3), .val (.int p4), .val (.long ((p1 >>> ((10 : Int32) &&& 31))).toInt64), .second, .val (.long (p2).toInt64), .second, .val (.double (FP.l2d (((p1 >>> ((10 : Int32) &&& 31))).toInt64 * (p2).toInt64))), .second, .val (.double (FP.l2d (p2).toInt64)), .second, .unset, .unset, .unset, .unset, .unset, .unset] [(.double (FP.l2d (p2).toInt64)), (.double (FP.l2d (((p1 >>> ((10 : Int32) &&& 31))).toInt64 * (p2).toInt64)))])) rfl (by rw [hml]; rfl) (argsL := [(.double (FP.l2d (((p1 >>> ((10 : Int32) &&& 31))).toInt64 * (p2).toInt64))), (.double (FP.l2d (p2).toInt64))]) (rest := []) (lenOf own_pd__DD_D rfl) rfl (by show 2 * 0 + _ ≤ _; exact Nat.le_of_eq rfl) (hb hby at_28) (fun _ _ => ⟨rfl, e0, (by decide : 0 + 0 ≤ _), (by decide : 0 + 0 ≤ _)⟩)
    dsimp only [Pt.U, Pt.locs, Pt.cells, Pt.slots] at X4 l4 y4 z4 st4 hQ4
    subst l4 y4 z4
    obtain ⟨rfl, Nq4, eq4⟩ := hQ4
    have N4 := Fr.app N0 Nq4
    have pre5 : ∀ τ, Steps p.tables e below (T4.setTop (mkF m 31 #[.val (.int p1), .val (.int p2), .val (.int p3), .val (.int p4), .val (.long ((p1 >>> ((10 : Int32) &&& 31))).toInt64), .second, .val (.long (p2).toInt64), .second, .val (.double (FP.l2d (((p1 >>> ((10 : Int32) &&& 31))).toInt64 * (p2).toInt64))), .second, .val (.double (FP.l2d (p2).toInt64)), .second, .unset, .unset, .unset, .unset, .unset, .unset] [(.double FP.dconst1)])) τ → Steps p.tables e below (s₁.setTop (entryFrame m #[(.int p1), (.int p2), (.int p3), (.int p4)] maxLocals)) τ := fun τ kt => pre3 τ (st4 τ kt)
    have pre6 : ∀ τ, Steps p.tables e below (T4.setTop (mkF m 76 #[.val (.int p1), .val (.int p2), .val (.int p3), .val (.int p4), .val (.long ((p1 >>> ((10 : Int32) &&& 31))).toInt64), .second, .val (.long (p2).toInt64), .second, .val (.double (FP.l2d (((p1 >>> ((10 : Int32) &&& 31))).toInt64 * (p2).toInt64))), .second, .val (.double (FP.l2d (p2).toInt64)), .second, .val (.double FP.dconst1), .second, .val (.int (1 : Int32)), .unset, .unset, .unset] [(.int (p4 &&& (1 : Int32)))])) τ → Steps p.tables e below (s₁.setTop (entryFrame m #[(.int p1), (.int p2), (.int p3), (.int p4)] maxLocals)) τ := fun τ kt => pre5 τ (by
      show Steps p.tables e below (T4.setTop (mkF m 31 #[.val (.int p1), .val (.int p2), .val (.int p3), .val (.int p4), .val (.long ((p1 >>> ((10 : Int32) &&& 31))).toInt64), .second, .val (.long (p2).toInt64), .second, .val (.double (FP.l2d (((p1 >>> ((10 : Int32) &&& 31))).toInt64 * (p2).toInt64))), .second, .val (.double (FP.l2d (p2).toInt64)), .second, .unset, .unset, .unset, .unset, .unset, .unset] [(.double FP.dconst1)])) τ
      refine own_dstore X4.here hx rfl (hb hby at_31) rfl (l' := #[.val (.int p1), .val (.int p2), .val (.int p3), .val (.int p4), .val (.long ((p1 >>> ((10 : Int32) &&& 31))).toInt64), .second, .val (.long (p2).toInt64), .second, .val (.double (FP.l2d (((p1 >>> ((10 : Int32) &&& 31))).toInt64 * (p2).toInt64))), .second, .val (.double (FP.l2d (p2).toInt64)), .second, .val (.double FP.dconst1), .second, .unset, .unset, .unset, .unset]) rfl ?_
      show Steps p.tables e below (T4.setTop (mkF m 33 #[.val (.int p1), .val (.int p2), .val (.int p3), .val (.int p4), .val (.long ((p1 >>> ((10 : Int32) &&& 31))).toInt64), .second, .val (.long (p2).toInt64), .second, .val (.double (FP.l2d (((p1 >>> ((10 : Int32) &&& 31))).toInt64 * (p2).toInt64))), .second, .val (.double (FP.l2d (p2).toInt64)), .second, .val (.double FP.dconst1), .second, .unset, .unset, .unset, .unset] [])) τ
      refine XT.lload X4.here hx rfl (hb hby at_33) rfl ?_
      show Steps p.tables e below (T4.setTop (mkF m 35 #[.val (.int p1), .val (.int p2), .val (.int p3), .val (.int p4), .val (.long ((p1 >>> ((10 : Int32) &&& 31))).toInt64), .second, .val (.long (p2).toInt64), .second, .val (.double (FP.l2d (((p1 >>> ((10 : Int32) &&& 31))).toInt64 * (p2).toInt64))), .second, .val (.double (FP.l2d (p2).toInt64)), .second, .val (.double FP.dconst1), .second, .unset, .unset, .unset, .unset] [(.long (p2).toInt64)])) τ
      refine XT.lconst X4.here hx rfl (hb hby at_35) ?_
      show Steps p.tables e below (T4.setTop (mkF m 36 #[.val (.int p1), .val (.int p2), .val (.int p3), .val (.int p4), .val (.long ((p1 >>> ((10 : Int32) &&& 31))).toInt64), .second, .val (.long (p2).toInt64), .second, .val (.double (FP.l2d (((p1 >>> ((10 : Int32) &&& 31))).toInt64 * (p2).toInt64))), .second, .val (.double (FP.l2d (p2).toInt64)), .second, .val (.double FP.dconst1), .second, .unset, .unset, .unset, .unset] [(.long (0 : Int64)), (.long (p2).toInt64)])) τ
      refine XT.lcmp X4.here hx rfl (hb hby at_36) rfl ?_
      show Steps p.tables e below (T4.setTop (mkF m 37 #[.val (.int p1), .val (.int p2), .val (.int p3), .val (.int p4), .val (.long ((p1 >>> ((10 : Int32) &&& 31))).toInt64), .second, .val (.long (p2).toInt64), .second, .val (.double (FP.l2d (((p1 >>> ((10 : Int32) &&& 31))).toInt64 * (p2).toInt64))), .second, .val (.double (FP.l2d (p2).toInt64)), .second, .val (.double FP.dconst1), .second, .unset, .unset, .unset, .unset] [(.int (XT.cmpL (p2).toInt64 (0 : Int64)))])) τ
      refine XS.ifNo X4.here hx rfl (hb hby at_37) rfl ((if0 _ _).trans (teq (own_cmpL.mpr ho)).2) ?_
      show Steps p.tables e below (T4.setTop (mkF m 40 #[.val (.int p1), .val (.int p2), .val (.int p3), .val (.int p4), .val (.long ((p1 >>> ((10 : Int32) &&& 31))).toInt64), .second, .val (.long (p2).toInt64), .second, .val (.double (FP.l2d (((p1 >>> ((10 : Int32) &&& 31))).toInt64 * (p2).toInt64))), .second, .val (.double (FP.l2d (p2).toInt64)), .second, .val (.double FP.dconst1), .second, .unset, .unset, .unset, .unset] [])) τ
      refine own_dload X4.here hx rfl (hb hby at_40) rfl ?_
      show Steps p.tables e below (T4.setTop (mkF m 42 #[.val (.int p1), .val (.int p2), .val (.int p3), .val (.int p4), .val (.long ((p1 >>> ((10 : Int32) &&& 31))).toInt64), .second, .val (.long (p2).toInt64), .second, .val (.double (FP.l2d (((p1 >>> ((10 : Int32) &&& 31))).toInt64 * (p2).toInt64))), .second, .val (.double (FP.l2d (p2).toInt64)), .second, .val (.double FP.dconst1), .second, .unset, .unset, .unset, .unset] [(.double FP.dconst1)])) τ
      refine own_dconst1 X4.here hx rfl (hb hby at_42) ?_
      show Steps p.tables e below (T4.setTop (mkF m 43 #[.val (.int p1), .val (.int p2), .val (.int p3), .val (.int p4), .val (.long ((p1 >>> ((10 : Int32) &&& 31))).toInt64), .second, .val (.long (p2).toInt64), .second, .val (.double (FP.l2d (((p1 >>> ((10 : Int32) &&& 31))).toInt64 * (p2).toInt64))), .second, .val (.double (FP.l2d (p2).toInt64)), .second, .val (.double FP.dconst1), .second, .unset, .unset, .unset, .unset] [(.double FP.dconst1), (.double FP.dconst1)])) τ
      refine own_dcmp X4.here hx rfl (hb hby at_43) rfl ?_
      show Steps p.tables e below (T4.setTop (mkF m 44 #[.val (.int p1), .val (.int p2), .val (.int p3), .val (.int p4), .val (.long ((p1 >>> ((10 : Int32) &&& 31))).toInt64), .second, .val (.long (p2).toInt64), .second, .val (.double (FP.l2d (((p1 >>> ((10 : Int32) &&& 31))).toInt64 * (p2).toInt64))), .second, .val (.double (FP.l2d (p2).toInt64)), .second, .val (.double FP.dconst1), .second, .unset, .unset, .unset, .unset] [(.int (cmpValue (FP.dcmp FP.dconst1 FP.dconst1) .l))])) τ
      refine XS.ifNo X4.here hx rfl (hb hby at_44) rfl ((if0 _ _).trans (teq (own_cmp0.mpr (by decide +kernel))).2) ?_
      show Steps p.tables e below (T4.setTop (mkF m 47 #[.val (.int p1), .val (.int p2), .val (.int p3), .val (.int p4), .val (.long ((p1 >>> ((10 : Int32) &&& 31))).toInt64), .second, .val (.long (p2).toInt64), .second, .val (.double (FP.l2d (((p1 >>> ((10 : Int32) &&& 31))).toInt64 * (p2).toInt64))), .second, .val (.double (FP.l2d (p2).toInt64)), .second, .val (.double FP.dconst1), .second, .unset, .unset, .unset, .unset] [])) τ
      refine XS.iconst X4.here hx rfl (hb hby at_47) ?_
      show Steps p.tables e below (T4.setTop (mkF m 48 #[.val (.int p1), .val (.int p2), .val (.int p3), .val (.int p4), .val (.long ((p1 >>> ((10 : Int32) &&& 31))).toInt64), .second, .val (.long (p2).toInt64), .second, .val (.double (FP.l2d (((p1 >>> ((10 : Int32) &&& 31))).toInt64 * (p2).toInt64))), .second, .val (.double (FP.l2d (p2).toInt64)), .second, .val (.double FP.dconst1), .second, .unset, .unset, .unset, .unset] [(.int (1 : Int32))])) τ
      refine XS.goto X4.here hx rfl (pc0 := 48) (pc' := 52) rfl (hb hby at_48) (by decide) (by decide) ?_
      show Steps p.tables e below (T4.setTop (mkF m 52 #[.val (.int p1), .val (.int p2), .val (.int p3), .val (.int p4), .val (.long ((p1 >>> ((10 : Int32) &&& 31))).toInt64), .second, .val (.long (p2).toInt64), .second, .val (.double (FP.l2d (((p1 >>> ((10 : Int32) &&& 31))).toInt64 * (p2).toInt64))), .second, .val (.double (FP.l2d (p2).toInt64)), .second, .val (.double FP.dconst1), .second, .unset, .unset, .unset, .unset] [(.int (1 : Int32))])) τ
      refine XS.istore X4.here hx rfl (hb hby at_52) rfl (l' := #[.val (.int p1), .val (.int p2), .val (.int p3), .val (.int p4), .val (.long ((p1 >>> ((10 : Int32) &&& 31))).toInt64), .second, .val (.long (p2).toInt64), .second, .val (.double (FP.l2d (((p1 >>> ((10 : Int32) &&& 31))).toInt64 * (p2).toInt64))), .second, .val (.double (FP.l2d (p2).toInt64)), .second, .val (.double FP.dconst1), .second, .val (.int (1 : Int32)), .unset, .unset, .unset]) rfl ?_
      show Steps p.tables e below (T4.setTop (mkF m 54 #[.val (.int p1), .val (.int p2), .val (.int p3), .val (.int p4), .val (.long ((p1 >>> ((10 : Int32) &&& 31))).toInt64), .second, .val (.long (p2).toInt64), .second, .val (.double (FP.l2d (((p1 >>> ((10 : Int32) &&& 31))).toInt64 * (p2).toInt64))), .second, .val (.double (FP.l2d (p2).toInt64)), .second, .val (.double FP.dconst1), .second, .val (.int (1 : Int32)), .unset, .unset, .unset] [])) τ
      refine XS.goto X4.here hx rfl (pc0 := 54) (pc' := 73) rfl (hb hby at_54) (by decide) (by decide) ?_
      show Steps p.tables e below (T4.setTop (mkF m 73 #[.val (.int p1), .val (.int p2), .val (.int p3), .val (.int p4), .val (.long ((p1 >>> ((10 : Int32) &&& 31))).toInt64), .second, .val (.long (p2).toInt64), .second, .val (.double (FP.l2d (((p1 >>> ((10 : Int32) &&& 31))).toInt64 * (p2).toInt64))), .second, .val (.double (FP.l2d (p2).toInt64)), .second, .val (.double FP.dconst1), .second, .val (.int (1 : Int32)), .unset, .unset, .unset] [])) τ
      refine XS.iloadN X4.here hx rfl (hb hby at_73) rfl ?_
      show Steps p.tables e below (T4.setTop (mkF m 74 #[.val (.int p1), .val (.int p2), .val (.int p3), .val (.int p4), .val (.long ((p1 >>> ((10 : Int32) &&& 31))).toInt64), .second, .val (.long (p2).toInt64), .second, .val (.double (FP.l2d (((p1 >>> ((10 : Int32) &&& 31))).toInt64 * (p2).toInt64))), .second, .val (.double (FP.l2d (p2).toInt64)), .second, .val (.double FP.dconst1), .second, .val (.int (1 : Int32)), .unset, .unset, .unset] [(.int p4)])) τ
      refine XS.iconst X4.here hx rfl (hb hby at_74) ?_
      show Steps p.tables e below (T4.setTop (mkF m 75 #[.val (.int p1), .val (.int p2), .val (.int p3), .val (.int p4), .val (.long ((p1 >>> ((10 : Int32) &&& 31))).toInt64), .second, .val (.long (p2).toInt64), .second, .val (.double (FP.l2d (((p1 >>> ((10 : Int32) &&& 31))).toInt64 * (p2).toInt64))), .second, .val (.double (FP.l2d (p2).toInt64)), .second, .val (.double FP.dconst1), .second, .val (.int (1 : Int32)), .unset, .unset, .unset] [(.int (1 : Int32)), (.int p4)])) τ
      refine XS.iand X4.here hx rfl (hb hby at_75) rfl ?_
      exact kt)
    by_cases hf : (p4 &&& (1 : Int32)) = (0 : Int32)
    · skip
      have pre7 : ∀ τ, Steps p.tables e below (T4.setTop (mkF m 92 #[.val (.int p1), .val (.int p2), .val (.int p3), .val (.int p4), .val (.long ((p1 >>> ((10 : Int32) &&& 31))).toInt64), .second, .val (.long (p2).toInt64), .second, .val (.double (FP.l2d (((p1 >>> ((10 : Int32) &&& 31))).toInt64 * (p2).toInt64))), .second, .val (.double (FP.l2d (p2).toInt64)), .second, .val (.double FP.dconst1), .second, .val (.int (1 : Int32)), .val (.double FP.dconst0), .second, .unset] [(.double FP.dconst0), (.double (FP.i2d p3))])) τ → Steps p.tables e below (s₁.setTop (entryFrame m #[(.int p1), (.int p2), (.int p3), (.int p4)] maxLocals)) τ := fun τ kt => pre6 τ (by
        show Steps p.tables e below (T4.setTop (mkF m 76 #[.val (.int p1), .val (.int p2), .val (.int p3), .val (.int p4), .val (.long ((p1 >>> ((10 : Int32) &&& 31))).toInt64), .second, .val (.long (p2).toInt64), .second, .val (.double (FP.l2d (((p1 >>> ((10 : Int32) &&& 31))).toInt64 * (p2).toInt64))), .second, .val (.double (FP.l2d (p2).toInt64)), .second, .val (.double FP.dconst1), .second, .val (.int (1 : Int32)), .unset, .unset, .unset] [(.int (p4 &&& (1 : Int32)))])) τ
        refine XS.ifYes X4.here hx rfl (pc0 := 76) (pc' := 85) rfl (hb hby at_76) rfl ((if0 _ _).trans (teq hf).1) (by decide) (by decide) ?_
        show Steps p.tables e below (T4.setTop (mkF m 85 #[.val (.int p1), .val (.int p2), .val (.int p3), .val (.int p4), .val (.long ((p1 >>> ((10 : Int32) &&& 31))).toInt64), .second, .val (.long (p2).toInt64), .second, .val (.double (FP.l2d (((p1 >>> ((10 : Int32) &&& 31))).toInt64 * (p2).toInt64))), .second, .val (.double (FP.l2d (p2).toInt64)), .second, .val (.double FP.dconst1), .second, .val (.int (1 : Int32)), .unset, .unset, .unset] [])) τ
        refine own_dconst0 X4.here hx rfl (hb hby at_85) ?_
        show Steps p.tables e below (T4.setTop (mkF m 86 #[.val (.int p1), .val (.int p2), .val (.int p3), .val (.int p4), .val (.long ((p1 >>> ((10 : Int32) &&& 31))).toInt64), .second, .val (.long (p2).toInt64), .second, .val (.double (FP.l2d (((p1 >>> ((10 : Int32) &&& 31))).toInt64 * (p2).toInt64))), .second, .val (.double (FP.l2d (p2).toInt64)), .second, .val (.double FP.dconst1), .second, .val (.int (1 : Int32)), .unset, .unset, .unset] [(.double FP.dconst0)])) τ
        refine own_dstore X4.here hx rfl (hb hby at_86) rfl (l' := #[.val (.int p1), .val (.int p2), .val (.int p3), .val (.int p4), .val (.long ((p1 >>> ((10 : Int32) &&& 31))).toInt64), .second, .val (.long (p2).toInt64), .second, .val (.double (FP.l2d (((p1 >>> ((10 : Int32) &&& 31))).toInt64 * (p2).toInt64))), .second, .val (.double (FP.l2d (p2).toInt64)), .second, .val (.double FP.dconst1), .second, .val (.int (1 : Int32)), .val (.double FP.dconst0), .second, .unset]) rfl ?_
        show Steps p.tables e below (T4.setTop (mkF m 88 #[.val (.int p1), .val (.int p2), .val (.int p3), .val (.int p4), .val (.long ((p1 >>> ((10 : Int32) &&& 31))).toInt64), .second, .val (.long (p2).toInt64), .second, .val (.double (FP.l2d (((p1 >>> ((10 : Int32) &&& 31))).toInt64 * (p2).toInt64))), .second, .val (.double (FP.l2d (p2).toInt64)), .second, .val (.double FP.dconst1), .second, .val (.int (1 : Int32)), .val (.double FP.dconst0), .second, .unset] [])) τ
        refine XS.iloadN X4.here hx rfl (hb hby at_88) rfl ?_
        show Steps p.tables e below (T4.setTop (mkF m 89 #[.val (.int p1), .val (.int p2), .val (.int p3), .val (.int p4), .val (.long ((p1 >>> ((10 : Int32) &&& 31))).toInt64), .second, .val (.long (p2).toInt64), .second, .val (.double (FP.l2d (((p1 >>> ((10 : Int32) &&& 31))).toInt64 * (p2).toInt64))), .second, .val (.double (FP.l2d (p2).toInt64)), .second, .val (.double FP.dconst1), .second, .val (.int (1 : Int32)), .val (.double FP.dconst0), .second, .unset] [(.int p3)])) τ
        refine own_i2d X4.here hx rfl (hb hby at_89) rfl ?_
        show Steps p.tables e below (T4.setTop (mkF m 90 #[.val (.int p1), .val (.int p2), .val (.int p3), .val (.int p4), .val (.long ((p1 >>> ((10 : Int32) &&& 31))).toInt64), .second, .val (.long (p2).toInt64), .second, .val (.double (FP.l2d (((p1 >>> ((10 : Int32) &&& 31))).toInt64 * (p2).toInt64))), .second, .val (.double (FP.l2d (p2).toInt64)), .second, .val (.double FP.dconst1), .second, .val (.int (1 : Int32)), .val (.double FP.dconst0), .second, .unset] [(.double (FP.i2d p3))])) τ
        refine own_dload X4.here hx rfl (hb hby at_90) rfl ?_
        exact kt)
      obtain ⟨_, _, ⟨T8, L8, k8, n8⟩, -, X8, ⟨Lc8, hQ8, l8, y8, z8⟩, st8⟩ := Jvm.LawKit.callS X4 hx (y := (⟨"com/example/bidfold/bidfold/cli/Shares", "of", "(DD)D"⟩ : MethodName)) hown (mvT hZ (hw _ (List.mem_of_getElem? (i := 0) rfl))) (mvT hZ (hw _ (List.mem_of_getElem? (i := 1) rfl))) (mvT hZ (hw _ (List.mem_of_getElem? (i := 2) rfl))) (mvT hZ (hw _ (List.mem_of_getElem? (i := 3) rfl))) (by decide) (backOf (W := 0) (rm1a l Z a0 hw [] (FP.i2d p3) FP.dconst0 h0 n0 Z0 (by decide +kernel)) hZ (hw _ (List.mem_of_getElem? (i := 3) rfl)) (hw _ (List.mem_of_getElem? (i := 2) rfl)) (by decide) (by decide)) (g := (mkF m 92 #[.val (.int p1), .val (.int p2), .val (.int p3), .val (.int p4), .val (.long ((p1 >>> ((10 : Int32) &&& 31))).toInt64), .second, .val (.long (p2).toInt64), .second, .val (.double (FP.l2d (((p1 >>> ((10 : Int32) &&& 31))).toInt64 * (p2).toInt64))), .second, .val (.double (FP.l2d (p2).toInt64)), .second, .val (.double FP.dconst1), .second, .val (.int (1 : Int32)), .val (.double FP.dconst0), .second, .unset] [(.double FP.dconst0), (.double (FP.i2d p3))])) rfl (by rw [hml]; rfl) (argsL := [(.double (FP.i2d p3)), (.double FP.dconst0)]) (rest := []) (lenOf own_pd__DD_D rfl) rfl (by show 2 * 0 + _ ≤ _; exact Nat.le_of_eq rfl) (hb hby at_92) (fun _ _ => ⟨rfl, eq4, (by decide : 0 + 0 ≤ _), (by decide : 0 + 0 ≤ _)⟩)
      dsimp only [Pt.U, Pt.locs, Pt.cells, Pt.slots] at X8 l8 y8 z8 st8 hQ8
      subst l8 y8 z8
      obtain ⟨rfl, Nq8, eq8⟩ := hQ8
      have N8 := Fr.app N4 Nq8
      have pre9 : ∀ τ, Steps p.tables e below (T8.setTop (mkF m 95 #[.val (.int p1), .val (.int p2), .val (.int p3), .val (.int p4), .val (.long ((p1 >>> ((10 : Int32) &&& 31))).toInt64), .second, .val (.long (p2).toInt64), .second, .val (.double (FP.l2d (((p1 >>> ((10 : Int32) &&& 31))).toInt64 * (p2).toInt64))), .second, .val (.double (FP.l2d (p2).toInt64)), .second, .val (.double FP.dconst1), .second, .val (.int (1 : Int32)), .val (.double FP.dconst0), .second, .unset] [(.double FP.dconst1)])) τ → Steps p.tables e below (s₁.setTop (entryFrame m #[(.int p1), (.int p2), (.int p3), (.int p4)] maxLocals)) τ := fun τ kt => pre7 τ (st8 τ kt)
      have pre10 : ∀ τ, Steps p.tables e below (T8.setTop (mkF m 122 #[.val (.int p1), .val (.int p2), .val (.int p3), .val (.int p4), .val (.long ((p1 >>> ((10 : Int32) &&& 31))).toInt64), .second, .val (.long (p2).toInt64), .second, .val (.double (FP.l2d (((p1 >>> ((10 : Int32) &&& 31))).toInt64 * (p2).toInt64))), .second, .val (.double (FP.l2d (p2).toInt64)), .second, .val (.double FP.dconst1), .second, .val (.int (1 : Int32)), .val (.double FP.dconst0), .second, .val (.int (1 : Int32))] [(.int (1 : Int32))])) τ → Steps p.tables e below (s₁.setTop (entryFrame m #[(.int p1), (.int p2), (.int p3), (.int p4)] maxLocals)) τ := fun τ kt => pre9 τ (by
        show Steps p.tables e below (T8.setTop (mkF m 95 #[.val (.int p1), .val (.int p2), .val (.int p3), .val (.int p4), .val (.long ((p1 >>> ((10 : Int32) &&& 31))).toInt64), .second, .val (.long (p2).toInt64), .second, .val (.double (FP.l2d (((p1 >>> ((10 : Int32) &&& 31))).toInt64 * (p2).toInt64))), .second, .val (.double (FP.l2d (p2).toInt64)), .second, .val (.double FP.dconst1), .second, .val (.int (1 : Int32)), .val (.double FP.dconst0), .second, .unset] [(.double FP.dconst1)])) τ
        refine own_dconst1 X8.here hx rfl (hb hby at_95) ?_
        show Steps p.tables e below (T8.setTop (mkF m 96 #[.val (.int p1), .val (.int p2), .val (.int p3), .val (.int p4), .val (.long ((p1 >>> ((10 : Int32) &&& 31))).toInt64), .second, .val (.long (p2).toInt64), .second, .val (.double (FP.l2d (((p1 >>> ((10 : Int32) &&& 31))).toInt64 * (p2).toInt64))), .second, .val (.double (FP.l2d (p2).toInt64)), .second, .val (.double FP.dconst1), .second, .val (.int (1 : Int32)), .val (.double FP.dconst0), .second, .unset] [(.double FP.dconst1), (.double FP.dconst1)])) τ
        refine own_dcmp X8.here hx rfl (hb hby at_96) rfl ?_
        show Steps p.tables e below (T8.setTop (mkF m 97 #[.val (.int p1), .val (.int p2), .val (.int p3), .val (.int p4), .val (.long ((p1 >>> ((10 : Int32) &&& 31))).toInt64), .second, .val (.long (p2).toInt64), .second, .val (.double (FP.l2d (((p1 >>> ((10 : Int32) &&& 31))).toInt64 * (p2).toInt64))), .second, .val (.double (FP.l2d (p2).toInt64)), .second, .val (.double FP.dconst1), .second, .val (.int (1 : Int32)), .val (.double FP.dconst0), .second, .unset] [(.int (cmpValue (FP.dcmp FP.dconst1 FP.dconst1) .l))])) τ
        refine XS.ifNo X8.here hx rfl (hb hby at_97) rfl ((if0 _ _).trans (teq (own_cmp0.mpr (by decide +kernel))).2) ?_
        show Steps p.tables e below (T8.setTop (mkF m 100 #[.val (.int p1), .val (.int p2), .val (.int p3), .val (.int p4), .val (.long ((p1 >>> ((10 : Int32) &&& 31))).toInt64), .second, .val (.long (p2).toInt64), .second, .val (.double (FP.l2d (((p1 >>> ((10 : Int32) &&& 31))).toInt64 * (p2).toInt64))), .second, .val (.double (FP.l2d (p2).toInt64)), .second, .val (.double FP.dconst1), .second, .val (.int (1 : Int32)), .val (.double FP.dconst0), .second, .unset] [])) τ
        refine XS.iconst X8.here hx rfl (hb hby at_100) ?_
        show Steps p.tables e below (T8.setTop (mkF m 101 #[.val (.int p1), .val (.int p2), .val (.int p3), .val (.int p4), .val (.long ((p1 >>> ((10 : Int32) &&& 31))).toInt64), .second, .val (.long (p2).toInt64), .second, .val (.double (FP.l2d (((p1 >>> ((10 : Int32) &&& 31))).toInt64 * (p2).toInt64))), .second, .val (.double (FP.l2d (p2).toInt64)), .second, .val (.double FP.dconst1), .second, .val (.int (1 : Int32)), .val (.double FP.dconst0), .second, .unset] [(.int (1 : Int32))])) τ
        refine XS.goto X8.here hx rfl (pc0 := 101) (pc' := 105) rfl (hb hby at_101) (by decide) (by decide) ?_
        show Steps p.tables e below (T8.setTop (mkF m 105 #[.val (.int p1), .val (.int p2), .val (.int p3), .val (.int p4), .val (.long ((p1 >>> ((10 : Int32) &&& 31))).toInt64), .second, .val (.long (p2).toInt64), .second, .val (.double (FP.l2d (((p1 >>> ((10 : Int32) &&& 31))).toInt64 * (p2).toInt64))), .second, .val (.double (FP.l2d (p2).toInt64)), .second, .val (.double FP.dconst1), .second, .val (.int (1 : Int32)), .val (.double FP.dconst0), .second, .unset] [(.int (1 : Int32))])) τ
        refine XS.istore X8.here hx rfl (hb hby at_105) rfl (l' := #[.val (.int p1), .val (.int p2), .val (.int p3), .val (.int p4), .val (.long ((p1 >>> ((10 : Int32) &&& 31))).toInt64), .second, .val (.long (p2).toInt64), .second, .val (.double (FP.l2d (((p1 >>> ((10 : Int32) &&& 31))).toInt64 * (p2).toInt64))), .second, .val (.double (FP.l2d (p2).toInt64)), .second, .val (.double FP.dconst1), .second, .val (.int (1 : Int32)), .val (.double FP.dconst0), .second, .val (.int (1 : Int32))]) rfl ?_
        show Steps p.tables e below (T8.setTop (mkF m 107 #[.val (.int p1), .val (.int p2), .val (.int p3), .val (.int p4), .val (.long ((p1 >>> ((10 : Int32) &&& 31))).toInt64), .second, .val (.long (p2).toInt64), .second, .val (.double (FP.l2d (((p1 >>> ((10 : Int32) &&& 31))).toInt64 * (p2).toInt64))), .second, .val (.double (FP.l2d (p2).toInt64)), .second, .val (.double FP.dconst1), .second, .val (.int (1 : Int32)), .val (.double FP.dconst0), .second, .val (.int (1 : Int32))] [])) τ
        refine XS.iload X8.here hx rfl (hb hby at_107) rfl ?_
        show Steps p.tables e below (T8.setTop (mkF m 109 #[.val (.int p1), .val (.int p2), .val (.int p3), .val (.int p4), .val (.long ((p1 >>> ((10 : Int32) &&& 31))).toInt64), .second, .val (.long (p2).toInt64), .second, .val (.double (FP.l2d (((p1 >>> ((10 : Int32) &&& 31))).toInt64 * (p2).toInt64))), .second, .val (.double (FP.l2d (p2).toInt64)), .second, .val (.double FP.dconst1), .second, .val (.int (1 : Int32)), .val (.double FP.dconst0), .second, .val (.int (1 : Int32))] [(.int (1 : Int32))])) τ
        refine XS.ifNo X8.here hx rfl (hb hby at_109) rfl ((if0 _ _).trans (feq (by decide)).1) ?_
        show Steps p.tables e below (T8.setTop (mkF m 112 #[.val (.int p1), .val (.int p2), .val (.int p3), .val (.int p4), .val (.long ((p1 >>> ((10 : Int32) &&& 31))).toInt64), .second, .val (.long (p2).toInt64), .second, .val (.double (FP.l2d (((p1 >>> ((10 : Int32) &&& 31))).toInt64 * (p2).toInt64))), .second, .val (.double (FP.l2d (p2).toInt64)), .second, .val (.double FP.dconst1), .second, .val (.int (1 : Int32)), .val (.double FP.dconst0), .second, .val (.int (1 : Int32))] [])) τ
        refine XS.iload X8.here hx rfl (hb hby at_112) rfl ?_
        show Steps p.tables e below (T8.setTop (mkF m 114 #[.val (.int p1), .val (.int p2), .val (.int p3), .val (.int p4), .val (.long ((p1 >>> ((10 : Int32) &&& 31))).toInt64), .second, .val (.long (p2).toInt64), .second, .val (.double (FP.l2d (((p1 >>> ((10 : Int32) &&& 31))).toInt64 * (p2).toInt64))), .second, .val (.double (FP.l2d (p2).toInt64)), .second, .val (.double FP.dconst1), .second, .val (.int (1 : Int32)), .val (.double FP.dconst0), .second, .val (.int (1 : Int32))] [(.int (1 : Int32))])) τ
        refine XS.ifNo X8.here hx rfl (hb hby at_114) rfl ((if0 _ _).trans (feq (by decide)).1) ?_
        show Steps p.tables e below (T8.setTop (mkF m 117 #[.val (.int p1), .val (.int p2), .val (.int p3), .val (.int p4), .val (.long ((p1 >>> ((10 : Int32) &&& 31))).toInt64), .second, .val (.long (p2).toInt64), .second, .val (.double (FP.l2d (((p1 >>> ((10 : Int32) &&& 31))).toInt64 * (p2).toInt64))), .second, .val (.double (FP.l2d (p2).toInt64)), .second, .val (.double FP.dconst1), .second, .val (.int (1 : Int32)), .val (.double FP.dconst0), .second, .val (.int (1 : Int32))] [])) τ
        refine XS.iconst X8.here hx rfl (hb hby at_117) ?_
        show Steps p.tables e below (T8.setTop (mkF m 118 #[.val (.int p1), .val (.int p2), .val (.int p3), .val (.int p4), .val (.long ((p1 >>> ((10 : Int32) &&& 31))).toInt64), .second, .val (.long (p2).toInt64), .second, .val (.double (FP.l2d (((p1 >>> ((10 : Int32) &&& 31))).toInt64 * (p2).toInt64))), .second, .val (.double (FP.l2d (p2).toInt64)), .second, .val (.double FP.dconst1), .second, .val (.int (1 : Int32)), .val (.double FP.dconst0), .second, .val (.int (1 : Int32))] [(.int (1 : Int32))])) τ
        refine XS.goto X8.here hx rfl (pc0 := 118) (pc' := 122) rfl (hb hby at_118) (by decide) (by decide) ?_
        exact kt)
      obtain ⟨fs, hr, hrun, hended, hW, hsame⟩ := X8.leave (v := some (.int (1 : Int32))) (fun h => by rw [Bd.returns] at h; cases h)
      refine ⟨_, _, pre10 _ ?_, hrun, hended, _, _, rfl, ?_, ⟨_, rfl⟩, hW, hsame.mono (by decide) (by decide)⟩
      · show Steps p.tables e below (T8.setTop (mkF m 122 #[.val (.int p1), .val (.int p2), .val (.int p3), .val (.int p4), .val (.long ((p1 >>> ((10 : Int32) &&& 31))).toInt64), .second, .val (.long (p2).toInt64), .second, .val (.double (FP.l2d (((p1 >>> ((10 : Int32) &&& 31))).toInt64 * (p2).toInt64))), .second, .val (.double (FP.l2d (p2).toInt64)), .second, .val (.double FP.dconst1), .second, .val (.int (1 : Int32)), .val (.double FP.dconst0), .second, .val (.int (1 : Int32))] [(.int (1 : Int32))])) _
        exact retN X8 hx (t := .boolean) Bd.returns (by simp) (hb hby at_122) hr
      · show Q0 n0 _ T8.heap _
        exact ⟨rfl, N8⟩
    · skip
      have pre11 : ∀ τ, Steps p.tables e below (T4.setTop (mkF m 92 #[.val (.int p1), .val (.int p2), .val (.int p3), .val (.int p4), .val (.long ((p1 >>> ((10 : Int32) &&& 31))).toInt64), .second, .val (.long (p2).toInt64), .second, .val (.double (FP.l2d (((p1 >>> ((10 : Int32) &&& 31))).toInt64 * (p2).toInt64))), .second, .val (.double (FP.l2d (p2).toInt64)), .second, .val (.double FP.dconst1), .second, .val (.int (1 : Int32)), .val (.double (9223372036854775808 : UInt64)), .second, .unset] [(.double (9223372036854775808 : UInt64)), (.double (FP.i2d p3))])) τ → Steps p.tables e below (s₁.setTop (entryFrame m #[(.int p1), (.int p2), (.int p3), (.int p4)] maxLocals)) τ := fun τ kt => pre6 τ (by
        show Steps p.tables e below (T4.setTop (mkF m 76 #[.val (.int p1), .val (.int p2), .val (.int p3), .val (.int p4), .val (.long ((p1 >>> ((10 : Int32) &&& 31))).toInt64), .second, .val (.long (p2).toInt64), .second, .val (.double (FP.l2d (((p1 >>> ((10 : Int32) &&& 31))).toInt64 * (p2).toInt64))), .second, .val (.double (FP.l2d (p2).toInt64)), .second, .val (.double FP.dconst1), .second, .val (.int (1 : Int32)), .unset, .unset, .unset] [(.int (p4 &&& (1 : Int32)))])) τ
        refine XS.ifNo X4.here hx rfl (hb hby at_76) rfl ((if0 _ _).trans (feq hf).1) ?_
        show Steps p.tables e below (T4.setTop (mkF m 79 #[.val (.int p1), .val (.int p2), .val (.int p3), .val (.int p4), .val (.long ((p1 >>> ((10 : Int32) &&& 31))).toInt64), .second, .val (.long (p2).toInt64), .second, .val (.double (FP.l2d (((p1 >>> ((10 : Int32) &&& 31))).toInt64 * (p2).toInt64))), .second, .val (.double (FP.l2d (p2).toInt64)), .second, .val (.double FP.dconst1), .second, .val (.int (1 : Int32)), .unset, .unset, .unset] [])) τ
        refine X4.ldc2DoubleC hx hown (mvT hZ (hw _ (List.mem_of_getElem? (i := 4) rfl))) (g := (mkF m 79 #[.val (.int p1), .val (.int p2), .val (.int p3), .val (.int p4), .val (.long ((p1 >>> ((10 : Int32) &&& 31))).toInt64), .second, .val (.long (p2).toInt64), .second, .val (.double (FP.l2d (((p1 >>> ((10 : Int32) &&& 31))).toInt64 * (p2).toInt64))), .second, .val (.double (FP.l2d (p2).toInt64)), .second, .val (.double FP.dconst1), .second, .val (.int (1 : Int32)), .unset, .unset, .unset] [])) rfl (hb hby at_79) _ ?_
        show Steps p.tables e below (T4.setTop (mkF m 82 #[.val (.int p1), .val (.int p2), .val (.int p3), .val (.int p4), .val (.long ((p1 >>> ((10 : Int32) &&& 31))).toInt64), .second, .val (.long (p2).toInt64), .second, .val (.double (FP.l2d (((p1 >>> ((10 : Int32) &&& 31))).toInt64 * (p2).toInt64))), .second, .val (.double (FP.l2d (p2).toInt64)), .second, .val (.double FP.dconst1), .second, .val (.int (1 : Int32)), .unset, .unset, .unset] [(.double (9223372036854775808 : UInt64))])) τ
        refine XS.goto X4.here hx rfl (pc0 := 82) (pc' := 86) rfl (hb hby at_82) (by decide) (by decide) ?_
        show Steps p.tables e below (T4.setTop (mkF m 86 #[.val (.int p1), .val (.int p2), .val (.int p3), .val (.int p4), .val (.long ((p1 >>> ((10 : Int32) &&& 31))).toInt64), .second, .val (.long (p2).toInt64), .second, .val (.double (FP.l2d (((p1 >>> ((10 : Int32) &&& 31))).toInt64 * (p2).toInt64))), .second, .val (.double (FP.l2d (p2).toInt64)), .second, .val (.double FP.dconst1), .second, .val (.int (1 : Int32)), .unset, .unset, .unset] [(.double (9223372036854775808 : UInt64))])) τ
        refine own_dstore X4.here hx rfl (hb hby at_86) rfl (l' := #[.val (.int p1), .val (.int p2), .val (.int p3), .val (.int p4), .val (.long ((p1 >>> ((10 : Int32) &&& 31))).toInt64), .second, .val (.long (p2).toInt64), .second, .val (.double (FP.l2d (((p1 >>> ((10 : Int32) &&& 31))).toInt64 * (p2).toInt64))), .second, .val (.double (FP.l2d (p2).toInt64)), .second, .val (.double FP.dconst1), .second, .val (.int (1 : Int32)), .val (.double (9223372036854775808 : UInt64)), .second, .unset]) rfl ?_
        show Steps p.tables e below (T4.setTop (mkF m 88 #[.val (.int p1), .val (.int p2), .val (.int p3), .val (.int p4), .val (.long ((p1 >>> ((10 : Int32) &&& 31))).toInt64), .second, .val (.long (p2).toInt64), .second, .val (.double (FP.l2d (((p1 >>> ((10 : Int32) &&& 31))).toInt64 * (p2).toInt64))), .second, .val (.double (FP.l2d (p2).toInt64)), .second, .val (.double FP.dconst1), .second, .val (.int (1 : Int32)), .val (.double (9223372036854775808 : UInt64)), .second, .unset] [])) τ
        refine XS.iloadN X4.here hx rfl (hb hby at_88) rfl ?_
        show Steps p.tables e below (T4.setTop (mkF m 89 #[.val (.int p1), .val (.int p2), .val (.int p3), .val (.int p4), .val (.long ((p1 >>> ((10 : Int32) &&& 31))).toInt64), .second, .val (.long (p2).toInt64), .second, .val (.double (FP.l2d (((p1 >>> ((10 : Int32) &&& 31))).toInt64 * (p2).toInt64))), .second, .val (.double (FP.l2d (p2).toInt64)), .second, .val (.double FP.dconst1), .second, .val (.int (1 : Int32)), .val (.double (9223372036854775808 : UInt64)), .second, .unset] [(.int p3)])) τ
        refine own_i2d X4.here hx rfl (hb hby at_89) rfl ?_
        show Steps p.tables e below (T4.setTop (mkF m 90 #[.val (.int p1), .val (.int p2), .val (.int p3), .val (.int p4), .val (.long ((p1 >>> ((10 : Int32) &&& 31))).toInt64), .second, .val (.long (p2).toInt64), .second, .val (.double (FP.l2d (((p1 >>> ((10 : Int32) &&& 31))).toInt64 * (p2).toInt64))), .second, .val (.double (FP.l2d (p2).toInt64)), .second, .val (.double FP.dconst1), .second, .val (.int (1 : Int32)), .val (.double (9223372036854775808 : UInt64)), .second, .unset] [(.double (FP.i2d p3))])) τ
        refine own_dload X4.here hx rfl (hb hby at_90) rfl ?_
        exact kt)
      obtain ⟨_, _, ⟨T12, L12, k12, n12⟩, -, X12, ⟨Lc12, hQ12, l12, y12, z12⟩, st12⟩ := Jvm.LawKit.callS X4 hx (y := (⟨"com/example/bidfold/bidfold/cli/Shares", "of", "(DD)D"⟩ : MethodName)) hown (mvT hZ (hw _ (List.mem_of_getElem? (i := 0) rfl))) (mvT hZ (hw _ (List.mem_of_getElem? (i := 1) rfl))) (mvT hZ (hw _ (List.mem_of_getElem? (i := 2) rfl))) (mvT hZ (hw _ (List.mem_of_getElem? (i := 3) rfl))) (by decide) (backOf (W := 0) (rm1a l Z a0 hw [] (FP.i2d p3) (9223372036854775808 : UInt64) h0 n0 Z0 (by decide +kernel)) hZ (hw _ (List.mem_of_getElem? (i := 3) rfl)) (hw _ (List.mem_of_getElem? (i := 2) rfl)) (by decide) (by decide)) (g := (mkF m 92 #[.val (.int p1), .val (.int p2), .val (.int p3), .val (.int p4), .val (.long ((p1 >>> ((10 : Int32) &&& 31))).toInt64), .second, .val (.long (p2).toInt64), .second, .val (.double (FP.l2d (((p1 >>> ((10 : Int32) &&& 31))).toInt64 * (p2).toInt64))), .second, .val (.double (FP.l2d (p2).toInt64)), .second, .val (.double FP.dconst1), .second, .val (.int (1 : Int32)), .val (.double (9223372036854775808 : UInt64)), .second, .unset] [(.double (9223372036854775808 : UInt64)), (.double (FP.i2d p3))])) rfl (by rw [hml]; rfl) (argsL := [(.double (FP.i2d p3)), (.double (9223372036854775808 : UInt64))]) (rest := []) (lenOf own_pd__DD_D rfl) rfl (by show 2 * 0 + _ ≤ _; exact Nat.le_of_eq rfl) (hb hby at_92) (fun _ _ => ⟨rfl, eq4, (by decide : 0 + 0 ≤ _), (by decide : 0 + 0 ≤ _)⟩)
      dsimp only [Pt.U, Pt.locs, Pt.cells, Pt.slots] at X12 l12 y12 z12 st12 hQ12
      subst l12 y12 z12
      obtain ⟨rfl, Nq12, eq12⟩ := hQ12
      have N12 := Fr.app N4 Nq12
      have pre13 : ∀ τ, Steps p.tables e below (T12.setTop (mkF m 95 #[.val (.int p1), .val (.int p2), .val (.int p3), .val (.int p4), .val (.long ((p1 >>> ((10 : Int32) &&& 31))).toInt64), .second, .val (.long (p2).toInt64), .second, .val (.double (FP.l2d (((p1 >>> ((10 : Int32) &&& 31))).toInt64 * (p2).toInt64))), .second, .val (.double (FP.l2d (p2).toInt64)), .second, .val (.double FP.dconst1), .second, .val (.int (1 : Int32)), .val (.double (9223372036854775808 : UInt64)), .second, .unset] [(.double FP.dconst1)])) τ → Steps p.tables e below (s₁.setTop (entryFrame m #[(.int p1), (.int p2), (.int p3), (.int p4)] maxLocals)) τ := fun τ kt => pre11 τ (st12 τ kt)
      have pre14 : ∀ τ, Steps p.tables e below (T12.setTop (mkF m 122 #[.val (.int p1), .val (.int p2), .val (.int p3), .val (.int p4), .val (.long ((p1 >>> ((10 : Int32) &&& 31))).toInt64), .second, .val (.long (p2).toInt64), .second, .val (.double (FP.l2d (((p1 >>> ((10 : Int32) &&& 31))).toInt64 * (p2).toInt64))), .second, .val (.double (FP.l2d (p2).toInt64)), .second, .val (.double FP.dconst1), .second, .val (.int (1 : Int32)), .val (.double (9223372036854775808 : UInt64)), .second, .val (.int (1 : Int32))] [(.int (1 : Int32))])) τ → Steps p.tables e below (s₁.setTop (entryFrame m #[(.int p1), (.int p2), (.int p3), (.int p4)] maxLocals)) τ := fun τ kt => pre13 τ (by
        show Steps p.tables e below (T12.setTop (mkF m 95 #[.val (.int p1), .val (.int p2), .val (.int p3), .val (.int p4), .val (.long ((p1 >>> ((10 : Int32) &&& 31))).toInt64), .second, .val (.long (p2).toInt64), .second, .val (.double (FP.l2d (((p1 >>> ((10 : Int32) &&& 31))).toInt64 * (p2).toInt64))), .second, .val (.double (FP.l2d (p2).toInt64)), .second, .val (.double FP.dconst1), .second, .val (.int (1 : Int32)), .val (.double (9223372036854775808 : UInt64)), .second, .unset] [(.double FP.dconst1)])) τ
        refine own_dconst1 X12.here hx rfl (hb hby at_95) ?_
        show Steps p.tables e below (T12.setTop (mkF m 96 #[.val (.int p1), .val (.int p2), .val (.int p3), .val (.int p4), .val (.long ((p1 >>> ((10 : Int32) &&& 31))).toInt64), .second, .val (.long (p2).toInt64), .second, .val (.double (FP.l2d (((p1 >>> ((10 : Int32) &&& 31))).toInt64 * (p2).toInt64))), .second, .val (.double (FP.l2d (p2).toInt64)), .second, .val (.double FP.dconst1), .second, .val (.int (1 : Int32)), .val (.double (9223372036854775808 : UInt64)), .second, .unset] [(.double FP.dconst1), (.double FP.dconst1)])) τ
        refine own_dcmp X12.here hx rfl (hb hby at_96) rfl ?_
        show Steps p.tables e below (T12.setTop (mkF m 97 #[.val (.int p1), .val (.int p2), .val (.int p3), .val (.int p4), .val (.long ((p1 >>> ((10 : Int32) &&& 31))).toInt64), .second, .val (.long (p2).toInt64), .second, .val (.double (FP.l2d (((p1 >>> ((10 : Int32) &&& 31))).toInt64 * (p2).toInt64))), .second, .val (.double (FP.l2d (p2).toInt64)), .second, .val (.double FP.dconst1), .second, .val (.int (1 : Int32)), .val (.double (9223372036854775808 : UInt64)), .second, .unset] [(.int (cmpValue (FP.dcmp FP.dconst1 FP.dconst1) .l))])) τ
        refine XS.ifNo X12.here hx rfl (hb hby at_97) rfl ((if0 _ _).trans (teq (own_cmp0.mpr (by decide +kernel))).2) ?_
        show Steps p.tables e below (T12.setTop (mkF m 100 #[.val (.int p1), .val (.int p2), .val (.int p3), .val (.int p4), .val (.long ((p1 >>> ((10 : Int32) &&& 31))).toInt64), .second, .val (.long (p2).toInt64), .second, .val (.double (FP.l2d (((p1 >>> ((10 : Int32) &&& 31))).toInt64 * (p2).toInt64))), .second, .val (.double (FP.l2d (p2).toInt64)), .second, .val (.double FP.dconst1), .second, .val (.int (1 : Int32)), .val (.double (9223372036854775808 : UInt64)), .second, .unset] [])) τ
        refine XS.iconst X12.here hx rfl (hb hby at_100) ?_
        show Steps p.tables e below (T12.setTop (mkF m 101 #[.val (.int p1), .val (.int p2), .val (.int p3), .val (.int p4), .val (.long ((p1 >>> ((10 : Int32) &&& 31))).toInt64), .second, .val (.long (p2).toInt64), .second, .val (.double (FP.l2d (((p1 >>> ((10 : Int32) &&& 31))).toInt64 * (p2).toInt64))), .second, .val (.double (FP.l2d (p2).toInt64)), .second, .val (.double FP.dconst1), .second, .val (.int (1 : Int32)), .val (.double (9223372036854775808 : UInt64)), .second, .unset] [(.int (1 : Int32))])) τ
        refine XS.goto X12.here hx rfl (pc0 := 101) (pc' := 105) rfl (hb hby at_101) (by decide) (by decide) ?_
        show Steps p.tables e below (T12.setTop (mkF m 105 #[.val (.int p1), .val (.int p2), .val (.int p3), .val (.int p4), .val (.long ((p1 >>> ((10 : Int32) &&& 31))).toInt64), .second, .val (.long (p2).toInt64), .second, .val (.double (FP.l2d (((p1 >>> ((10 : Int32) &&& 31))).toInt64 * (p2).toInt64))), .second, .val (.double (FP.l2d (p2).toInt64)), .second, .val (.double FP.dconst1), .second, .val (.int (1 : Int32)), .val (.double (9223372036854775808 : UInt64)), .second, .unset] [(.int (1 : Int32))])) τ
        refine XS.istore X12.here hx rfl (hb hby at_105) rfl (l' := #[.val (.int p1), .val (.int p2), .val (.int p3), .val (.int p4), .val (.long ((p1 >>> ((10 : Int32) &&& 31))).toInt64), .second, .val (.long (p2).toInt64), .second, .val (.double (FP.l2d (((p1 >>> ((10 : Int32) &&& 31))).toInt64 * (p2).toInt64))), .second, .val (.double (FP.l2d (p2).toInt64)), .second, .val (.double FP.dconst1), .second, .val (.int (1 : Int32)), .val (.double (9223372036854775808 : UInt64)), .second, .val (.int (1 : Int32))]) rfl ?_
        show Steps p.tables e below (T12.setTop (mkF m 107 #[.val (.int p1), .val (.int p2), .val (.int p3), .val (.int p4), .val (.long ((p1 >>> ((10 : Int32) &&& 31))).toInt64), .second, .val (.long (p2).toInt64), .second, .val (.double (FP.l2d (((p1 >>> ((10 : Int32) &&& 31))).toInt64 * (p2).toInt64))), .second, .val (.double (FP.l2d (p2).toInt64)), .second, .val (.double FP.dconst1), .second, .val (.int (1 : Int32)), .val (.double (9223372036854775808 : UInt64)), .second, .val (.int (1 : Int32))] [])) τ
        refine XS.iload X12.here hx rfl (hb hby at_107) rfl ?_
        show Steps p.tables e below (T12.setTop (mkF m 109 #[.val (.int p1), .val (.int p2), .val (.int p3), .val (.int p4), .val (.long ((p1 >>> ((10 : Int32) &&& 31))).toInt64), .second, .val (.long (p2).toInt64), .second, .val (.double (FP.l2d (((p1 >>> ((10 : Int32) &&& 31))).toInt64 * (p2).toInt64))), .second, .val (.double (FP.l2d (p2).toInt64)), .second, .val (.double FP.dconst1), .second, .val (.int (1 : Int32)), .val (.double (9223372036854775808 : UInt64)), .second, .val (.int (1 : Int32))] [(.int (1 : Int32))])) τ
        refine XS.ifNo X12.here hx rfl (hb hby at_109) rfl ((if0 _ _).trans (feq (by decide)).1) ?_
        show Steps p.tables e below (T12.setTop (mkF m 112 #[.val (.int p1), .val (.int p2), .val (.int p3), .val (.int p4), .val (.long ((p1 >>> ((10 : Int32) &&& 31))).toInt64), .second, .val (.long (p2).toInt64), .second, .val (.double (FP.l2d (((p1 >>> ((10 : Int32) &&& 31))).toInt64 * (p2).toInt64))), .second, .val (.double (FP.l2d (p2).toInt64)), .second, .val (.double FP.dconst1), .second, .val (.int (1 : Int32)), .val (.double (9223372036854775808 : UInt64)), .second, .val (.int (1 : Int32))] [])) τ
        refine XS.iload X12.here hx rfl (hb hby at_112) rfl ?_
        show Steps p.tables e below (T12.setTop (mkF m 114 #[.val (.int p1), .val (.int p2), .val (.int p3), .val (.int p4), .val (.long ((p1 >>> ((10 : Int32) &&& 31))).toInt64), .second, .val (.long (p2).toInt64), .second, .val (.double (FP.l2d (((p1 >>> ((10 : Int32) &&& 31))).toInt64 * (p2).toInt64))), .second, .val (.double (FP.l2d (p2).toInt64)), .second, .val (.double FP.dconst1), .second, .val (.int (1 : Int32)), .val (.double (9223372036854775808 : UInt64)), .second, .val (.int (1 : Int32))] [(.int (1 : Int32))])) τ
        refine XS.ifNo X12.here hx rfl (hb hby at_114) rfl ((if0 _ _).trans (feq (by decide)).1) ?_
        show Steps p.tables e below (T12.setTop (mkF m 117 #[.val (.int p1), .val (.int p2), .val (.int p3), .val (.int p4), .val (.long ((p1 >>> ((10 : Int32) &&& 31))).toInt64), .second, .val (.long (p2).toInt64), .second, .val (.double (FP.l2d (((p1 >>> ((10 : Int32) &&& 31))).toInt64 * (p2).toInt64))), .second, .val (.double (FP.l2d (p2).toInt64)), .second, .val (.double FP.dconst1), .second, .val (.int (1 : Int32)), .val (.double (9223372036854775808 : UInt64)), .second, .val (.int (1 : Int32))] [])) τ
        refine XS.iconst X12.here hx rfl (hb hby at_117) ?_
        show Steps p.tables e below (T12.setTop (mkF m 118 #[.val (.int p1), .val (.int p2), .val (.int p3), .val (.int p4), .val (.long ((p1 >>> ((10 : Int32) &&& 31))).toInt64), .second, .val (.long (p2).toInt64), .second, .val (.double (FP.l2d (((p1 >>> ((10 : Int32) &&& 31))).toInt64 * (p2).toInt64))), .second, .val (.double (FP.l2d (p2).toInt64)), .second, .val (.double FP.dconst1), .second, .val (.int (1 : Int32)), .val (.double (9223372036854775808 : UInt64)), .second, .val (.int (1 : Int32))] [(.int (1 : Int32))])) τ
        refine XS.goto X12.here hx rfl (pc0 := 118) (pc' := 122) rfl (hb hby at_118) (by decide) (by decide) ?_
        exact kt)
      obtain ⟨fs, hr, hrun, hended, hW, hsame⟩ := X12.leave (v := some (.int (1 : Int32))) (fun h => by rw [Bd.returns] at h; cases h)
      refine ⟨_, _, pre14 _ ?_, hrun, hended, _, _, rfl, ?_, ⟨_, rfl⟩, hW, hsame.mono (by decide) (by decide)⟩
      · show Steps p.tables e below (T12.setTop (mkF m 122 #[.val (.int p1), .val (.int p2), .val (.int p3), .val (.int p4), .val (.long ((p1 >>> ((10 : Int32) &&& 31))).toInt64), .second, .val (.long (p2).toInt64), .second, .val (.double (FP.l2d (((p1 >>> ((10 : Int32) &&& 31))).toInt64 * (p2).toInt64))), .second, .val (.double (FP.l2d (p2).toInt64)), .second, .val (.double FP.dconst1), .second, .val (.int (1 : Int32)), .val (.double (9223372036854775808 : UInt64)), .second, .val (.int (1 : Int32))] [(.int (1 : Int32))])) _
        exact retN X12 hx (t := .boolean) Bd.returns (by simp) (hb hby at_122) hr
      · show Q0 n0 _ T12.heap _
        exact ⟨rfl, N12⟩
  · skip
    obtain ⟨hz, hq, hk⟩ := own_share p1 p2 ho
    have pre15 : ∀ τ, Steps p.tables e below (s₁.setTop (mkF m 28 #[.val (.int p1), .val (.int p2), .val (.int p3), .val (.int p4), .val (.long ((p1 >>> ((10 : Int32) &&& 31))).toInt64), .second, .val (.long (p2).toInt64), .second, .val (.double (FP.l2d (((p1 >>> ((10 : Int32) &&& 31))).toInt64 * (p2).toInt64))), .second, .val (.double (FP.l2d (p2).toInt64)), .second, .unset, .unset, .unset, .unset, .unset, .unset] [(.double (FP.l2d (p2).toInt64)), (.double (FP.l2d (((p1 >>> ((10 : Int32) &&& 31))).toInt64 * (p2).toInt64)))])) τ → Steps p.tables e below (s₁.setTop (entryFrame m #[(.int p1), (.int p2), (.int p3), (.int p4)] maxLocals)) τ := fun τ kt => pre0 τ (by
      show Steps p.tables e below (s₁.setTop (mkF m 0 #[.val (.int p1), .val (.int p2), .val (.int p3), .val (.int p4), .unset, .unset, .unset, .unset, .unset, .unset, .unset, .unset, .unset, .unset, .unset, .unset, .unset, .unset] [])) τ
      refine XS.iloadN X0.here hx rfl (hb hby at_0) rfl ?_
      show Steps p.tables e below (s₁.setTop (mkF m 1 #[.val (.int p1), .val (.int p2), .val (.int p3), .val (.int p4), .unset, .unset, .unset, .unset, .unset, .unset, .unset, .unset, .unset, .unset, .unset, .unset, .unset, .unset] [(.int p1)])) τ
      refine XS.bipush X0.here hx rfl (hb hby at_1) ?_
      show Steps p.tables e below (s₁.setTop (mkF m 3 #[.val (.int p1), .val (.int p2), .val (.int p3), .val (.int p4), .unset, .unset, .unset, .unset, .unset, .unset, .unset, .unset, .unset, .unset, .unset, .unset, .unset, .unset] [(.int (10 : Int32)), (.int p1)])) τ
      refine XT.ishr X0.here hx rfl (hb hby at_3) rfl ?_
      show Steps p.tables e below (s₁.setTop (mkF m 4 #[.val (.int p1), .val (.int p2), .val (.int p3), .val (.int p4), .unset, .unset, .unset, .unset, .unset, .unset, .unset, .unset, .unset, .unset, .unset, .unset, .unset, .unset] [(.int (p1 >>> ((10 : Int32) &&& 31)))])) τ
      refine XT.i2l X0.here hx rfl (hb hby at_4) rfl ?_
      show Steps p.tables e below (s₁.setTop (mkF m 5 #[.val (.int p1), .val (.int p2), .val (.int p3), .val (.int p4), .unset, .unset, .unset, .unset, .unset, .unset, .unset, .unset, .unset, .unset, .unset, .unset, .unset, .unset] [(.long ((p1 >>> ((10 : Int32) &&& 31))).toInt64)])) τ
      refine XT.lstore X0.here hx rfl (hb hby at_5) rfl (l' := #[.val (.int p1), .val (.int p2), .val (.int p3), .val (.int p4), .val (.long ((p1 >>> ((10 : Int32) &&& 31))).toInt64), .second, .unset, .unset, .unset, .unset, .unset, .unset, .unset, .unset, .unset, .unset, .unset, .unset]) rfl ?_
      show Steps p.tables e below (s₁.setTop (mkF m 7 #[.val (.int p1), .val (.int p2), .val (.int p3), .val (.int p4), .val (.long ((p1 >>> ((10 : Int32) &&& 31))).toInt64), .second, .unset, .unset, .unset, .unset, .unset, .unset, .unset, .unset, .unset, .unset, .unset, .unset] [])) τ
      refine XS.iloadN X0.here hx rfl (hb hby at_7) rfl ?_
      show Steps p.tables e below (s₁.setTop (mkF m 8 #[.val (.int p1), .val (.int p2), .val (.int p3), .val (.int p4), .val (.long ((p1 >>> ((10 : Int32) &&& 31))).toInt64), .second, .unset, .unset, .unset, .unset, .unset, .unset, .unset, .unset, .unset, .unset, .unset, .unset] [(.int p2)])) τ
      refine XT.i2l X0.here hx rfl (hb hby at_8) rfl ?_
      show Steps p.tables e below (s₁.setTop (mkF m 9 #[.val (.int p1), .val (.int p2), .val (.int p3), .val (.int p4), .val (.long ((p1 >>> ((10 : Int32) &&& 31))).toInt64), .second, .unset, .unset, .unset, .unset, .unset, .unset, .unset, .unset, .unset, .unset, .unset, .unset] [(.long (p2).toInt64)])) τ
      refine XT.lstore X0.here hx rfl (hb hby at_9) rfl (l' := #[.val (.int p1), .val (.int p2), .val (.int p3), .val (.int p4), .val (.long ((p1 >>> ((10 : Int32) &&& 31))).toInt64), .second, .val (.long (p2).toInt64), .second, .unset, .unset, .unset, .unset, .unset, .unset, .unset, .unset, .unset, .unset]) rfl ?_
      show Steps p.tables e below (s₁.setTop (mkF m 11 #[.val (.int p1), .val (.int p2), .val (.int p3), .val (.int p4), .val (.long ((p1 >>> ((10 : Int32) &&& 31))).toInt64), .second, .val (.long (p2).toInt64), .second, .unset, .unset, .unset, .unset, .unset, .unset, .unset, .unset, .unset, .unset] [])) τ
      refine XT.lload X0.here hx rfl (hb hby at_11) rfl ?_
      show Steps p.tables e below (s₁.setTop (mkF m 13 #[.val (.int p1), .val (.int p2), .val (.int p3), .val (.int p4), .val (.long ((p1 >>> ((10 : Int32) &&& 31))).toInt64), .second, .val (.long (p2).toInt64), .second, .unset, .unset, .unset, .unset, .unset, .unset, .unset, .unset, .unset, .unset] [(.long ((p1 >>> ((10 : Int32) &&& 31))).toInt64)])) τ
      refine XT.lload X0.here hx rfl (hb hby at_13) rfl ?_
      show Steps p.tables e below (s₁.setTop (mkF m 15 #[.val (.int p1), .val (.int p2), .val (.int p3), .val (.int p4), .val (.long ((p1 >>> ((10 : Int32) &&& 31))).toInt64), .second, .val (.long (p2).toInt64), .second, .unset, .unset, .unset, .unset, .unset, .unset, .unset, .unset, .unset, .unset] [(.long (p2).toInt64), (.long ((p1 >>> ((10 : Int32) &&& 31))).toInt64)])) τ
      refine XT.lmul X0.here hx rfl (hb hby at_15) rfl ?_
      show Steps p.tables e below (s₁.setTop (mkF m 16 #[.val (.int p1), .val (.int p2), .val (.int p3), .val (.int p4), .val (.long ((p1 >>> ((10 : Int32) &&& 31))).toInt64), .second, .val (.long (p2).toInt64), .second, .unset, .unset, .unset, .unset, .unset, .unset, .unset, .unset, .unset, .unset] [(.long (((p1 >>> ((10 : Int32) &&& 31))).toInt64 * (p2).toInt64))])) τ
      refine own_l2d X0.here hx rfl (hb hby at_16) rfl ?_
      show Steps p.tables e below (s₁.setTop (mkF m 17 #[.val (.int p1), .val (.int p2), .val (.int p3), .val (.int p4), .val (.long ((p1 >>> ((10 : Int32) &&& 31))).toInt64), .second, .val (.long (p2).toInt64), .second, .unset, .unset, .unset, .unset, .unset, .unset, .unset, .unset, .unset, .unset] [(.double (FP.l2d (((p1 >>> ((10 : Int32) &&& 31))).toInt64 * (p2).toInt64)))])) τ
      refine own_dstore X0.here hx rfl (hb hby at_17) rfl (l' := #[.val (.int p1), .val (.int p2), .val (.int p3), .val (.int p4), .val (.long ((p1 >>> ((10 : Int32) &&& 31))).toInt64), .second, .val (.long (p2).toInt64), .second, .val (.double (FP.l2d (((p1 >>> ((10 : Int32) &&& 31))).toInt64 * (p2).toInt64))), .second, .unset, .unset, .unset, .unset, .unset, .unset, .unset, .unset]) rfl ?_
      show Steps p.tables e below (s₁.setTop (mkF m 19 #[.val (.int p1), .val (.int p2), .val (.int p3), .val (.int p4), .val (.long ((p1 >>> ((10 : Int32) &&& 31))).toInt64), .second, .val (.long (p2).toInt64), .second, .val (.double (FP.l2d (((p1 >>> ((10 : Int32) &&& 31))).toInt64 * (p2).toInt64))), .second, .unset, .unset, .unset, .unset, .unset, .unset, .unset, .unset] [])) τ
      refine XT.lload X0.here hx rfl (hb hby at_19) rfl ?_
      show Steps p.tables e below (s₁.setTop (mkF m 21 #[.val (.int p1), .val (.int p2), .val (.int p3), .val (.int p4), .val (.long ((p1 >>> ((10 : Int32) &&& 31))).toInt64), .second, .val (.long (p2).toInt64), .second, .val (.double (FP.l2d (((p1 >>> ((10 : Int32) &&& 31))).toInt64 * (p2).toInt64))), .second, .unset, .unset, .unset, .unset, .unset, .unset, .unset, .unset] [(.long (p2).toInt64)])) τ
      refine own_l2d X0.here hx rfl (hb hby at_21) rfl ?_
      show Steps p.tables e below (s₁.setTop (mkF m 22 #[.val (.int p1), .val (.int p2), .val (.int p3), .val (.int p4), .val (.long ((p1 >>> ((10 : Int32) &&& 31))).toInt64), .second, .val (.long (p2).toInt64), .second, .val (.double (FP.l2d (((p1 >>> ((10 : Int32) &&& 31))).toInt64 * (p2).toInt64))), .second, .unset, .unset, .unset, .unset, .unset, .unset, .unset, .unset] [(.double (FP.l2d (p2).toInt64))])) τ
      refine own_dstore X0.here hx rfl (hb hby at_22) rfl (l' := #[.val (.int p1), .val (.int p2), .val (.int p3), .val (.int p4), .val (.long ((p1 >>> ((10 : Int32) &&& 31))).toInt64), .second, .val (.long (p2).toInt64), .second, .val (.double (FP.l2d (((p1 >>> ((10 : Int32) &&& 31))).toInt64 * (p2).toInt64))), .second, .val (.double (FP.l2d (p2).toInt64)), .second, .unset, .unset, .unset, .unset, .unset, .unset]) rfl ?_
      show Steps p.tables e below (s₁.setTop (mkF m 24 #[.val (.int p1), .val (.int p2), .val (.int p3), .val (.int p4), .val (.long ((p1 >>> ((10 : Int32) &&& 31))).toInt64), .second, .val (.long (p2).toInt64), .second, .val (.double (FP.l2d (((p1 >>> ((10 : Int32) &&& 31))).toInt64 * (p2).toInt64))), .second, .val (.double (FP.l2d (p2).toInt64)), .second, .unset, .unset, .unset, .unset, .unset, .unset] [])) τ
      refine own_dload X0.here hx rfl (hb hby at_24) rfl ?_
      show Steps p.tables e below (s₁.setTop (mkF m 26 #[.val (.int p1), .val (.int p2), .val (.int p3), .val (.int p4), .val (.long ((p1 >>> ((10 : Int32) &&& 31))).toInt64), .second, .val (.long (p2).toInt64), .second, .val (.double (FP.l2d (((p1 >>> ((10 : Int32) &&& 31))).toInt64 * (p2).toInt64))), .second, .val (.double (FP.l2d (p2).toInt64)), .second, .unset, .unset, .unset, .unset, .unset, .unset] [(.double (FP.l2d (((p1 >>> ((10 : Int32) &&& 31))).toInt64 * (p2).toInt64)))])) τ
      refine own_dload X0.here hx rfl (hb hby at_26) rfl ?_
      exact kt)
    obtain ⟨_, _, ⟨T16, L16, k16, n16⟩, -, X16, ⟨Lc16, hQ16, l16, y16, z16⟩, st16⟩ := Jvm.LawKit.callS X0 hx (y := (⟨"com/example/bidfold/bidfold/cli/Shares", "of", "(DD)D"⟩ : MethodName)) hown (mvT hZ (hw _ (List.mem_of_getElem? (i := 0) rfl))) (mvT hZ (hw _ (List.mem_of_getElem? (i := 1) rfl))) (mvT hZ (hw _ (List.mem_of_getElem? (i := 2) rfl))) (mvT hZ (hw _ (List.mem_of_getElem? (i := 3) rfl))) (by decide) (backOf (W := 0) (rm1b l Z a0 hw [] (FP.l2d (((p1 >>> ((10 : Int32) &&& 31))).toInt64 * (p2).toInt64)) (FP.l2d (p2).toInt64) h0 n0 Z0 hz (own_d_no hq)) hZ (hw _ (List.mem_of_getElem? (i := 3) rfl)) (hw _ (List.mem_of_getElem? (i := 2) rfl)) (by decide) (by decide)) (g := (mkF m 28 #[.val (.int p1), .val (.int p2), .val (.int p3), .val (.int p4), .val (.long ((p1 >>> ((10 : Int32) &&& 31))).toInt64), .second, .val (.long (p2).toInt64), .second, .val (.double (FP.l2d (((p1 >>> ((10 : Int32) &&& 31))).toInt64 * (p2).toInt64))), .second, .val (.double (FP.l2d (p2).toInt64)), .second, .unset, .unset, .unset, .unset, .unset, .unset] [(.double (FP.l2d (p2).toInt64)), (.double (FP.l2d (((p1 >>> ((10 : Int32) &&& 31))).toInt64 * (p2).toInt64)))])) rfl (by rw [hml]; rfl) (argsL := [(.double (FP.l2d (((p1 >>> ((10 : Int32) &&& 31))).toInt64 * (p2).toInt64))), (.double (FP.l2d (p2).toInt64))]) (rest := []) (lenOf own_pd__DD_D rfl) rfl (by show 2 * 0 + _ ≤ _; exact Nat.le_of_eq rfl) (hb hby at_28) (fun _ _ => ⟨rfl, e0, (by decide : 0 + 0 ≤ _), (by decide : 0 + 0 ≤ _)⟩)
    dsimp only [Pt.U, Pt.locs, Pt.cells, Pt.slots] at X16 l16 y16 z16 st16 hQ16
    subst l16 y16 z16
    obtain ⟨rfl, Nq16, eq16⟩ := hQ16
    have N16 := Fr.app N0 Nq16
    have pre17 : ∀ τ, Steps p.tables e below (T16.setTop (mkF m 31 #[.val (.int p1), .val (.int p2), .val (.int p3), .val (.int p4), .val (.long ((p1 >>> ((10 : Int32) &&& 31))).toInt64), .second, .val (.long (p2).toInt64), .second, .val (.double (FP.l2d (((p1 >>> ((10 : Int32) &&& 31))).toInt64 * (p2).toInt64))), .second, .val (.double (FP.l2d (p2).toInt64)), .second, .unset, .unset, .unset, .unset, .unset, .unset] [(.double (FP.ddiv (FP.l2d (((p1 >>> ((10 : Int32) &&& 31))).toInt64 * (p2).toInt64)) (FP.l2d (p2).toInt64)))])) τ → Steps p.tables e below (s₁.setTop (entryFrame m #[(.int p1), (.int p2), (.int p3), (.int p4)] maxLocals)) τ := fun τ kt => pre15 τ (st16 τ kt)
    have pre18 : ∀ τ, Steps p.tables e below (T16.setTop (mkF m 76 #[.val (.int p1), .val (.int p2), .val (.int p3), .val (.int p4), .val (.long ((p1 >>> ((10 : Int32) &&& 31))).toInt64), .second, .val (.long (p2).toInt64), .second, .val (.double (FP.l2d (((p1 >>> ((10 : Int32) &&& 31))).toInt64 * (p2).toInt64))), .second, .val (.double (FP.l2d (p2).toInt64)), .second, .val (.double (FP.ddiv (FP.l2d (((p1 >>> ((10 : Int32) &&& 31))).toInt64 * (p2).toInt64)) (FP.l2d (p2).toInt64))), .second, .val (.int (1 : Int32)), .unset, .unset, .unset] [(.int (p4 &&& (1 : Int32)))])) τ → Steps p.tables e below (s₁.setTop (entryFrame m #[(.int p1), (.int p2), (.int p3), (.int p4)] maxLocals)) τ := fun τ kt => pre17 τ (by
      show Steps p.tables e below (T16.setTop (mkF m 31 #[.val (.int p1), .val (.int p2), .val (.int p3), .val (.int p4), .val (.long ((p1 >>> ((10 : Int32) &&& 31))).toInt64), .second, .val (.long (p2).toInt64), .second, .val (.double (FP.l2d (((p1 >>> ((10 : Int32) &&& 31))).toInt64 * (p2).toInt64))), .second, .val (.double (FP.l2d (p2).toInt64)), .second, .unset, .unset, .unset, .unset, .unset, .unset] [(.double (FP.ddiv (FP.l2d (((p1 >>> ((10 : Int32) &&& 31))).toInt64 * (p2).toInt64)) (FP.l2d (p2).toInt64)))])) τ
      refine own_dstore X16.here hx rfl (hb hby at_31) rfl (l' := #[.val (.int p1), .val (.int p2), .val (.int p3), .val (.int p4), .val (.long ((p1 >>> ((10 : Int32) &&& 31))).toInt64), .second, .val (.long (p2).toInt64), .second, .val (.double (FP.l2d (((p1 >>> ((10 : Int32) &&& 31))).toInt64 * (p2).toInt64))), .second, .val (.double (FP.l2d (p2).toInt64)), .second, .val (.double (FP.ddiv (FP.l2d (((p1 >>> ((10 : Int32) &&& 31))).toInt64 * (p2).toInt64)) (FP.l2d (p2).toInt64))), .second, .unset, .unset, .unset, .unset]) rfl ?_
      show Steps p.tables e below (T16.setTop (mkF m 33 #[.val (.int p1), .val (.int p2), .val (.int p3), .val (.int p4), .val (.long ((p1 >>> ((10 : Int32) &&& 31))).toInt64), .second, .val (.long (p2).toInt64), .second, .val (.double (FP.l2d (((p1 >>> ((10 : Int32) &&& 31))).toInt64 * (p2).toInt64))), .second, .val (.double (FP.l2d (p2).toInt64)), .second, .val (.double (FP.ddiv (FP.l2d (((p1 >>> ((10 : Int32) &&& 31))).toInt64 * (p2).toInt64)) (FP.l2d (p2).toInt64))), .second, .unset, .unset, .unset, .unset] [])) τ
      refine XT.lload X16.here hx rfl (hb hby at_33) rfl ?_
      show Steps p.tables e below (T16.setTop (mkF m 35 #[.val (.int p1), .val (.int p2), .val (.int p3), .val (.int p4), .val (.long ((p1 >>> ((10 : Int32) &&& 31))).toInt64), .second, .val (.long (p2).toInt64), .second, .val (.double (FP.l2d (((p1 >>> ((10 : Int32) &&& 31))).toInt64 * (p2).toInt64))), .second, .val (.double (FP.l2d (p2).toInt64)), .second, .val (.double (FP.ddiv (FP.l2d (((p1 >>> ((10 : Int32) &&& 31))).toInt64 * (p2).toInt64)) (FP.l2d (p2).toInt64))), .second, .unset, .unset, .unset, .unset] [(.long (p2).toInt64)])) τ
      refine XT.lconst X16.here hx rfl (hb hby at_35) ?_
      show Steps p.tables e below (T16.setTop (mkF m 36 #[.val (.int p1), .val (.int p2), .val (.int p3), .val (.int p4), .val (.long ((p1 >>> ((10 : Int32) &&& 31))).toInt64), .second, .val (.long (p2).toInt64), .second, .val (.double (FP.l2d (((p1 >>> ((10 : Int32) &&& 31))).toInt64 * (p2).toInt64))), .second, .val (.double (FP.l2d (p2).toInt64)), .second, .val (.double (FP.ddiv (FP.l2d (((p1 >>> ((10 : Int32) &&& 31))).toInt64 * (p2).toInt64)) (FP.l2d (p2).toInt64))), .second, .unset, .unset, .unset, .unset] [(.long (0 : Int64)), (.long (p2).toInt64)])) τ
      refine XT.lcmp X16.here hx rfl (hb hby at_36) rfl ?_
      show Steps p.tables e below (T16.setTop (mkF m 37 #[.val (.int p1), .val (.int p2), .val (.int p3), .val (.int p4), .val (.long ((p1 >>> ((10 : Int32) &&& 31))).toInt64), .second, .val (.long (p2).toInt64), .second, .val (.double (FP.l2d (((p1 >>> ((10 : Int32) &&& 31))).toInt64 * (p2).toInt64))), .second, .val (.double (FP.l2d (p2).toInt64)), .second, .val (.double (FP.ddiv (FP.l2d (((p1 >>> ((10 : Int32) &&& 31))).toInt64 * (p2).toInt64)) (FP.l2d (p2).toInt64))), .second, .unset, .unset, .unset, .unset] [(.int (XT.cmpL (p2).toInt64 (0 : Int64)))])) τ
      refine XS.ifYes X16.here hx rfl (pc0 := 37) (pc' := 57) rfl (hb hby at_37) rfl ((if0 _ _).trans (feq (fun q => ho (own_cmpL.mp q))).2) (by decide) (by decide) ?_
      show Steps p.tables e below (T16.setTop (mkF m 57 #[.val (.int p1), .val (.int p2), .val (.int p3), .val (.int p4), .val (.long ((p1 >>> ((10 : Int32) &&& 31))).toInt64), .second, .val (.long (p2).toInt64), .second, .val (.double (FP.l2d (((p1 >>> ((10 : Int32) &&& 31))).toInt64 * (p2).toInt64))), .second, .val (.double (FP.l2d (p2).toInt64)), .second, .val (.double (FP.ddiv (FP.l2d (((p1 >>> ((10 : Int32) &&& 31))).toInt64 * (p2).toInt64)) (FP.l2d (p2).toInt64))), .second, .unset, .unset, .unset, .unset] [])) τ
      refine own_dload X16.here hx rfl (hb hby at_57) rfl ?_
      show Steps p.tables e below (T16.setTop (mkF m 59 #[.val (.int p1), .val (.int p2), .val (.int p3), .val (.int p4), .val (.long ((p1 >>> ((10 : Int32) &&& 31))).toInt64), .second, .val (.long (p2).toInt64), .second, .val (.double (FP.l2d (((p1 >>> ((10 : Int32) &&& 31))).toInt64 * (p2).toInt64))), .second, .val (.double (FP.l2d (p2).toInt64)), .second, .val (.double (FP.ddiv (FP.l2d (((p1 >>> ((10 : Int32) &&& 31))).toInt64 * (p2).toInt64)) (FP.l2d (p2).toInt64))), .second, .unset, .unset, .unset, .unset] [(.double (FP.ddiv (FP.l2d (((p1 >>> ((10 : Int32) &&& 31))).toInt64 * (p2).toInt64)) (FP.l2d (p2).toInt64)))])) τ
      refine XT.lload X16.here hx rfl (hb hby at_59) rfl ?_
      show Steps p.tables e below (T16.setTop (mkF m 61 #[.val (.int p1), .val (.int p2), .val (.int p3), .val (.int p4), .val (.long ((p1 >>> ((10 : Int32) &&& 31))).toInt64), .second, .val (.long (p2).toInt64), .second, .val (.double (FP.l2d (((p1 >>> ((10 : Int32) &&& 31))).toInt64 * (p2).toInt64))), .second, .val (.double (FP.l2d (p2).toInt64)), .second, .val (.double (FP.ddiv (FP.l2d (((p1 >>> ((10 : Int32) &&& 31))).toInt64 * (p2).toInt64)) (FP.l2d (p2).toInt64))), .second, .unset, .unset, .unset, .unset] [(.long ((p1 >>> ((10 : Int32) &&& 31))).toInt64), (.double (FP.ddiv (FP.l2d (((p1 >>> ((10 : Int32) &&& 31))).toInt64 * (p2).toInt64)) (FP.l2d (p2).toInt64)))])) τ
      refine own_l2d X16.here hx rfl (hb hby at_61) rfl ?_
      show Steps p.tables e below (T16.setTop (mkF m 62 #[.val (.int p1), .val (.int p2), .val (.int p3), .val (.int p4), .val (.long ((p1 >>> ((10 : Int32) &&& 31))).toInt64), .second, .val (.long (p2).toInt64), .second, .val (.double (FP.l2d (((p1 >>> ((10 : Int32) &&& 31))).toInt64 * (p2).toInt64))), .second, .val (.double (FP.l2d (p2).toInt64)), .second, .val (.double (FP.ddiv (FP.l2d (((p1 >>> ((10 : Int32) &&& 31))).toInt64 * (p2).toInt64)) (FP.l2d (p2).toInt64))), .second, .unset, .unset, .unset, .unset] [(.double (FP.l2d ((p1 >>> ((10 : Int32) &&& 31))).toInt64)), (.double (FP.ddiv (FP.l2d (((p1 >>> ((10 : Int32) &&& 31))).toInt64 * (p2).toInt64)) (FP.l2d (p2).toInt64)))])) τ
      refine own_dcmp X16.here hx rfl (hb hby at_62) rfl ?_
      show Steps p.tables e below (T16.setTop (mkF m 63 #[.val (.int p1), .val (.int p2), .val (.int p3), .val (.int p4), .val (.long ((p1 >>> ((10 : Int32) &&& 31))).toInt64), .second, .val (.long (p2).toInt64), .second, .val (.double (FP.l2d (((p1 >>> ((10 : Int32) &&& 31))).toInt64 * (p2).toInt64))), .second, .val (.double (FP.l2d (p2).toInt64)), .second, .val (.double (FP.ddiv (FP.l2d (((p1 >>> ((10 : Int32) &&& 31))).toInt64 * (p2).toInt64)) (FP.l2d (p2).toInt64))), .second, .unset, .unset, .unset, .unset] [(.int (cmpValue (FP.dcmp (FP.ddiv (FP.l2d (((p1 >>> ((10 : Int32) &&& 31))).toInt64 * (p2).toInt64)) (FP.l2d (p2).toInt64)) (FP.l2d ((p1 >>> ((10 : Int32) &&& 31))).toInt64)) .l))])) τ
      refine XS.ifNo X16.here hx rfl (hb hby at_63) rfl ((if0 _ _).trans (teq (own_cmp0.mpr (by rw [own_d_cmp hq hk, own_cmp_eq]))).2) ?_
      show Steps p.tables e below (T16.setTop (mkF m 66 #[.val (.int p1), .val (.int p2), .val (.int p3), .val (.int p4), .val (.long ((p1 >>> ((10 : Int32) &&& 31))).toInt64), .second, .val (.long (p2).toInt64), .second, .val (.double (FP.l2d (((p1 >>> ((10 : Int32) &&& 31))).toInt64 * (p2).toInt64))), .second, .val (.double (FP.l2d (p2).toInt64)), .second, .val (.double (FP.ddiv (FP.l2d (((p1 >>> ((10 : Int32) &&& 31))).toInt64 * (p2).toInt64)) (FP.l2d (p2).toInt64))), .second, .unset, .unset, .unset, .unset] [])) τ
      refine XS.iconst X16.here hx rfl (hb hby at_66) ?_
      show Steps p.tables e below (T16.setTop (mkF m 67 #[.val (.int p1), .val (.int p2), .val (.int p3), .val (.int p4), .val (.long ((p1 >>> ((10 : Int32) &&& 31))).toInt64), .second, .val (.long (p2).toInt64), .second, .val (.double (FP.l2d (((p1 >>> ((10 : Int32) &&& 31))).toInt64 * (p2).toInt64))), .second, .val (.double (FP.l2d (p2).toInt64)), .second, .val (.double (FP.ddiv (FP.l2d (((p1 >>> ((10 : Int32) &&& 31))).toInt64 * (p2).toInt64)) (FP.l2d (p2).toInt64))), .second, .unset, .unset, .unset, .unset] [(.int (1 : Int32))])) τ
      refine XS.goto X16.here hx rfl (pc0 := 67) (pc' := 71) rfl (hb hby at_67) (by decide) (by decide) ?_
      show Steps p.tables e below (T16.setTop (mkF m 71 #[.val (.int p1), .val (.int p2), .val (.int p3), .val (.int p4), .val (.long ((p1 >>> ((10 : Int32) &&& 31))).toInt64), .second, .val (.long (p2).toInt64), .second, .val (.double (FP.l2d (((p1 >>> ((10 : Int32) &&& 31))).toInt64 * (p2).toInt64))), .second, .val (.double (FP.l2d (p2).toInt64)), .second, .val (.double (FP.ddiv (FP.l2d (((p1 >>> ((10 : Int32) &&& 31))).toInt64 * (p2).toInt64)) (FP.l2d (p2).toInt64))), .second, .unset, .unset, .unset, .unset] [(.int (1 : Int32))])) τ
      refine XS.istore X16.here hx rfl (hb hby at_71) rfl (l' := #[.val (.int p1), .val (.int p2), .val (.int p3), .val (.int p4), .val (.long ((p1 >>> ((10 : Int32) &&& 31))).toInt64), .second, .val (.long (p2).toInt64), .second, .val (.double (FP.l2d (((p1 >>> ((10 : Int32) &&& 31))).toInt64 * (p2).toInt64))), .second, .val (.double (FP.l2d (p2).toInt64)), .second, .val (.double (FP.ddiv (FP.l2d (((p1 >>> ((10 : Int32) &&& 31))).toInt64 * (p2).toInt64)) (FP.l2d (p2).toInt64))), .second, .val (.int (1 : Int32)), .unset, .unset, .unset]) rfl ?_
      show Steps p.tables e below (T16.setTop (mkF m 73 #[.val (.int p1), .val (.int p2), .val (.int p3), .val (.int p4), .val (.long ((p1 >>> ((10 : Int32) &&& 31))).toInt64), .second, .val (.long (p2).toInt64), .second, .val (.double (FP.l2d (((p1 >>> ((10 : Int32) &&& 31))).toInt64 * (p2).toInt64))), .second, .val (.double (FP.l2d (p2).toInt64)), .second, .val (.double (FP.ddiv (FP.l2d (((p1 >>> ((10 : Int32) &&& 31))).toInt64 * (p2).toInt64)) (FP.l2d (p2).toInt64))), .second, .val (.int (1 : Int32)), .unset, .unset, .unset] [])) τ
      refine XS.iloadN X16.here hx rfl (hb hby at_73) rfl ?_
      show Steps p.tables e below (T16.setTop (mkF m 74 #[.val (.int p1), .val (.int p2), .val (.int p3), .val (.int p4), .val (.long ((p1 >>> ((10 : Int32) &&& 31))).toInt64), .second, .val (.long (p2).toInt64), .second, .val (.double (FP.l2d (((p1 >>> ((10 : Int32) &&& 31))).toInt64 * (p2).toInt64))), .second, .val (.double (FP.l2d (p2).toInt64)), .second, .val (.double (FP.ddiv (FP.l2d (((p1 >>> ((10 : Int32) &&& 31))).toInt64 * (p2).toInt64)) (FP.l2d (p2).toInt64))), .second, .val (.int (1 : Int32)), .unset, .unset, .unset] [(.int p4)])) τ
      refine XS.iconst X16.here hx rfl (hb hby at_74) ?_
      show Steps p.tables e below (T16.setTop (mkF m 75 #[.val (.int p1), .val (.int p2), .val (.int p3), .val (.int p4), .val (.long ((p1 >>> ((10 : Int32) &&& 31))).toInt64), .second, .val (.long (p2).toInt64), .second, .val (.double (FP.l2d (((p1 >>> ((10 : Int32) &&& 31))).toInt64 * (p2).toInt64))), .second, .val (.double (FP.l2d (p2).toInt64)), .second, .val (.double (FP.ddiv (FP.l2d (((p1 >>> ((10 : Int32) &&& 31))).toInt64 * (p2).toInt64)) (FP.l2d (p2).toInt64))), .second, .val (.int (1 : Int32)), .unset, .unset, .unset] [(.int (1 : Int32)), (.int p4)])) τ
      refine XS.iand X16.here hx rfl (hb hby at_75) rfl ?_
      exact kt)
    by_cases hf : (p4 &&& (1 : Int32)) = (0 : Int32)
    · skip
      have pre19 : ∀ τ, Steps p.tables e below (T16.setTop (mkF m 92 #[.val (.int p1), .val (.int p2), .val (.int p3), .val (.int p4), .val (.long ((p1 >>> ((10 : Int32) &&& 31))).toInt64), .second, .val (.long (p2).toInt64), .second, .val (.double (FP.l2d (((p1 >>> ((10 : Int32) &&& 31))).toInt64 * (p2).toInt64))), .second, .val (.double (FP.l2d (p2).toInt64)), .second, .val (.double (FP.ddiv (FP.l2d (((p1 >>> ((10 : Int32) &&& 31))).toInt64 * (p2).toInt64)) (FP.l2d (p2).toInt64))), .second, .val (.int (1 : Int32)), .val (.double FP.dconst0), .second, .unset] [(.double FP.dconst0), (.double (FP.i2d p3))])) τ → Steps p.tables e below (s₁.setTop (entryFrame m #[(.int p1), (.int p2), (.int p3), (.int p4)] maxLocals)) τ := fun τ kt => pre18 τ (by
        show Steps p.tables e below (T16.setTop (mkF m 76 #[.val (.int p1), .val (.int p2), .val (.int p3), .val (.int p4), .val (.long ((p1 >>> ((10 : Int32) &&& 31))).toInt64), .second, .val (.long (p2).toInt64), .second, .val (.double (FP.l2d (((p1 >>> ((10 : Int32) &&& 31))).toInt64 * (p2).toInt64))), .second, .val (.double (FP.l2d (p2).toInt64)), .second, .val (.double (FP.ddiv (FP.l2d (((p1 >>> ((10 : Int32) &&& 31))).toInt64 * (p2).toInt64)) (FP.l2d (p2).toInt64))), .second, .val (.int (1 : Int32)), .unset, .unset, .unset] [(.int (p4 &&& (1 : Int32)))])) τ
        refine XS.ifYes X16.here hx rfl (pc0 := 76) (pc' := 85) rfl (hb hby at_76) rfl ((if0 _ _).trans (teq hf).1) (by decide) (by decide) ?_
        show Steps p.tables e below (T16.setTop (mkF m 85 #[.val (.int p1), .val (.int p2), .val (.int p3), .val (.int p4), .val (.long ((p1 >>> ((10 : Int32) &&& 31))).toInt64), .second, .val (.long (p2).toInt64), .second, .val (.double (FP.l2d (((p1 >>> ((10 : Int32) &&& 31))).toInt64 * (p2).toInt64))), .second, .val (.double (FP.l2d (p2).toInt64)), .second, .val (.double (FP.ddiv (FP.l2d (((p1 >>> ((10 : Int32) &&& 31))).toInt64 * (p2).toInt64)) (FP.l2d (p2).toInt64))), .second, .val (.int (1 : Int32)), .unset, .unset, .unset] [])) τ
        refine own_dconst0 X16.here hx rfl (hb hby at_85) ?_
        show Steps p.tables e below (T16.setTop (mkF m 86 #[.val (.int p1), .val (.int p2), .val (.int p3), .val (.int p4), .val (.long ((p1 >>> ((10 : Int32) &&& 31))).toInt64), .second, .val (.long (p2).toInt64), .second, .val (.double (FP.l2d (((p1 >>> ((10 : Int32) &&& 31))).toInt64 * (p2).toInt64))), .second, .val (.double (FP.l2d (p2).toInt64)), .second, .val (.double (FP.ddiv (FP.l2d (((p1 >>> ((10 : Int32) &&& 31))).toInt64 * (p2).toInt64)) (FP.l2d (p2).toInt64))), .second, .val (.int (1 : Int32)), .unset, .unset, .unset] [(.double FP.dconst0)])) τ
        refine own_dstore X16.here hx rfl (hb hby at_86) rfl (l' := #[.val (.int p1), .val (.int p2), .val (.int p3), .val (.int p4), .val (.long ((p1 >>> ((10 : Int32) &&& 31))).toInt64), .second, .val (.long (p2).toInt64), .second, .val (.double (FP.l2d (((p1 >>> ((10 : Int32) &&& 31))).toInt64 * (p2).toInt64))), .second, .val (.double (FP.l2d (p2).toInt64)), .second, .val (.double (FP.ddiv (FP.l2d (((p1 >>> ((10 : Int32) &&& 31))).toInt64 * (p2).toInt64)) (FP.l2d (p2).toInt64))), .second, .val (.int (1 : Int32)), .val (.double FP.dconst0), .second, .unset]) rfl ?_
        show Steps p.tables e below (T16.setTop (mkF m 88 #[.val (.int p1), .val (.int p2), .val (.int p3), .val (.int p4), .val (.long ((p1 >>> ((10 : Int32) &&& 31))).toInt64), .second, .val (.long (p2).toInt64), .second, .val (.double (FP.l2d (((p1 >>> ((10 : Int32) &&& 31))).toInt64 * (p2).toInt64))), .second, .val (.double (FP.l2d (p2).toInt64)), .second, .val (.double (FP.ddiv (FP.l2d (((p1 >>> ((10 : Int32) &&& 31))).toInt64 * (p2).toInt64)) (FP.l2d (p2).toInt64))), .second, .val (.int (1 : Int32)), .val (.double FP.dconst0), .second, .unset] [])) τ
        refine XS.iloadN X16.here hx rfl (hb hby at_88) rfl ?_
        show Steps p.tables e below (T16.setTop (mkF m 89 #[.val (.int p1), .val (.int p2), .val (.int p3), .val (.int p4), .val (.long ((p1 >>> ((10 : Int32) &&& 31))).toInt64), .second, .val (.long (p2).toInt64), .second, .val (.double (FP.l2d (((p1 >>> ((10 : Int32) &&& 31))).toInt64 * (p2).toInt64))), .second, .val (.double (FP.l2d (p2).toInt64)), .second, .val (.double (FP.ddiv (FP.l2d (((p1 >>> ((10 : Int32) &&& 31))).toInt64 * (p2).toInt64)) (FP.l2d (p2).toInt64))), .second, .val (.int (1 : Int32)), .val (.double FP.dconst0), .second, .unset] [(.int p3)])) τ
        refine own_i2d X16.here hx rfl (hb hby at_89) rfl ?_
        show Steps p.tables e below (T16.setTop (mkF m 90 #[.val (.int p1), .val (.int p2), .val (.int p3), .val (.int p4), .val (.long ((p1 >>> ((10 : Int32) &&& 31))).toInt64), .second, .val (.long (p2).toInt64), .second, .val (.double (FP.l2d (((p1 >>> ((10 : Int32) &&& 31))).toInt64 * (p2).toInt64))), .second, .val (.double (FP.l2d (p2).toInt64)), .second, .val (.double (FP.ddiv (FP.l2d (((p1 >>> ((10 : Int32) &&& 31))).toInt64 * (p2).toInt64)) (FP.l2d (p2).toInt64))), .second, .val (.int (1 : Int32)), .val (.double FP.dconst0), .second, .unset] [(.double (FP.i2d p3))])) τ
        refine own_dload X16.here hx rfl (hb hby at_90) rfl ?_
        exact kt)
      obtain ⟨_, _, ⟨T20, L20, k20, n20⟩, -, X20, ⟨Lc20, hQ20, l20, y20, z20⟩, st20⟩ := Jvm.LawKit.callS X16 hx (y := (⟨"com/example/bidfold/bidfold/cli/Shares", "of", "(DD)D"⟩ : MethodName)) hown (mvT hZ (hw _ (List.mem_of_getElem? (i := 0) rfl))) (mvT hZ (hw _ (List.mem_of_getElem? (i := 1) rfl))) (mvT hZ (hw _ (List.mem_of_getElem? (i := 2) rfl))) (mvT hZ (hw _ (List.mem_of_getElem? (i := 3) rfl))) (by decide) (backOf (W := 0) (rm1a l Z a0 hw [] (FP.i2d p3) FP.dconst0 h0 n0 Z0 (by decide +kernel)) hZ (hw _ (List.mem_of_getElem? (i := 3) rfl)) (hw _ (List.mem_of_getElem? (i := 2) rfl)) (by decide) (by decide)) (g := (mkF m 92 #[.val (.int p1), .val (.int p2), .val (.int p3), .val (.int p4), .val (.long ((p1 >>> ((10 : Int32) &&& 31))).toInt64), .second, .val (.long (p2).toInt64), .second, .val (.double (FP.l2d (((p1 >>> ((10 : Int32) &&& 31))).toInt64 * (p2).toInt64))), .second, .val (.double (FP.l2d (p2).toInt64)), .second, .val (.double (FP.ddiv (FP.l2d (((p1 >>> ((10 : Int32) &&& 31))).toInt64 * (p2).toInt64)) (FP.l2d (p2).toInt64))), .second, .val (.int (1 : Int32)), .val (.double FP.dconst0), .second, .unset] [(.double FP.dconst0), (.double (FP.i2d p3))])) rfl (by rw [hml]; rfl) (argsL := [(.double (FP.i2d p3)), (.double FP.dconst0)]) (rest := []) (lenOf own_pd__DD_D rfl) rfl (by show 2 * 0 + _ ≤ _; exact Nat.le_of_eq rfl) (hb hby at_92) (fun _ _ => ⟨rfl, eq16, (by decide : 0 + 0 ≤ _), (by decide : 0 + 0 ≤ _)⟩)
      dsimp only [Pt.U, Pt.locs, Pt.cells, Pt.slots] at X20 l20 y20 z20 st20 hQ20
      subst l20 y20 z20
      obtain ⟨rfl, Nq20, eq20⟩ := hQ20
      have N20 := Fr.app N16 Nq20
      have pre21 : ∀ τ, Steps p.tables e below (T20.setTop (mkF m 95 #[.val (.int p1), .val (.int p2), .val (.int p3), .val (.int p4), .val (.long ((p1 >>> ((10 : Int32) &&& 31))).toInt64), .second, .val (.long (p2).toInt64), .second, .val (.double (FP.l2d (((p1 >>> ((10 : Int32) &&& 31))).toInt64 * (p2).toInt64))), .second, .val (.double (FP.l2d (p2).toInt64)), .second, .val (.double (FP.ddiv (FP.l2d (((p1 >>> ((10 : Int32) &&& 31))).toInt64 * (p2).toInt64)) (FP.l2d (p2).toInt64))), .second, .val (.int (1 : Int32)), .val (.double FP.dconst0), .second, .unset] [(.double FP.dconst1)])) τ → Steps p.tables e below (s₁.setTop (entryFrame m #[(.int p1), (.int p2), (.int p3), (.int p4)] maxLocals)) τ := fun τ kt => pre19 τ (st20 τ kt)
      have pre22 : ∀ τ, Steps p.tables e below (T20.setTop (mkF m 122 #[.val (.int p1), .val (.int p2), .val (.int p3), .val (.int p4), .val (.long ((p1 >>> ((10 : Int32) &&& 31))).toInt64), .second, .val (.long (p2).toInt64), .second, .val (.double (FP.l2d (((p1 >>> ((10 : Int32) &&& 31))).toInt64 * (p2).toInt64))), .second, .val (.double (FP.l2d (p2).toInt64)), .second, .val (.double (FP.ddiv (FP.l2d (((p1 >>> ((10 : Int32) &&& 31))).toInt64 * (p2).toInt64)) (FP.l2d (p2).toInt64))), .second, .val (.int (1 : Int32)), .val (.double FP.dconst0), .second, .val (.int (1 : Int32))] [(.int (1 : Int32))])) τ → Steps p.tables e below (s₁.setTop (entryFrame m #[(.int p1), (.int p2), (.int p3), (.int p4)] maxLocals)) τ := fun τ kt => pre21 τ (by
        show Steps p.tables e below (T20.setTop (mkF m 95 #[.val (.int p1), .val (.int p2), .val (.int p3), .val (.int p4), .val (.long ((p1 >>> ((10 : Int32) &&& 31))).toInt64), .second, .val (.long (p2).toInt64), .second, .val (.double (FP.l2d (((p1 >>> ((10 : Int32) &&& 31))).toInt64 * (p2).toInt64))), .second, .val (.double (FP.l2d (p2).toInt64)), .second, .val (.double (FP.ddiv (FP.l2d (((p1 >>> ((10 : Int32) &&& 31))).toInt64 * (p2).toInt64)) (FP.l2d (p2).toInt64))), .second, .val (.int (1 : Int32)), .val (.double FP.dconst0), .second, .unset] [(.double FP.dconst1)])) τ
        refine own_dconst1 X20.here hx rfl (hb hby at_95) ?_
        show Steps p.tables e below (T20.setTop (mkF m 96 #[.val (.int p1), .val (.int p2), .val (.int p3), .val (.int p4), .val (.long ((p1 >>> ((10 : Int32) &&& 31))).toInt64), .second, .val (.long (p2).toInt64), .second, .val (.double (FP.l2d (((p1 >>> ((10 : Int32) &&& 31))).toInt64 * (p2).toInt64))), .second, .val (.double (FP.l2d (p2).toInt64)), .second, .val (.double (FP.ddiv (FP.l2d (((p1 >>> ((10 : Int32) &&& 31))).toInt64 * (p2).toInt64)) (FP.l2d (p2).toInt64))), .second, .val (.int (1 : Int32)), .val (.double FP.dconst0), .second, .unset] [(.double FP.dconst1), (.double FP.dconst1)])) τ
        refine own_dcmp X20.here hx rfl (hb hby at_96) rfl ?_
        show Steps p.tables e below (T20.setTop (mkF m 97 #[.val (.int p1), .val (.int p2), .val (.int p3), .val (.int p4), .val (.long ((p1 >>> ((10 : Int32) &&& 31))).toInt64), .second, .val (.long (p2).toInt64), .second, .val (.double (FP.l2d (((p1 >>> ((10 : Int32) &&& 31))).toInt64 * (p2).toInt64))), .second, .val (.double (FP.l2d (p2).toInt64)), .second, .val (.double (FP.ddiv (FP.l2d (((p1 >>> ((10 : Int32) &&& 31))).toInt64 * (p2).toInt64)) (FP.l2d (p2).toInt64))), .second, .val (.int (1 : Int32)), .val (.double FP.dconst0), .second, .unset] [(.int (cmpValue (FP.dcmp FP.dconst1 FP.dconst1) .l))])) τ
        refine XS.ifNo X20.here hx rfl (hb hby at_97) rfl ((if0 _ _).trans (teq (own_cmp0.mpr (by decide +kernel))).2) ?_
        show Steps p.tables e below (T20.setTop (mkF m 100 #[.val (.int p1), .val (.int p2), .val (.int p3), .val (.int p4), .val (.long ((p1 >>> ((10 : Int32) &&& 31))).toInt64), .second, .val (.long (p2).toInt64), .second, .val (.double (FP.l2d (((p1 >>> ((10 : Int32) &&& 31))).toInt64 * (p2).toInt64))), .second, .val (.double (FP.l2d (p2).toInt64)), .second, .val (.double (FP.ddiv (FP.l2d (((p1 >>> ((10 : Int32) &&& 31))).toInt64 * (p2).toInt64)) (FP.l2d (p2).toInt64))), .second, .val (.int (1 : Int32)), .val (.double FP.dconst0), .second, .unset] [])) τ
        refine XS.iconst X20.here hx rfl (hb hby at_100) ?_
        show Steps p.tables e below (T20.setTop (mkF m 101 #[.val (.int p1), .val (.int p2), .val (.int p3), .val (.int p4), .val (.long ((p1 >>> ((10 : Int32) &&& 31))).toInt64), .second, .val (.long (p2).toInt64), .second, .val (.double (FP.l2d (((p1 >>> ((10 : Int32) &&& 31))).toInt64 * (p2).toInt64))), .second, .val (.double (FP.l2d (p2).toInt64)), .second, .val (.double (FP.ddiv (FP.l2d (((p1 >>> ((10 : Int32) &&& 31))).toInt64 * (p2).toInt64)) (FP.l2d (p2).toInt64))), .second, .val (.int (1 : Int32)), .val (.double FP.dconst0), .second, .unset] [(.int (1 : Int32))])) τ
        refine XS.goto X20.here hx rfl (pc0 := 101) (pc' := 105) rfl (hb hby at_101) (by decide) (by decide) ?_
        show Steps p.tables e below (T20.setTop (mkF m 105 #[.val (.int p1), .val (.int p2), .val (.int p3), .val (.int p4), .val (.long ((p1 >>> ((10 : Int32) &&& 31))).toInt64), .second, .val (.long (p2).toInt64), .second, .val (.double (FP.l2d (((p1 >>> ((10 : Int32) &&& 31))).toInt64 * (p2).toInt64))), .second, .val (.double (FP.l2d (p2).toInt64)), .second, .val (.double (FP.ddiv (FP.l2d (((p1 >>> ((10 : Int32) &&& 31))).toInt64 * (p2).toInt64)) (FP.l2d (p2).toInt64))), .second, .val (.int (1 : Int32)), .val (.double FP.dconst0), .second, .unset] [(.int (1 : Int32))])) τ
        refine XS.istore X20.here hx rfl (hb hby at_105) rfl (l' := #[.val (.int p1), .val (.int p2), .val (.int p3), .val (.int p4), .val (.long ((p1 >>> ((10 : Int32) &&& 31))).toInt64), .second, .val (.long (p2).toInt64), .second, .val (.double (FP.l2d (((p1 >>> ((10 : Int32) &&& 31))).toInt64 * (p2).toInt64))), .second, .val (.double (FP.l2d (p2).toInt64)), .second, .val (.double (FP.ddiv (FP.l2d (((p1 >>> ((10 : Int32) &&& 31))).toInt64 * (p2).toInt64)) (FP.l2d (p2).toInt64))), .second, .val (.int (1 : Int32)), .val (.double FP.dconst0), .second, .val (.int (1 : Int32))]) rfl ?_
        show Steps p.tables e below (T20.setTop (mkF m 107 #[.val (.int p1), .val (.int p2), .val (.int p3), .val (.int p4), .val (.long ((p1 >>> ((10 : Int32) &&& 31))).toInt64), .second, .val (.long (p2).toInt64), .second, .val (.double (FP.l2d (((p1 >>> ((10 : Int32) &&& 31))).toInt64 * (p2).toInt64))), .second, .val (.double (FP.l2d (p2).toInt64)), .second, .val (.double (FP.ddiv (FP.l2d (((p1 >>> ((10 : Int32) &&& 31))).toInt64 * (p2).toInt64)) (FP.l2d (p2).toInt64))), .second, .val (.int (1 : Int32)), .val (.double FP.dconst0), .second, .val (.int (1 : Int32))] [])) τ
        refine XS.iload X20.here hx rfl (hb hby at_107) rfl ?_
        show Steps p.tables e below (T20.setTop (mkF m 109 #[.val (.int p1), .val (.int p2), .val (.int p3), .val (.int p4), .val (.long ((p1 >>> ((10 : Int32) &&& 31))).toInt64), .second, .val (.long (p2).toInt64), .second, .val (.double (FP.l2d (((p1 >>> ((10 : Int32) &&& 31))).toInt64 * (p2).toInt64))), .second, .val (.double (FP.l2d (p2).toInt64)), .second, .val (.double (FP.ddiv (FP.l2d (((p1 >>> ((10 : Int32) &&& 31))).toInt64 * (p2).toInt64)) (FP.l2d (p2).toInt64))), .second, .val (.int (1 : Int32)), .val (.double FP.dconst0), .second, .val (.int (1 : Int32))] [(.int (1 : Int32))])) τ
        refine XS.ifNo X20.here hx rfl (hb hby at_109) rfl ((if0 _ _).trans (feq (by decide)).1) ?_
        show Steps p.tables e below (T20.setTop (mkF m 112 #[.val (.int p1), .val (.int p2), .val (.int p3), .val (.int p4), .val (.long ((p1 >>> ((10 : Int32) &&& 31))).toInt64), .second, .val (.long (p2).toInt64), .second, .val (.double (FP.l2d (((p1 >>> ((10 : Int32) &&& 31))).toInt64 * (p2).toInt64))), .second, .val (.double (FP.l2d (p2).toInt64)), .second, .val (.double (FP.ddiv (FP.l2d (((p1 >>> ((10 : Int32) &&& 31))).toInt64 * (p2).toInt64)) (FP.l2d (p2).toInt64))), .second, .val (.int (1 : Int32)), .val (.double FP.dconst0), .second, .val (.int (1 : Int32))] [])) τ
        refine XS.iload X20.here hx rfl (hb hby at_112) rfl ?_
        show Steps p.tables e below (T20.setTop (mkF m 114 #[.val (.int p1), .val (.int p2), .val (.int p3), .val (.int p4), .val (.long ((p1 >>> ((10 : Int32) &&& 31))).toInt64), .second, .val (.long (p2).toInt64), .second, .val (.double (FP.l2d (((p1 >>> ((10 : Int32) &&& 31))).toInt64 * (p2).toInt64))), .second, .val (.double (FP.l2d (p2).toInt64)), .second, .val (.double (FP.ddiv (FP.l2d (((p1 >>> ((10 : Int32) &&& 31))).toInt64 * (p2).toInt64)) (FP.l2d (p2).toInt64))), .second, .val (.int (1 : Int32)), .val (.double FP.dconst0), .second, .val (.int (1 : Int32))] [(.int (1 : Int32))])) τ
        refine XS.ifNo X20.here hx rfl (hb hby at_114) rfl ((if0 _ _).trans (feq (by decide)).1) ?_
        show Steps p.tables e below (T20.setTop (mkF m 117 #[.val (.int p1), .val (.int p2), .val (.int p3), .val (.int p4), .val (.long ((p1 >>> ((10 : Int32) &&& 31))).toInt64), .second, .val (.long (p2).toInt64), .second, .val (.double (FP.l2d (((p1 >>> ((10 : Int32) &&& 31))).toInt64 * (p2).toInt64))), .second, .val (.double (FP.l2d (p2).toInt64)), .second, .val (.double (FP.ddiv (FP.l2d (((p1 >>> ((10 : Int32) &&& 31))).toInt64 * (p2).toInt64)) (FP.l2d (p2).toInt64))), .second, .val (.int (1 : Int32)), .val (.double FP.dconst0), .second, .val (.int (1 : Int32))] [])) τ
        refine XS.iconst X20.here hx rfl (hb hby at_117) ?_
        show Steps p.tables e below (T20.setTop (mkF m 118 #[.val (.int p1), .val (.int p2), .val (.int p3), .val (.int p4), .val (.long ((p1 >>> ((10 : Int32) &&& 31))).toInt64), .second, .val (.long (p2).toInt64), .second, .val (.double (FP.l2d (((p1 >>> ((10 : Int32) &&& 31))).toInt64 * (p2).toInt64))), .second, .val (.double (FP.l2d (p2).toInt64)), .second, .val (.double (FP.ddiv (FP.l2d (((p1 >>> ((10 : Int32) &&& 31))).toInt64 * (p2).toInt64)) (FP.l2d (p2).toInt64))), .second, .val (.int (1 : Int32)), .val (.double FP.dconst0), .second, .val (.int (1 : Int32))] [(.int (1 : Int32))])) τ
        refine XS.goto X20.here hx rfl (pc0 := 118) (pc' := 122) rfl (hb hby at_118) (by decide) (by decide) ?_
        exact kt)
      obtain ⟨fs, hr, hrun, hended, hW, hsame⟩ := X20.leave (v := some (.int (1 : Int32))) (fun h => by rw [Bd.returns] at h; cases h)
      refine ⟨_, _, pre22 _ ?_, hrun, hended, _, _, rfl, ?_, ⟨_, rfl⟩, hW, hsame.mono (by decide) (by decide)⟩
      · show Steps p.tables e below (T20.setTop (mkF m 122 #[.val (.int p1), .val (.int p2), .val (.int p3), .val (.int p4), .val (.long ((p1 >>> ((10 : Int32) &&& 31))).toInt64), .second, .val (.long (p2).toInt64), .second, .val (.double (FP.l2d (((p1 >>> ((10 : Int32) &&& 31))).toInt64 * (p2).toInt64))), .second, .val (.double (FP.l2d (p2).toInt64)), .second, .val (.double (FP.ddiv (FP.l2d (((p1 >>> ((10 : Int32) &&& 31))).toInt64 * (p2).toInt64)) (FP.l2d (p2).toInt64))), .second, .val (.int (1 : Int32)), .val (.double FP.dconst0), .second, .val (.int (1 : Int32))] [(.int (1 : Int32))])) _
        exact retN X20 hx (t := .boolean) Bd.returns (by simp) (hb hby at_122) hr
      · show Q0 n0 _ T20.heap _
        exact ⟨rfl, N20⟩
    · skip
      have pre23 : ∀ τ, Steps p.tables e below (T16.setTop (mkF m 92 #[.val (.int p1), .val (.int p2), .val (.int p3), .val (.int p4), .val (.long ((p1 >>> ((10 : Int32) &&& 31))).toInt64), .second, .val (.long (p2).toInt64), .second, .val (.double (FP.l2d (((p1 >>> ((10 : Int32) &&& 31))).toInt64 * (p2).toInt64))), .second, .val (.double (FP.l2d (p2).toInt64)), .second, .val (.double (FP.ddiv (FP.l2d (((p1 >>> ((10 : Int32) &&& 31))).toInt64 * (p2).toInt64)) (FP.l2d (p2).toInt64))), .second, .val (.int (1 : Int32)), .val (.double (9223372036854775808 : UInt64)), .second, .unset] [(.double (9223372036854775808 : UInt64)), (.double (FP.i2d p3))])) τ → Steps p.tables e below (s₁.setTop (entryFrame m #[(.int p1), (.int p2), (.int p3), (.int p4)] maxLocals)) τ := fun τ kt => pre18 τ (by
        show Steps p.tables e below (T16.setTop (mkF m 76 #[.val (.int p1), .val (.int p2), .val (.int p3), .val (.int p4), .val (.long ((p1 >>> ((10 : Int32) &&& 31))).toInt64), .second, .val (.long (p2).toInt64), .second, .val (.double (FP.l2d (((p1 >>> ((10 : Int32) &&& 31))).toInt64 * (p2).toInt64))), .second, .val (.double (FP.l2d (p2).toInt64)), .second, .val (.double (FP.ddiv (FP.l2d (((p1 >>> ((10 : Int32) &&& 31))).toInt64 * (p2).toInt64)) (FP.l2d (p2).toInt64))), .second, .val (.int (1 : Int32)), .unset, .unset, .unset] [(.int (p4 &&& (1 : Int32)))])) τ
        refine XS.ifNo X16.here hx rfl (hb hby at_76) rfl ((if0 _ _).trans (feq hf).1) ?_
        show Steps p.tables e below (T16.setTop (mkF m 79 #[.val (.int p1), .val (.int p2), .val (.int p3), .val (.int p4), .val (.long ((p1 >>> ((10 : Int32) &&& 31))).toInt64), .second, .val (.long (p2).toInt64), .second, .val (.double (FP.l2d (((p1 >>> ((10 : Int32) &&& 31))).toInt64 * (p2).toInt64))), .second, .val (.double (FP.l2d (p2).toInt64)), .second, .val (.double (FP.ddiv (FP.l2d (((p1 >>> ((10 : Int32) &&& 31))).toInt64 * (p2).toInt64)) (FP.l2d (p2).toInt64))), .second, .val (.int (1 : Int32)), .unset, .unset, .unset] [])) τ
        refine X16.ldc2DoubleC hx hown (mvT hZ (hw _ (List.mem_of_getElem? (i := 4) rfl))) (g := (mkF m 79 #[.val (.int p1), .val (.int p2), .val (.int p3), .val (.int p4), .val (.long ((p1 >>> ((10 : Int32) &&& 31))).toInt64), .second, .val (.long (p2).toInt64), .second, .val (.double (FP.l2d (((p1 >>> ((10 : Int32) &&& 31))).toInt64 * (p2).toInt64))), .second, .val (.double (FP.l2d (p2).toInt64)), .second, .val (.double (FP.ddiv (FP.l2d (((p1 >>> ((10 : Int32) &&& 31))).toInt64 * (p2).toInt64)) (FP.l2d (p2).toInt64))), .second, .val (.int (1 : Int32)), .unset, .unset, .unset] [])) rfl (hb hby at_79) _ ?_
        show Steps p.tables e below (T16.setTop (mkF m 82 #[.val (.int p1), .val (.int p2), .val (.int p3), .val (.int p4), .val (.long ((p1 >>> ((10 : Int32) &&& 31))).toInt64), .second, .val (.long (p2).toInt64), .second, .val (.double (FP.l2d (((p1 >>> ((10 : Int32) &&& 31))).toInt64 * (p2).toInt64))), .second, .val (.double (FP.l2d (p2).toInt64)), .second, .val (.double (FP.ddiv (FP.l2d (((p1 >>> ((10 : Int32) &&& 31))).toInt64 * (p2).toInt64)) (FP.l2d (p2).toInt64))), .second, .val (.int (1 : Int32)), .unset, .unset, .unset] [(.double (9223372036854775808 : UInt64))])) τ
        refine XS.goto X16.here hx rfl (pc0 := 82) (pc' := 86) rfl (hb hby at_82) (by decide) (by decide) ?_
        show Steps p.tables e below (T16.setTop (mkF m 86 #[.val (.int p1), .val (.int p2), .val (.int p3), .val (.int p4), .val (.long ((p1 >>> ((10 : Int32) &&& 31))).toInt64), .second, .val (.long (p2).toInt64), .second, .val (.double (FP.l2d (((p1 >>> ((10 : Int32) &&& 31))).toInt64 * (p2).toInt64))), .second, .val (.double (FP.l2d (p2).toInt64)), .second, .val (.double (FP.ddiv (FP.l2d (((p1 >>> ((10 : Int32) &&& 31))).toInt64 * (p2).toInt64)) (FP.l2d (p2).toInt64))), .second, .val (.int (1 : Int32)), .unset, .unset, .unset] [(.double (9223372036854775808 : UInt64))])) τ
        refine own_dstore X16.here hx rfl (hb hby at_86) rfl (l' := #[.val (.int p1), .val (.int p2), .val (.int p3), .val (.int p4), .val (.long ((p1 >>> ((10 : Int32) &&& 31))).toInt64), .second, .val (.long (p2).toInt64), .second, .val (.double (FP.l2d (((p1 >>> ((10 : Int32) &&& 31))).toInt64 * (p2).toInt64))), .second, .val (.double (FP.l2d (p2).toInt64)), .second, .val (.double (FP.ddiv (FP.l2d (((p1 >>> ((10 : Int32) &&& 31))).toInt64 * (p2).toInt64)) (FP.l2d (p2).toInt64))), .second, .val (.int (1 : Int32)), .val (.double (9223372036854775808 : UInt64)), .second, .unset]) rfl ?_
        show Steps p.tables e below (T16.setTop (mkF m 88 #[.val (.int p1), .val (.int p2), .val (.int p3), .val (.int p4), .val (.long ((p1 >>> ((10 : Int32) &&& 31))).toInt64), .second, .val (.long (p2).toInt64), .second, .val (.double (FP.l2d (((p1 >>> ((10 : Int32) &&& 31))).toInt64 * (p2).toInt64))), .second, .val (.double (FP.l2d (p2).toInt64)), .second, .val (.double (FP.ddiv (FP.l2d (((p1 >>> ((10 : Int32) &&& 31))).toInt64 * (p2).toInt64)) (FP.l2d (p2).toInt64))), .second, .val (.int (1 : Int32)), .val (.double (9223372036854775808 : UInt64)), .second, .unset] [])) τ
        refine XS.iloadN X16.here hx rfl (hb hby at_88) rfl ?_
        show Steps p.tables e below (T16.setTop (mkF m 89 #[.val (.int p1), .val (.int p2), .val (.int p3), .val (.int p4), .val (.long ((p1 >>> ((10 : Int32) &&& 31))).toInt64), .second, .val (.long (p2).toInt64), .second, .val (.double (FP.l2d (((p1 >>> ((10 : Int32) &&& 31))).toInt64 * (p2).toInt64))), .second, .val (.double (FP.l2d (p2).toInt64)), .second, .val (.double (FP.ddiv (FP.l2d (((p1 >>> ((10 : Int32) &&& 31))).toInt64 * (p2).toInt64)) (FP.l2d (p2).toInt64))), .second, .val (.int (1 : Int32)), .val (.double (9223372036854775808 : UInt64)), .second, .unset] [(.int p3)])) τ
        refine own_i2d X16.here hx rfl (hb hby at_89) rfl ?_
        show Steps p.tables e below (T16.setTop (mkF m 90 #[.val (.int p1), .val (.int p2), .val (.int p3), .val (.int p4), .val (.long ((p1 >>> ((10 : Int32) &&& 31))).toInt64), .second, .val (.long (p2).toInt64), .second, .val (.double (FP.l2d (((p1 >>> ((10 : Int32) &&& 31))).toInt64 * (p2).toInt64))), .second, .val (.double (FP.l2d (p2).toInt64)), .second, .val (.double (FP.ddiv (FP.l2d (((p1 >>> ((10 : Int32) &&& 31))).toInt64 * (p2).toInt64)) (FP.l2d (p2).toInt64))), .second, .val (.int (1 : Int32)), .val (.double (9223372036854775808 : UInt64)), .second, .unset] [(.double (FP.i2d p3))])) τ
        refine own_dload X16.here hx rfl (hb hby at_90) rfl ?_
        exact kt)
      obtain ⟨_, _, ⟨T24, L24, k24, n24⟩, -, X24, ⟨Lc24, hQ24, l24, y24, z24⟩, st24⟩ := Jvm.LawKit.callS X16 hx (y := (⟨"com/example/bidfold/bidfold/cli/Shares", "of", "(DD)D"⟩ : MethodName)) hown (mvT hZ (hw _ (List.mem_of_getElem? (i := 0) rfl))) (mvT hZ (hw _ (List.mem_of_getElem? (i := 1) rfl))) (mvT hZ (hw _ (List.mem_of_getElem? (i := 2) rfl))) (mvT hZ (hw _ (List.mem_of_getElem? (i := 3) rfl))) (by decide) (backOf (W := 0) (rm1a l Z a0 hw [] (FP.i2d p3) (9223372036854775808 : UInt64) h0 n0 Z0 (by decide +kernel)) hZ (hw _ (List.mem_of_getElem? (i := 3) rfl)) (hw _ (List.mem_of_getElem? (i := 2) rfl)) (by decide) (by decide)) (g := (mkF m 92 #[.val (.int p1), .val (.int p2), .val (.int p3), .val (.int p4), .val (.long ((p1 >>> ((10 : Int32) &&& 31))).toInt64), .second, .val (.long (p2).toInt64), .second, .val (.double (FP.l2d (((p1 >>> ((10 : Int32) &&& 31))).toInt64 * (p2).toInt64))), .second, .val (.double (FP.l2d (p2).toInt64)), .second, .val (.double (FP.ddiv (FP.l2d (((p1 >>> ((10 : Int32) &&& 31))).toInt64 * (p2).toInt64)) (FP.l2d (p2).toInt64))), .second, .val (.int (1 : Int32)), .val (.double (9223372036854775808 : UInt64)), .second, .unset] [(.double (9223372036854775808 : UInt64)), (.double (FP.i2d p3))])) rfl (by rw [hml]; rfl) (argsL := [(.double (FP.i2d p3)), (.double (9223372036854775808 : UInt64))]) (rest := []) (lenOf own_pd__DD_D rfl) rfl (by show 2 * 0 + _ ≤ _; exact Nat.le_of_eq rfl) (hb hby at_92) (fun _ _ => ⟨rfl, eq16, (by decide : 0 + 0 ≤ _), (by decide : 0 + 0 ≤ _)⟩)
      dsimp only [Pt.U, Pt.locs, Pt.cells, Pt.slots] at X24 l24 y24 z24 st24 hQ24
      subst l24 y24 z24
      obtain ⟨rfl, Nq24, eq24⟩ := hQ24
      have N24 := Fr.app N16 Nq24
      have pre25 : ∀ τ, Steps p.tables e below (T24.setTop (mkF m 95 #[.val (.int p1), .val (.int p2), .val (.int p3), .val (.int p4), .val (.long ((p1 >>> ((10 : Int32) &&& 31))).toInt64), .second, .val (.long (p2).toInt64), .second, .val (.double (FP.l2d (((p1 >>> ((10 : Int32) &&& 31))).toInt64 * (p2).toInt64))), .second, .val (.double (FP.l2d (p2).toInt64)), .second, .val (.double (FP.ddiv (FP.l2d (((p1 >>> ((10 : Int32) &&& 31))).toInt64 * (p2).toInt64)) (FP.l2d (p2).toInt64))), .second, .val (.int (1 : Int32)), .val (.double (9223372036854775808 : UInt64)), .second, .unset] [(.double FP.dconst1)])) τ → Steps p.tables e below (s₁.setTop (entryFrame m #[(.int p1), (.int p2), (.int p3), (.int p4)] maxLocals)) τ := fun τ kt => pre23 τ (st24 τ kt)
      have pre26 : ∀ τ, Steps p.tables e below (T24.setTop (mkF m 122 #[.val (.int p1), .val (.int p2), .val (.int p3), .val (.int p4), .val (.long ((p1 >>> ((10 : Int32) &&& 31))).toInt64), .second, .val (.long (p2).toInt64), .second, .val (.double (FP.l2d (((p1 >>> ((10 : Int32) &&& 31))).toInt64 * (p2).toInt64))), .second, .val (.double (FP.l2d (p2).toInt64)), .second, .val (.double (FP.ddiv (FP.l2d (((p1 >>> ((10 : Int32) &&& 31))).toInt64 * (p2).toInt64)) (FP.l2d (p2).toInt64))), .second, .val (.int (1 : Int32)), .val (.double (9223372036854775808 : UInt64)), .second, .val (.int (1 : Int32))] [(.int (1 : Int32))])) τ → Steps p.tables e below (s₁.setTop (entryFrame m #[(.int p1), (.int p2), (.int p3), (.int p4)] maxLocals)) τ := fun τ kt => pre25 τ (by
        show Steps p.tables e below (T24.setTop (mkF m 95 #[.val (.int p1), .val (.int p2), .val (.int p3), .val (.int p4), .val (.long ((p1 >>> ((10 : Int32) &&& 31))).toInt64), .second, .val (.long (p2).toInt64), .second, .val (.double (FP.l2d (((p1 >>> ((10 : Int32) &&& 31))).toInt64 * (p2).toInt64))), .second, .val (.double (FP.l2d (p2).toInt64)), .second, .val (.double (FP.ddiv (FP.l2d (((p1 >>> ((10 : Int32) &&& 31))).toInt64 * (p2).toInt64)) (FP.l2d (p2).toInt64))), .second, .val (.int (1 : Int32)), .val (.double (9223372036854775808 : UInt64)), .second, .unset] [(.double FP.dconst1)])) τ
        refine own_dconst1 X24.here hx rfl (hb hby at_95) ?_
        show Steps p.tables e below (T24.setTop (mkF m 96 #[.val (.int p1), .val (.int p2), .val (.int p3), .val (.int p4), .val (.long ((p1 >>> ((10 : Int32) &&& 31))).toInt64), .second, .val (.long (p2).toInt64), .second, .val (.double (FP.l2d (((p1 >>> ((10 : Int32) &&& 31))).toInt64 * (p2).toInt64))), .second, .val (.double (FP.l2d (p2).toInt64)), .second, .val (.double (FP.ddiv (FP.l2d (((p1 >>> ((10 : Int32) &&& 31))).toInt64 * (p2).toInt64)) (FP.l2d (p2).toInt64))), .second, .val (.int (1 : Int32)), .val (.double (9223372036854775808 : UInt64)), .second, .unset] [(.double FP.dconst1), (.double FP.dconst1)])) τ
        refine own_dcmp X24.here hx rfl (hb hby at_96) rfl ?_
        show Steps p.tables e below (T24.setTop (mkF m 97 #[.val (.int p1), .val (.int p2), .val (.int p3), .val (.int p4), .val (.long ((p1 >>> ((10 : Int32) &&& 31))).toInt64), .second, .val (.long (p2).toInt64), .second, .val (.double (FP.l2d (((p1 >>> ((10 : Int32) &&& 31))).toInt64 * (p2).toInt64))), .second, .val (.double (FP.l2d (p2).toInt64)), .second, .val (.double (FP.ddiv (FP.l2d (((p1 >>> ((10 : Int32) &&& 31))).toInt64 * (p2).toInt64)) (FP.l2d (p2).toInt64))), .second, .val (.int (1 : Int32)), .val (.double (9223372036854775808 : UInt64)), .second, .unset] [(.int (cmpValue (FP.dcmp FP.dconst1 FP.dconst1) .l))])) τ
        refine XS.ifNo X24.here hx rfl (hb hby at_97) rfl ((if0 _ _).trans (teq (own_cmp0.mpr (by decide +kernel))).2) ?_
        show Steps p.tables e below (T24.setTop (mkF m 100 #[.val (.int p1), .val (.int p2), .val (.int p3), .val (.int p4), .val (.long ((p1 >>> ((10 : Int32) &&& 31))).toInt64), .second, .val (.long (p2).toInt64), .second, .val (.double (FP.l2d (((p1 >>> ((10 : Int32) &&& 31))).toInt64 * (p2).toInt64))), .second, .val (.double (FP.l2d (p2).toInt64)), .second, .val (.double (FP.ddiv (FP.l2d (((p1 >>> ((10 : Int32) &&& 31))).toInt64 * (p2).toInt64)) (FP.l2d (p2).toInt64))), .second, .val (.int (1 : Int32)), .val (.double (9223372036854775808 : UInt64)), .second, .unset] [])) τ
        refine XS.iconst X24.here hx rfl (hb hby at_100) ?_
        show Steps p.tables e below (T24.setTop (mkF m 101 #[.val (.int p1), .val (.int p2), .val (.int p3), .val (.int p4), .val (.long ((p1 >>> ((10 : Int32) &&& 31))).toInt64), .second, .val (.long (p2).toInt64), .second, .val (.double (FP.l2d (((p1 >>> ((10 : Int32) &&& 31))).toInt64 * (p2).toInt64))), .second, .val (.double (FP.l2d (p2).toInt64)), .second, .val (.double (FP.ddiv (FP.l2d (((p1 >>> ((10 : Int32) &&& 31))).toInt64 * (p2).toInt64)) (FP.l2d (p2).toInt64))), .second, .val (.int (1 : Int32)), .val (.double (9223372036854775808 : UInt64)), .second, .unset] [(.int (1 : Int32))])) τ
        refine XS.goto X24.here hx rfl (pc0 := 101) (pc' := 105) rfl (hb hby at_101) (by decide) (by decide) ?_
        show Steps p.tables e below (T24.setTop (mkF m 105 #[.val (.int p1), .val (.int p2), .val (.int p3), .val (.int p4), .val (.long ((p1 >>> ((10 : Int32) &&& 31))).toInt64), .second, .val (.long (p2).toInt64), .second, .val (.double (FP.l2d (((p1 >>> ((10 : Int32) &&& 31))).toInt64 * (p2).toInt64))), .second, .val (.double (FP.l2d (p2).toInt64)), .second, .val (.double (FP.ddiv (FP.l2d (((p1 >>> ((10 : Int32) &&& 31))).toInt64 * (p2).toInt64)) (FP.l2d (p2).toInt64))), .second, .val (.int (1 : Int32)), .val (.double (9223372036854775808 : UInt64)), .second, .unset] [(.int (1 : Int32))])) τ
        refine XS.istore X24.here hx rfl (hb hby at_105) rfl (l' := #[.val (.int p1), .val (.int p2), .val (.int p3), .val (.int p4), .val (.long ((p1 >>> ((10 : Int32) &&& 31))).toInt64), .second, .val (.long (p2).toInt64), .second, .val (.double (FP.l2d (((p1 >>> ((10 : Int32) &&& 31))).toInt64 * (p2).toInt64))), .second, .val (.double (FP.l2d (p2).toInt64)), .second, .val (.double (FP.ddiv (FP.l2d (((p1 >>> ((10 : Int32) &&& 31))).toInt64 * (p2).toInt64)) (FP.l2d (p2).toInt64))), .second, .val (.int (1 : Int32)), .val (.double (9223372036854775808 : UInt64)), .second, .val (.int (1 : Int32))]) rfl ?_
        show Steps p.tables e below (T24.setTop (mkF m 107 #[.val (.int p1), .val (.int p2), .val (.int p3), .val (.int p4), .val (.long ((p1 >>> ((10 : Int32) &&& 31))).toInt64), .second, .val (.long (p2).toInt64), .second, .val (.double (FP.l2d (((p1 >>> ((10 : Int32) &&& 31))).toInt64 * (p2).toInt64))), .second, .val (.double (FP.l2d (p2).toInt64)), .second, .val (.double (FP.ddiv (FP.l2d (((p1 >>> ((10 : Int32) &&& 31))).toInt64 * (p2).toInt64)) (FP.l2d (p2).toInt64))), .second, .val (.int (1 : Int32)), .val (.double (9223372036854775808 : UInt64)), .second, .val (.int (1 : Int32))] [])) τ
        refine XS.iload X24.here hx rfl (hb hby at_107) rfl ?_
        show Steps p.tables e below (T24.setTop (mkF m 109 #[.val (.int p1), .val (.int p2), .val (.int p3), .val (.int p4), .val (.long ((p1 >>> ((10 : Int32) &&& 31))).toInt64), .second, .val (.long (p2).toInt64), .second, .val (.double (FP.l2d (((p1 >>> ((10 : Int32) &&& 31))).toInt64 * (p2).toInt64))), .second, .val (.double (FP.l2d (p2).toInt64)), .second, .val (.double (FP.ddiv (FP.l2d (((p1 >>> ((10 : Int32) &&& 31))).toInt64 * (p2).toInt64)) (FP.l2d (p2).toInt64))), .second, .val (.int (1 : Int32)), .val (.double (9223372036854775808 : UInt64)), .second, .val (.int (1 : Int32))] [(.int (1 : Int32))])) τ
        refine XS.ifNo X24.here hx rfl (hb hby at_109) rfl ((if0 _ _).trans (feq (by decide)).1) ?_
        show Steps p.tables e below (T24.setTop (mkF m 112 #[.val (.int p1), .val (.int p2), .val (.int p3), .val (.int p4), .val (.long ((p1 >>> ((10 : Int32) &&& 31))).toInt64), .second, .val (.long (p2).toInt64), .second, .val (.double (FP.l2d (((p1 >>> ((10 : Int32) &&& 31))).toInt64 * (p2).toInt64))), .second, .val (.double (FP.l2d (p2).toInt64)), .second, .val (.double (FP.ddiv (FP.l2d (((p1 >>> ((10 : Int32) &&& 31))).toInt64 * (p2).toInt64)) (FP.l2d (p2).toInt64))), .second, .val (.int (1 : Int32)), .val (.double (9223372036854775808 : UInt64)), .second, .val (.int (1 : Int32))] [])) τ
        refine XS.iload X24.here hx rfl (hb hby at_112) rfl ?_
        show Steps p.tables e below (T24.setTop (mkF m 114 #[.val (.int p1), .val (.int p2), .val (.int p3), .val (.int p4), .val (.long ((p1 >>> ((10 : Int32) &&& 31))).toInt64), .second, .val (.long (p2).toInt64), .second, .val (.double (FP.l2d (((p1 >>> ((10 : Int32) &&& 31))).toInt64 * (p2).toInt64))), .second, .val (.double (FP.l2d (p2).toInt64)), .second, .val (.double (FP.ddiv (FP.l2d (((p1 >>> ((10 : Int32) &&& 31))).toInt64 * (p2).toInt64)) (FP.l2d (p2).toInt64))), .second, .val (.int (1 : Int32)), .val (.double (9223372036854775808 : UInt64)), .second, .val (.int (1 : Int32))] [(.int (1 : Int32))])) τ
        refine XS.ifNo X24.here hx rfl (hb hby at_114) rfl ((if0 _ _).trans (feq (by decide)).1) ?_
        show Steps p.tables e below (T24.setTop (mkF m 117 #[.val (.int p1), .val (.int p2), .val (.int p3), .val (.int p4), .val (.long ((p1 >>> ((10 : Int32) &&& 31))).toInt64), .second, .val (.long (p2).toInt64), .second, .val (.double (FP.l2d (((p1 >>> ((10 : Int32) &&& 31))).toInt64 * (p2).toInt64))), .second, .val (.double (FP.l2d (p2).toInt64)), .second, .val (.double (FP.ddiv (FP.l2d (((p1 >>> ((10 : Int32) &&& 31))).toInt64 * (p2).toInt64)) (FP.l2d (p2).toInt64))), .second, .val (.int (1 : Int32)), .val (.double (9223372036854775808 : UInt64)), .second, .val (.int (1 : Int32))] [])) τ
        refine XS.iconst X24.here hx rfl (hb hby at_117) ?_
        show Steps p.tables e below (T24.setTop (mkF m 118 #[.val (.int p1), .val (.int p2), .val (.int p3), .val (.int p4), .val (.long ((p1 >>> ((10 : Int32) &&& 31))).toInt64), .second, .val (.long (p2).toInt64), .second, .val (.double (FP.l2d (((p1 >>> ((10 : Int32) &&& 31))).toInt64 * (p2).toInt64))), .second, .val (.double (FP.l2d (p2).toInt64)), .second, .val (.double (FP.ddiv (FP.l2d (((p1 >>> ((10 : Int32) &&& 31))).toInt64 * (p2).toInt64)) (FP.l2d (p2).toInt64))), .second, .val (.int (1 : Int32)), .val (.double (9223372036854775808 : UInt64)), .second, .val (.int (1 : Int32))] [(.int (1 : Int32))])) τ
        refine XS.goto X24.here hx rfl (pc0 := 118) (pc' := 122) rfl (hb hby at_118) (by decide) (by decide) ?_
        exact kt)
      obtain ⟨fs, hr, hrun, hended, hW, hsame⟩ := X24.leave (v := some (.int (1 : Int32))) (fun h => by rw [Bd.returns] at h; cases h)
      refine ⟨_, _, pre26 _ ?_, hrun, hended, _, _, rfl, ?_, ⟨_, rfl⟩, hW, hsame.mono (by decide) (by decide)⟩
      · show Steps p.tables e below (T24.setTop (mkF m 122 #[.val (.int p1), .val (.int p2), .val (.int p3), .val (.int p4), .val (.long ((p1 >>> ((10 : Int32) &&& 31))).toInt64), .second, .val (.long (p2).toInt64), .second, .val (.double (FP.l2d (((p1 >>> ((10 : Int32) &&& 31))).toInt64 * (p2).toInt64))), .second, .val (.double (FP.l2d (p2).toInt64)), .second, .val (.double (FP.ddiv (FP.l2d (((p1 >>> ((10 : Int32) &&& 31))).toInt64 * (p2).toInt64)) (FP.l2d (p2).toInt64))), .second, .val (.int (1 : Int32)), .val (.double (9223372036854775808 : UInt64)), .second, .val (.int (1 : Int32))] [(.int (1 : Int32))])) _
        exact retN X24 hx (t := .boolean) Bd.returns (by simp) (hb hby at_122) hr
      · show Q0 n0 _ T24.heap _
        exact ⟨rfl, N24⟩
set_option maxRecDepth 65536 in
set_option maxHeartbeats 40000000 in
theorem comes_1 {Post : Tables → Env → Array Value → State → Outcome → State → Prop} (hpost : ∀ tb e args s v u, (limb_1_1.after args s (.returned v) u = true ∧ limb_1_2.after args s (.returned v) u = true ∧ True) → FrameEnd s (.returned v) u (Jvm.fieldLocs frame_1_writes args s ++ Jvm.arrayLocs frame_1_arrays args s ++ Jvm.staticLocs frame_1_statics s) 0 0 → Post tb e args s (.returned v) u) :
    ArmFor flags0 classFile x code maxLocals ret World_1 tables_1 room_1 Calls_1 rest_1 Pre_1 Post := by
  intro l hfl _ _ p e ha hc hk s m args below hf hA hF happ hP
  obtain ⟨hcalls, hrest, hpre⟩ := hP
  obtain ⟨-, -, -, hnamed, -, -, -, hat⟩ := (Spec.applies_iff hf).mp happ
  obtain ⟨hg, hn⟩ := and_e (Cond.before_iff.mp (show (Jvm.Cond.and given_1 narrow_1).before args s = true from hpre))
  obtain ⟨g1, g2⟩ := and_e hg
  obtain ⟨g3, g4⟩ := and_e g2
  obtain ⟨g5, g6⟩ := and_e g4
  obtain ⟨g7, g8⟩ := and_e g6
  obtain ⟨w0, w1, w2, w3, rfl⟩ : ∃ w0 w1 w2 w3 : Value, args = #[w0, w1, w2, w3] := by
    have hs : args.size = 4 := by simpa [Cond.value, given_1] using g1
    obtain ⟨L⟩ := args
    match L, hs with
    | [w0, w1, w2, w3], _ => exact ⟨w0, w1, w2, w3, rfl⟩
  have hw := fun d (hd : d ∈ tables_1) => atoms_spec (ws := Jvm.Cond.code x code maxLocals ret :: tables_1) hat d (List.mem_cons_of_mem _ hd)
  obtain ⟨i0, ei0⟩ := is_v g3
  obtain rfl : w0 = (.int i0) := Option.some.inj ei0
  obtain ⟨i1, ei1⟩ := is_v g5
  obtain rfl : w1 = (.int i1) := Option.some.inj ei1
  obtain ⟨i2, ei2⟩ := is_v g7
  obtain rfl : w2 = (.int i2) := Option.some.inj ei2
  obtain ⟨i3, ei3⟩ := is_v g8
  obtain rfl : w3 = (.int i3) := Option.some.inj ei3
  obtain ⟨n, o, h1, h2, h3, _, L, rfl, ⟨rfl, N⟩, hq⟩ := rm0 l s _ hw tables_1 i0 i1 i2 i3 s.heap s.heap.size (Nat.le_refl _) p e ha hc hk s m _ below hf ((Spec.applies_iff_loose hf).mp happ).1 ⟨rfl, State.Warmed39.refl s, rfl⟩ trivial
  refine ⟨n, _, h1, h2, h3, hpost _ _ _ _ _ _ ⟨Cond.after_iff.mpr rfl, Cond.after_iff.mpr (eq_i res_at (Term.int_eval (1)) rfl), trivial⟩ ⟨hq.1, hq.2.1, (hq.2.2.sift fun y hy => Or.inr (N y hy)).mono (by decide) (by decide)⟩⟩
theorem main_1_1 : Claimed_1_1 := comes_1 fun _ _ _ _ _ _ h hF => ⟨h.1, hF⟩
theorem main_1_2 : Claimed_1_2 := comes_1 fun _ _ _ _ _ _ h hF => ⟨h.2.1, hF⟩
end Jvm.Pilot.@@N@@
namespace Jvm.Pilot.@@N@@
open Jvm Jvm.ClassFile Sem Op Lib Jvm.Free Jvm.Stand Jvm.Pilot.@@N@@.Jvm.D
/-! MADE BY PROGRAM (witnessworld.py) out of the Statement's table words and the real class files: 9 classes; the members and pool entries that the words name. The judged class is class 1, her method 1. -/
namespace start1
open Jvm.ClassFile
def u (s : String) : CpInfo := .utf8 (stringToUtf16 s)
/-- a pool by its gaps: so many unusable entries, then the entry; so many at the end -/
def gap : Nat → List CpInfo → List CpInfo
  | 0, r => r
  | n + 1, r => .unusable :: gap n r
def poolList (es : List (Nat × CpInfo)) (last : Nat) : List CpInfo := es.foldr (fun e r => gap e.1 (e.2 :: r)) (gap last [])
def pool (es : List (Nat × CpInfo)) (last : Nat) : Array CpInfo := ⟨poolList es last⟩
def fileOf (pool : Array CpInfo) (this : Nat) (attrs : Array Attribute := #[]) (ms : Array MethodInfo := #[]) (fl : Nat := 33) (sup : Nat := 0) (ifs : Array Nat := #[]) (fds : Array FieldInfo := #[]) : ClassFile where
  minorVersion := 0
  majorVersion := 65
  constantPool := pool
  accessFlags := fl
  thisClass := this
  superClass := sup
  interfaces := ifs
  fields := fds
  methods := ms
  attributes := attrs
def plain (name : String) (sup : Option ClassId) : Class where
  name := name
  kind := .ordinary
  loader := none
  accessFlags := 33
  super := sup
  interfaces := #[]
  cf := none
  fields := #[]
  methods := #[]
  instanceTypes := #[]
  staticTypes := #[]
  resolved := #[]
  callSites := []
  init := .initialized
  statics := none
  mirror := none

def pool0 : Array CpInfo := pool [(5, u "<init>"), (0, u "()V"), (1, .class_ 10), (1, u "java/lang/Object")] 113

def k0m0 : Method := { name := "<init>", desc := "()V", sig := { parameters := [], returnType := none }, accessFlags := 1, code := none }
/-- java/lang/Object -/
def k0 : Class := { plain "java/lang/Object" none with
  accessFlags := 33
  interfaces := #[]
  cf := some (fileOf pool0 8 #[] #[{ accessFlags := 1, nameIndex := 5, descriptorIndex := 6, attributes := #[] }] 33 0 #[] #[])
  fields := #[]
  methods := #[k0m0]
  instanceTypes := #[]
  staticTypes := #[]
  resolved := Array.replicate 124 none
  statics := none }

def pool1 : Array CpInfo := pool [(2, .class_ 4), (1, u "java/lang/Object"), (0, u "<init>"), (0, u "()V"), (0, .methodref 8 9), (0, .class_ 10), (0, .nameAndType 11 12), (0, u "com/example/bidfold/bidfold/cli/Shares"), (0, u "of"), (0, u "(DD)D"), (0, .double 9223372036854775808), (1, .class_ 16), (0, u "com/example/bidfold/bidfold/cli/SharesOfPinLaw"), (2, u "law"), (0, u "(IIII)Z")] 3

def k1m0 : Method := { name := "<init>", desc := "()V", sig := { parameters := [], returnType := none }, accessFlags := 2, code := none }
def k1c1 : Code := { maxStack := 4, maxLocals := 18, code := code, exceptionTable := #[], attributes := #[] }
def k1m1 : Method := { name := "law", desc := "(IIII)Z", sig := { parameters := [.int, .int, .int, .int], returnType := some .boolean }, accessFlags := 9, code := some k1c1 }
/-- com/example/bidfold/bidfold/cli/SharesOfPinLaw -/
def k1 : Class := { plain "com/example/bidfold/bidfold/cli/SharesOfPinLaw" (some 0) with
  accessFlags := 49
  interfaces := #[]
  cf := some (fileOf pool1 15 #[] #[{ accessFlags := 2, nameIndex := 5, descriptorIndex := 6, attributes := #[] }, { accessFlags := 9, nameIndex := 19, descriptorIndex := 20, attributes := #[] }] 49 2 #[] #[])
  fields := #[]
  methods := #[k1m0, k1m1]
  instanceTypes := #[]
  staticTypes := #[]
  resolved := Array.replicate 24 none
  statics := none }

def pool2 : Array CpInfo := pool [(2, .class_ 4), (1, u "java/lang/Object"), (0, u "<init>"), (0, u "()V"), (43, .class_ 51), (0, u "com/example/bidfold/bidfold/cli/Shares"), (2, u "of"), (0, u "(DD)D")] 8

def k2m0 : Method := { name := "<init>", desc := "()V", sig := { parameters := [], returnType := none }, accessFlags := 2, code := none }
def k2c1 : Code := { maxStack := 4, maxLocals := 4, code := prog_1_method_2_code, exceptionTable := #[], attributes := #[] }
def k2m1 : Method := { name := "of", desc := "(DD)D", sig := { parameters := [.double, .double], returnType := some .double }, accessFlags := 8, code := some k2c1 }
/-- com/example/bidfold/bidfold/cli/Shares -/
def k2 : Class := { plain "com/example/bidfold/bidfold/cli/Shares" (some 0) with
  accessFlags := 48
  interfaces := #[]
  cf := some (fileOf pool2 50 #[] #[{ accessFlags := 2, nameIndex := 5, descriptorIndex := 6, attributes := #[] }, { accessFlags := 8, nameIndex := 54, descriptorIndex := 55, attributes := #[] }] 48 2 #[] #[])
  fields := #[]
  methods := #[k2m0, k2m1]
  instanceTypes := #[]
  staticTypes := #[]
  resolved := Array.replicate 64 none
  statics := none }

def pool3 : Array CpInfo := pool [(1, u "java/lang/Cloneable"), (0, .class_ 1), (0, u "java/lang/Object"), (0, .class_ 3)] 3

/-- java/lang/Cloneable -/
def k3 : Class := { plain "java/lang/Cloneable" (some 0) with
  accessFlags := 1537
  interfaces := #[]
  cf := some (fileOf pool3 2 #[] #[] 1537 4 #[] #[])
  fields := #[]
  methods := #[]
  instanceTypes := #[]
  staticTypes := #[]
  resolved := Array.replicate 8 none
  statics := none }

def pool4 : Array CpInfo := pool [(1, u "java/io/Serializable"), (0, .class_ 1), (0, u "java/lang/Object"), (0, .class_ 3)] 3

/-- java/io/Serializable -/
def k4 : Class := { plain "java/io/Serializable" (some 0) with
  accessFlags := 1537
  interfaces := #[]
  cf := some (fileOf pool4 2 #[] #[] 1537 4 #[] #[])
  fields := #[]
  methods := #[]
  instanceTypes := #[]
  staticTypes := #[]
  resolved := Array.replicate 8 none
  statics := none }

/-- the primitive byte -/
def k5 : Class := { plain "byte" none with kind := .primitive 'B', accessFlags := 0x411 }
/-- [B -/
def k6 : Class := { plain "[B" (some 0) with kind := .array 5 .byte, interfaces := #[3, 4], accessFlags := 1041 }

/-- the primitive int -/
def k7 : Class := { plain "int" none with kind := .primitive 'I', accessFlags := 0x411 }
/-- [I -/
def k8 : Class := { plain "[I" (some 0) with kind := .array 7 .int, interfaces := #[3, 4], accessFlags := 1041 }

def heap : Heap := #[]
def classes : Array Class := #[k0, k1, k2, k3, k4, k5, k6, k7, k8]
def interned : List (Array UInt16 × Addr) := []
def slotsUsed : Nat := 0
def theMethod : MethodId := ⟨1, 1⟩
def args0 : Array Value := #[.int 5, .int 7, .int 9, .int 1]
def aboutOver (below : List Frame) : State where
  vm := { classes := classes, interned := interned.toArray }
  heap := heap
  slotsUsed := slotsUsed
  threads := #[{ frames := .invoking theMethod args0 :: below }]
def below0 : List Frame := [.native { method := ⟨0, 0⟩, args := #[] }]
def about1 : State := aboutOver below0
def p0 : Program := .bare "" "" ""
def e0 : Env := launch0.env 0 0 0
theorem w_frames : about1.frames = Frame.invoking theMethod args0 :: below0 := rfl
set_option maxRecDepth 65536 in
theorem w_args : argsFit about1.vm theMethod args0 = true := by decide +kernel
set_option maxRecDepth 65536 in
theorem w_heap : heapFits about1 = true := by decide +kernel
set_option maxRecDepth 65536 in
theorem w_runnable : about1.curStatus? = some .runnable := by decide +kernel
set_option maxRecDepth 65536 in
theorem w_alone : about1.alone = true := by decide +kernel
set_option maxRecDepth 65536 in
theorem w_named : about1.methodNamed? x = some theMethod := by decide +kernel
set_option maxRecDepth 65536 in
theorem w_hears : about1.hears theMethod below0 = true := by decide +kernel
set_option maxRecDepth 65536 in
theorem w_ripe : about1.ripe theMethod args0 below0 = true := by decide +kernel
theorem w_running : about1.status = .running := rfl
set_option maxRecDepth 65536 in
theorem w_room : about1.hasRoom e0.platform room_1 = true :=
  launch0.hasRoom_least _ room_1 (by decide +kernel) (by decide +kernel) (by decide +kernel) (by decide +kernel) (by decide +kernel) (by decide +kernel)
theorem allAtoms_all (ts : List Jvm.Cond) (a : Array Jvm.Value) (st : Jvm.State) : (allAtoms ts).before a st = ts.all (fun c => c.before a st) := by
  induction ts with
  | nil => rfl
  | cons c t ih =>
    show (Jvm.Cond.and c (allAtoms t)).before a st = _
    rw [Jvm.Cond.before_and, ih, List.all_cons]
def words1 : List Jvm.Cond := Jvm.Cond.code x code maxLocals ret :: tables_1
/-- a 'code' word, met by the world's own term for the bytes: nothing is compared byte by byte -/
theorem code_word {y : MethodName} {bytes : ByteArray} {mx : Nat} {rt : Option FieldType} {a : Array Value} {s : State} {m : MethodId} {meth : Method} {c : Code} (h1 : s.methodNamed? y = some m) (h2 : s.vm.method? m = some meth) (h3 : meth.code = some c) (h4 : c.code = bytes)
    (h5 : (c.maxLocals == mx && c.exceptionTable.isEmpty && decide (c.maxStack ≤ mostOperands) && decide (meth.sig.returnType = rt) && !meth.locks && decide (parseMethodDescriptor y.desc = some meth.sig)) = true) : (Jvm.Cond.code y bytes mx rt).before a s = true := by
  simp only [Bool.and_eq_true, beq_iff_eq, Bool.not_eq_true', decide_eq_true_eq] at h5
  obtain ⟨⟨⟨⟨⟨g1, g2⟩, g3⟩, g4⟩, g5⟩, g6⟩ := h5
  simp [Cond.before, Cond.holds, Cond.value, h1, h2, h3, h4, g1, g2, g3, g4, g5, g6]
def isCode : Jvm.Cond → Bool
  | .code _ _ _ _ => true
  | _ => false
theorem all_split {L : List Jvm.Cond} {P : Jvm.Cond → Bool} (h1 : L.all (fun c => isCode c || P c) = true) (h2 : ∀ c ∈ L.filter isCode, P c = true) : L.all P = true := by
  refine List.all_eq_true.mpr fun c hc => ?_
  have h := List.all_eq_true.mp h1 c hc
  rcases Bool.eq_false_or_eq_true (isCode c) with hi | hi
  · exact h2 c (List.mem_filter.mpr ⟨hc, hi⟩)
  · simpa [hi] using h
set_option maxRecDepth 65536 in
theorem w_c0 : (Jvm.Cond.code x code maxLocals ret).before args0 about1 = true := code_word (m := ⟨1, 1⟩) (meth := k1m1) (c := k1c1) (by decide +kernel) rfl rfl rfl (by decide +kernel)
set_option maxRecDepth 65536 in
theorem w_c1 : (Jvm.Cond.code ({ cls := "com/example/bidfold/bidfold/cli/Shares", name := "of", desc := "(DD)D" } : Jvm.MethodName) prog_1_method_2_code (4 : Nat) (Option.some Jvm.ClassFile.FieldType.double)).before args0 about1 = true := code_word (m := ⟨2, 1⟩) (meth := k2m1) (c := k2c1) (by decide +kernel) rfl rfl rfl (by decide +kernel)
def codes1 : List Jvm.Cond := [Jvm.Cond.code x code maxLocals ret, Jvm.Cond.code ({ cls := "com/example/bidfold/bidfold/cli/Shares", name := "of", desc := "(DD)D" } : Jvm.MethodName) prog_1_method_2_code (4 : Nat) (Option.some Jvm.ClassFile.FieldType.double)]
set_option maxRecDepth 65536 in
theorem codes_eq : words1.filter isCode = codes1 := rfl
theorem w_codes : ∀ c ∈ words1.filter isCode, c.before args0 about1 = true := by
  rw [codes_eq]
  intro c hc
  simp only [codes1, List.mem_cons, List.not_mem_nil, or_false] at hc
  rcases hc with rfl | rfl
  · exact w_c0
  · exact w_c1
set_option maxRecDepth 65536 in
theorem w_t1 : words1.all (fun c => isCode c || c.before args0 about1) = true := by decide +kernel
theorem w_tables : (allAtoms (Jvm.Cond.code x code maxLocals ret :: tables_1)).before args0 about1 = true := by
  rw [allAtoms_all]
  show words1.all (fun c => c.before args0 about1) = true
  refine all_split ?_ w_codes
  rw [w_t1]
set_option maxRecDepth 65536 in
theorem w_case : (Jvm.Cond.and given_1 narrow_1).before args0 about1 = true := by decide +kernel
theorem w_applies : (headSpec (Jvm.Cond.code x code maxLocals ret :: tables_1) room_1).applies x e0.platform about1 = true :=
  (Spec.applies_iff w_frames).mpr ⟨w_running, w_runnable, w_alone, w_named, w_hears, w_ripe, w_room, w_tables⟩
theorem atStart : AtStart classFile x code maxLocals ret World_1 tables_1 room_1 Calls_1 rest_1 Pre_1 launch0 p0 e0 about1 theMethod args0 below0 :=
  ⟨lists_1, trivial, launch0.admits_env _ _ _, launch0.least_env, fairChoices_fair.cas, fairChoices_fair.clock, w_frames, w_args, w_heap, w_applies, trivial, trivial, w_case⟩
end start1
theorem witness_1 : WitnessClaimed_1 := ⟨start1.p0, start1.e0, start1.about1, start1.theMethod, start1.args0, start1.below0, start1.atStart⟩
end Jvm.Pilot.@@N@@
