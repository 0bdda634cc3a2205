import JvmDerived
import JvmDerived.Pilot.@@N@@Statement
import JvmDerived.Pilot.@@N@@Code
set_option linter.unusedVariables false
set_option linter.unusedSimpArgs false
namespace Jvm.RoadKit
open Sem ClassFile Op Lib Jvm.Stand Jvm.Free Jvm.LawKit
section New
variable {p : Program} {l : Launch} {e : Env} {R : Room} {s : State} {m : MethodId} {args : Array Value} {below : List Frame} {meth : Method} {c : Code} {T : State} {locs : List Loc} {cells slots : Nat}
end New
end Jvm.RoadKit
namespace Jvm.Pilot.@@N@@
open Jvm Jvm.ClassFile Sem Op Lib Jvm.Free Jvm.Stand Jvm.LawKit Jvm.RoadKit Bundle Jvm.Pilot.@@N@@.Jvm.D
theorem own_dloadN {tb : Tables} [Ours tb] {e : Env} {below : List Frame} {T target : State} {m : MethodId} {c : Code} {g : JFrame} (h : At T m c below) (hx : tb.exec = Jvm.exec) (hg : g.method = m) {k : Fin 4} {v : UInt64} (hd : decode c.code g.pc = .ok (.dload_n k, 1)) (hl : g.locals[k.val]? = some (.val (.double v)))
    (hr : Steps tb e below (T.setTop { g with pc := g.pc + 1, stack := .double v :: g.stack }) target) : Steps tb e below (T.setTop g) target := by
  subst hg
  jvm_step h [h.top, hx, hd, hl]
  exact hr
theorem own_dload {tb : Tables} [Ours tb] {e : Env} {below : List Frame} {T target : State} {m : MethodId} {c : Code} {g : JFrame} (h : At T m c below) (hx : tb.exec = Jvm.exec) (hg : g.method = m) {k : Nat} {v : UInt64} (hd : decode c.code g.pc = .ok (.dload k, 2)) (hl : g.locals[k]? = some (.val (.double v)))
    (hr : Steps tb e below (T.setTop { g with pc := g.pc + 2, stack := .double v :: g.stack }) target) : Steps tb e below (T.setTop g) target := by
  subst hg
  jvm_step h [h.top, hx, hd, hl]
  exact hr
theorem own_dstoreN {tb : Tables} [Ours tb] {e : Env} {below : List Frame} {T target : State} {m : MethodId} {c : Code} {g : JFrame} (h : At T m c below) (hx : tb.exec = Jvm.exec) (hg : g.method = m) {k : Fin 4} {x : UInt64} {rest : List Value} {l' : Array Slot} (hd : decode c.code g.pc = .ok (.dstore_n k, 1)) (hs : g.stack = .double x :: rest) (hl : storeLocals g.locals k.val (.double x) = some l')
    (hr : Steps tb e below (T.setTop { g with pc := g.pc + 1, stack := rest, locals := l' }) target) : Steps tb e below (T.setTop g) target := by
  subst hg
  jvm_step h [h.top, hx, hd, hs, hl]
  exact hr
theorem own_dstore {tb : Tables} [Ours tb] {e : Env} {below : List Frame} {T target : State} {m : MethodId} {c : Code} {g : JFrame} (h : At T m c below) (hx : tb.exec = Jvm.exec) (hg : g.method = m) {k : Nat} {x : UInt64} {rest : List Value} {l' : Array Slot} (hd : decode c.code g.pc = .ok (.dstore k, 2)) (hs : g.stack = .double x :: rest) (hl : storeLocals g.locals k (.double x) = some l')
    (hr : Steps tb e below (T.setTop { g with pc := g.pc + 2, stack := rest, locals := l' }) target) : Steps tb e below (T.setTop g) target := by
  subst hg
  jvm_step h [h.top, hx, hd, hs, hl]
  exact hr
theorem own_dconst0 {tb : Tables} [Ours tb] {e : Env} {below : List Frame} {T target : State} {m : MethodId} {c : Code} {g : JFrame} (h : At T m c below) (hx : tb.exec = Jvm.exec) (hg : g.method = m) (hd : decode c.code g.pc = .ok (.dconst 0, 1))
    (hr : Steps tb e below (T.setTop { g with pc := g.pc + 1, stack := .double FP.dconst0 :: g.stack }) target) : Steps tb e below (T.setTop g) target := by
  subst hg
  jvm_step h [h.top, hx, hd]
  exact hr
theorem own_dconst1 {tb : Tables} [Ours tb] {e : Env} {below : List Frame} {T target : State} {m : MethodId} {c : Code} {g : JFrame} (h : At T m c below) (hx : tb.exec = Jvm.exec) (hg : g.method = m) (hd : decode c.code g.pc = .ok (.dconst 1, 1))
    (hr : Steps tb e below (T.setTop { g with pc := g.pc + 1, stack := .double FP.dconst1 :: g.stack }) target) : Steps tb e below (T.setTop g) target := by
  subst hg
  jvm_step h [h.top, hx, hd]
  exact hr
theorem own_i2d {tb : Tables} [Ours tb] {e : Env} {below : List Frame} {T target : State} {m : MethodId} {c : Code} {g : JFrame} (h : At T m c below) (hx : tb.exec = Jvm.exec) (hg : g.method = m) {x : Int32} {rest : List Value} (hd : decode c.code g.pc = .ok (.i2d, 1)) (hs : g.stack = .int x :: rest)
    (hr : Steps tb e below (T.setTop { g with pc := g.pc + 1, stack := .double (FP.i2d x) :: rest }) target) : Steps tb e below (T.setTop g) target := by
  subst hg
  jvm_step h [h.top, hx, hd, hs]
  exact hr
theorem own_l2d {tb : Tables} [Ours tb] {e : Env} {below : List Frame} {T target : State} {m : MethodId} {c : Code} {g : JFrame} (h : At T m c below) (hx : tb.exec = Jvm.exec) (hg : g.method = m) {x : Int64} {rest : List Value} (hd : decode c.code g.pc = .ok (.l2d, 1)) (hs : g.stack = .long x :: rest)
    (hr : Steps tb e below (T.setTop { g with pc := g.pc + 1, stack := .double (FP.l2d x) :: rest }) target) : Steps tb e below (T.setTop g) target := by
  subst hg
  jvm_step h [h.top, hx, hd, hs]
  exact hr
theorem own_dneg {tb : Tables} [Ours tb] {e : Env} {below : List Frame} {T target : State} {m : MethodId} {c : Code} {g : JFrame} (h : At T m c below) (hx : tb.exec = Jvm.exec) (hg : g.method = m) {x : UInt64} {rest : List Value} (hd : decode c.code g.pc = .ok (.dneg, 1)) (hs : g.stack = .double x :: rest)
    (hr : Steps tb e below (T.setTop { g with pc := g.pc + 1, stack := .double (FP.dneg x) :: rest }) target) : Steps tb e below (T.setTop g) target := by
  subst hg
  jvm_step h [h.top, hx, hd, hs]
  exact hr
theorem own_dcmp {tb : Tables} [Ours tb] {e : Env} {below : List Frame} {T target : State} {m : MethodId} {c : Code} {g : JFrame} (h : At T m c below) (hx : tb.exec = Jvm.exec) (hg : g.method = m) {op : CmpOp} {x y : UInt64} {rest : List Value} (hd : decode c.code g.pc = .ok (.dcmp op, 1)) (hs : g.stack = .double y :: .double x :: rest)
    (hr : Steps tb e below (T.setTop { g with pc := g.pc + 1, stack := .int (cmpValue (FP.dcmp x y) op) :: rest }) target) : Steps tb e below (T.setTop g) target := by
  subst hg
  jvm_step h [h.top, hx, hd, hs]
  exact hr
theorem own_dadd {tb : Tables} [Ours tb] {e : Env} {below : List Frame} {T target : State} {m : MethodId} {c : Code} {g : JFrame} (h : At T m c below) (hx : tb.exec = Jvm.exec) (hg : g.method = m) {x y : UInt64} {rest : List Value} (hd : decode c.code g.pc = .ok (.dadd, 1)) (hs : g.stack = .double y :: .double x :: rest) (hn : Jvm.Free.Fl.NoNaN64 (FP.dadd x y))
    (hr : Steps tb e below (T.setTop { g with pc := g.pc + 1, stack := .double (FP.dadd x y) :: rest }) target) : Steps tb e below (T.setTop g) target := by
  obtain ⟨gm, gpc, gl, gs, glk, gen, gmr⟩ := g
  subst hg
  dsimp only at hs
  subst hs
  jvm_step h [hx, hd, Op.dadd.at_number h.top hn]
  exact hr
theorem own_dsub {tb : Tables} [Ours tb] {e : Env} {below : List Frame} {T target : State} {m : MethodId} {c : Code} {g : JFrame} (h : At T m c below) (hx : tb.exec = Jvm.exec) (hg : g.method = m) {x y : UInt64} {rest : List Value} (hd : decode c.code g.pc = .ok (.dsub, 1)) (hs : g.stack = .double y :: .double x :: rest) (hn : Jvm.Free.Fl.NoNaN64 (FP.dsub x y))
    (hr : Steps tb e below (T.setTop { g with pc := g.pc + 1, stack := .double (FP.dsub x y) :: rest }) target) : Steps tb e below (T.setTop g) target := by
  obtain ⟨gm, gpc, gl, gs, glk, gen, gmr⟩ := g
  subst hg
  dsimp only at hs
  subst hs
  jvm_step h [hx, hd, Op.dsub.at_number h.top hn]
  exact hr
theorem own_dmul {tb : Tables} [Ours tb] {e : Env} {below : List Frame} {T target : State} {m : MethodId} {c : Code} {g : JFrame} (h : At T m c below) (hx : tb.exec = Jvm.exec) (hg : g.method = m) {x y : UInt64} {rest : List Value} (hd : decode c.code g.pc = .ok (.dmul, 1)) (hs : g.stack = .double y :: .double x :: rest) (hn : Jvm.Free.Fl.NoNaN64 (FP.dmul x y))
    (hr : Steps tb e below (T.setTop { g with pc := g.pc + 1, stack := .double (FP.dmul x y) :: rest }) target) : Steps tb e below (T.setTop g) target := by
  obtain ⟨gm, gpc, gl, gs, glk, gen, gmr⟩ := g
  subst hg
  dsimp only at hs
  subst hs
  jvm_step h [hx, hd, Op.dmul.at_number h.top hn]
  exact hr
theorem own_ddiv {tb : Tables} [Ours tb] {e : Env} {below : List Frame} {T target : State} {m : MethodId} {c : Code} {g : JFrame} (h : At T m c below) (hx : tb.exec = Jvm.exec) (hg : g.method = m) {x y : UInt64} {rest : List Value} (hd : decode c.code g.pc = .ok (.ddiv, 1)) (hs : g.stack = .double y :: .double x :: rest) (hn : Jvm.Free.Fl.NoNaN64 (FP.ddiv x y))
    (hr : Steps tb e below (T.setTop { g with pc := g.pc + 1, stack := .double (FP.ddiv x y) :: rest }) target) : Steps tb e below (T.setTop g) target := by
  obtain ⟨gm, gpc, gl, gs, glk, gen, gmr⟩ := g
  subst hg
  dsimp only at hs
  subst hs
  jvm_step h [hx, hd, Op.ddiv.at_number h.top hn]
  exact hr
theorem own_stD {p : Program} {l : Launch} {e : Env} {R : Room} {s : State} {m : MethodId} {args : Array Value} {below : List Frame} {meth : Method} {c : Code} {T : State} {locs : List Loc} {cells slots : Nat} {Z : State} {h : Heap}
    (X : Stand p l e R s m args below meth c T locs cells slots) (hx : p.tables.exec = Jvm.exec) (hZ : Z.Warmed39 s.vm) (eT : T.heap = h) {a : Addr} {cl : Cell} (A : Arr Z h a cl .double) {j : Int32} {x : UInt64} (hj : ¬ (j < 0 ∨ cl.slots.size ≤ j.toNatClampNeg)) {g : JFrame} (hg : g.method = m) {rest : List Value} (hs : g.stack = .double x :: .int j :: .ref a :: rest) (hd : decode c.code g.pc = .ok (.dastore, 1)) :
    ∃ T' h', Stand p l e R s m args below meth c T' (locs ++ [⟨a, j.toNatClampNeg⟩]) cells slots ∧ T'.heap = h' ∧ Wr h h' a j.toNatClampNeg (.double x) ∧ ∀ target, Steps p.tables e below (T'.setTop { g with pc := g.pc + 1, stack := rest }) target → Steps p.tables e below (T.setTop g) target := by
  obtain ⟨X', st⟩ := X.dastore hx (by rw [eT]; exact A.1) (State.isArrayOf_alike hZ.alike A.2.1) A.2.2 hj hg hs hd
  exact ⟨_, _, X', rfl, ⟨cl, A.1, A.plain, Nat.lt_of_not_le fun q => hj (Or.inr q), by rw [← eT]; rfl⟩, st⟩
section OwnCalls
variable {p : Program} {l : Launch} {e : Env} {R : Room} {s : State} {m : MethodId} {args : Array Value} {below : List Frame} {meth : Method} {c : Code} {T : State} {locs : List Loc} {cells slots : Nat} {Z : State} {a0 : Array Value} {h : Heap}
theorem own_virt (X : Stand p l e R s m args below meth c T locs cells slots) (hx : p.tables.exec = Jvm.exec) (hZ : Z.Warmed39 s.vm) {own C : String} {index : Nat} {y : MethodName} (hown : s.vm.findClass own = some m.cls)
    (w1 : (Jvm.Cond.methodLink own index y).before a0 Z = true) (w2 : (Jvm.Cond.declares y).before a0 Z = true) (w3 : (Jvm.Cond.selects C y y).before a0 Z = true) (w4 : (Jvm.Cond.instanceMethod y).before a0 Z = true)
    (hy : y.cls ≠ "java/lang/invoke/MethodHandle" ∧ y.cls ≠ "java/lang/invoke/VarHandle") {bytes : ByteArray} {maxL : Nat} {ret : Option FieldType} {rm : Room} {as' : Array Value} {Q : Option Value → Heap → List Loc → Prop}
    (hM : MetFree l y (head1 [Jvm.Cond.code y bytes maxL ret] rm) (fun α U => α = as' ∧ Z.Warmed39 U.vm ∧ U.heap = h) (fun _ _ _ _ _ => True) (fun _ U o U' => ∃ v L, o = .returned v ∧ Q v U'.heap L ∧ FrameEnd U o U' L rm.cells rm.slots))
    (wc : (Jvm.Cond.code y bytes maxL ret).before a0 Z = true) (wz : (Jvm.Cond.initialized y.cls).before a0 Z = true) (W : Nat) (hf : rm.frames + 1 ≤ R.frames) (hl : W + (maxL + 11) + rm.locals ≤ R.locals)
    {b : Addr} (E : Exa Z h b C) (eT : T.heap = h) (g : JFrame) (hg : g.method = m) (hsize : g.locals.size = c.maxLocals) (argsL rest : List Value) (has : (.ref b :: argsL).toArray = as')
    (hlen : ∀ sig, parseMethodDescriptor y.desc = some sig → argsL.length = sig.parameters.length) (hstack : g.stack = argsL.reverse ++ .ref b :: rest) (hW : 2 * g.monitorRoom + (rest.map fun v => v.category).sum ≤ W)
    (hdg : decode c.code g.pc = .ok (.invokevirtual index, 3)) (hc : cells + rm.cells ≤ R.cells) (hs : slots + rm.slots ≤ R.slots) :
    ∃ (v : Option Value) (T' : State) (L : List Loc), Stand p l e R s m args below meth c T' (locs ++ L) (cells + rm.cells) (slots + rm.slots) ∧ Q v T'.heap L ∧
      ∀ τ, Steps p.tables e below (T'.setTop { g with pc := g.pc + 3, stack := v.toList ++ rest }) τ → Steps p.tables e below (T.setTop g) τ := by
  obtain ⟨cq, kq, qa, qb, qc⟩ := isOf hZ eT E
  obtain ⟨v, _, ⟨T1, L1, k1, n1⟩, -, X1, ⟨Lc, hQ, l1, y1, z1⟩, st⟩ := X.virtualBack hx (y := y) (z := y) hown (mvT hZ w1) (mvT hZ w2) (notFace_of_selects (args := #[]) (mvT hZ w3)) (mvT hZ w3) (mvT hZ w4) hy (backOf (W := W) hM hZ wc wz hf hl) qa qc (g := g) hg hsize (Steps.refl _) (argsL := argsL) (rest := rest) hlen hstack hW hdg (fun _ _ => ⟨has, eT, hc, hs⟩)
  dsimp only [Pt.U, Pt.locs, Pt.cells, Pt.slots] at X1 l1 y1 z1 st hQ
  subst l1 y1 z1
  exact ⟨v, T1, Lc, X1, hQ, fun τ kt => st.trans kt⟩
theorem own_spec (X : Stand p l e R s m args below meth c T locs cells slots) (hx : p.tables.exec = Jvm.exec) (hZ : Z.Warmed39 s.vm) {own : String} {index : Nat} {y : MethodName} (hy1 : y.name = "<init>") (hown : s.vm.findClass own = some m.cls)
    (w1 : (Jvm.Cond.methodLink own index y).before a0 Z = true) (w4 : (Jvm.Cond.instanceMethod y).before a0 Z = true)
    (hy : y.cls ≠ "java/lang/invoke/MethodHandle" ∧ y.cls ≠ "java/lang/invoke/VarHandle") {bytes : ByteArray} {maxL : Nat} {rm : Room} {as' : Array Value} {Q : Option Value → Heap → List Loc → Prop}
    (hM : MetFree l y (head1 [Jvm.Cond.code y bytes maxL none] rm) (fun α U => α = as' ∧ Z.Warmed39 U.vm ∧ U.heap = h) (fun _ _ _ _ _ => True) (fun _ U o U' => ∃ v L, o = .returned v ∧ Q v U'.heap L ∧ FrameEnd U o U' L rm.cells rm.slots))
    (wc : (Jvm.Cond.code y bytes maxL none).before a0 Z = true) (wz : (Jvm.Cond.initialized y.cls).before a0 Z = true) (W : Nat) (hf : rm.frames + 1 ≤ R.frames) (hl : W + (maxL + 11) + rm.locals ≤ R.locals)
    {b : Addr} (eT : T.heap = h) (g : JFrame) (hg : g.method = m) (hsize : g.locals.size = c.maxLocals) (argsL rest : List Value) (has : (.ref b :: argsL).toArray = as')
    (hlen : ∀ sig, parseMethodDescriptor y.desc = some sig → argsL.length = sig.parameters.length) (hstack : g.stack = argsL.reverse ++ .ref b :: rest) (hW : 2 * g.monitorRoom + (rest.map fun v => v.category).sum ≤ W)
    (hdg : decode c.code g.pc = .ok (.invokespecial index, 3)) (hc : cells + rm.cells ≤ R.cells) (hs : slots + rm.slots ≤ R.slots) :
    ∃ (v : Option Value) (T' : State) (L : List Loc), Stand p l e R s m args below meth c T' (locs ++ L) (cells + rm.cells) (slots + rm.slots) ∧ Q v T'.heap L ∧
      ∀ τ, Steps p.tables e below (T'.setTop { g with pc := g.pc + 3, stack := v.toList ++ rest }) τ → Steps p.tables e below (T.setTop g) τ := by
  obtain ⟨v, _, ⟨T1, L1, k1, n1⟩, -, X1, ⟨Lc, hQ, l1, y1, z1⟩, st⟩ := X.specialBack hx (y := y) hy1 hown (mvT hZ w1) (mvT hZ w4) (mvT hZ wc) hy (backOf (W := W) hM hZ wc wz hf hl) (g := g) hg hsize (Steps.refl _) (a := b) (argsL := argsL) (rest := rest) hlen hstack hW hdg (fun _ _ => ⟨has, eT, hc, hs⟩)
  dsimp only [Pt.U, Pt.locs, Pt.cells, Pt.slots] at X1 l1 y1 z1 st hQ
  subst l1 y1 z1
  exact ⟨v, T1, Lc, X1, hQ, fun τ kt => st.trans kt⟩
theorem own_stat (X : Stand p l e R s m args below meth c T locs cells slots) (hx : p.tables.exec = Jvm.exec) (hZ : Z.Warmed39 s.vm) {own : String} {index : Nat} {y : MethodName} (hown : s.vm.findClass own = some m.cls)
    (w1 : (Jvm.Cond.methodLink own index y).before a0 Z = true) (w2 : (Jvm.Cond.static y).before a0 Z = true)
    (hy : y.cls ≠ "java/lang/invoke/MethodHandle" ∧ y.cls ≠ "java/lang/invoke/VarHandle") {bytes : ByteArray} {maxL : Nat} {ret : Option FieldType} {rm : Room} {as' : Array Value} {Q : Option Value → Heap → List Loc → Prop}
    (hM : MetFree l y (head1 [Jvm.Cond.code y bytes maxL ret] rm) (fun α U => α = as' ∧ Z.Warmed39 U.vm ∧ U.heap = h) (fun _ _ _ _ _ => True) (fun _ U o U' => ∃ v L, o = .returned v ∧ Q v U'.heap L ∧ FrameEnd U o U' L rm.cells rm.slots))
    (wc : (Jvm.Cond.code y bytes maxL ret).before a0 Z = true) (wz : (Jvm.Cond.initialized y.cls).before a0 Z = true) (W : Nat) (hf : rm.frames + 1 ≤ R.frames) (hl : W + (maxL + 11) + rm.locals ≤ R.locals)
    (eT : T.heap = h) (g : JFrame) (hg : g.method = m) (hsize : g.locals.size = c.maxLocals) (argsL rest : List Value) (has : argsL.toArray = as')
    (hlen : ∀ sig, parseMethodDescriptor y.desc = some sig → argsL.length = sig.parameters.length) (hstack : g.stack = argsL.reverse ++ rest) (hW : 2 * g.monitorRoom + (rest.map fun v => v.category).sum ≤ W)
    (hdg : decode c.code g.pc = .ok (.invokestatic index, 3)) (hc : cells + rm.cells ≤ R.cells) (hs : slots + rm.slots ≤ R.slots) :
    ∃ (v : Option Value) (T' : State) (L : List Loc), Stand p l e R s m args below meth c T' (locs ++ L) (cells + rm.cells) (slots + rm.slots) ∧ Q v T'.heap L ∧
      ∀ τ, Steps p.tables e below (T'.setTop { g with pc := g.pc + 3, stack := v.toList ++ rest }) τ → Steps p.tables e below (T.setTop g) τ := by
  obtain ⟨v, _, ⟨T1, L1, k1, n1⟩, -, X1, ⟨Lc, hQ, l1, y1, z1⟩, st⟩ := Jvm.LawKit.callS X hx (y := y) hown (mvT hZ w1) (mvT hZ w2) (mvT hZ wz) (mvT hZ wc) hy (backOf (W := W) hM hZ wc wz hf hl) (g := g) hg hsize (argsL := argsL) (rest := rest) hlen hstack hW hdg (fun _ _ => ⟨has, eT, hc, hs⟩)
  dsimp only [Pt.U, Pt.locs, Pt.cells, Pt.slots] at X1 l1 y1 z1 st hQ
  subst l1 y1 z1
  exact ⟨v, T1, Lc, X1, hQ, st⟩
end OwnCalls
section OwnDy
open Jvm.FP Jvm.FP.Core
def own_sh (j : Int) : Datum → Datum
  | .fin s c q => .fin s c (q + j)
  | d => d
def own_Dy (n k : Int) (d : Datum) : Prop := Whole n (own_sh (-k) d)
theorem own_dy0 {n : Int} {d : Datum} : own_Dy n 0 d ↔ Whole n d := by
  cases d with
  | nan => exact Iff.rfl
  | inf => exact Iff.rfl
  | fin s c q =>
    show Whole n (.fin s c (q + -0)) ↔ _
    rw [show q + -0 = q by omega]
theorem own_sh_prod (i j : Int) (x y : Datum) : exactProduct (own_sh i x) (own_sh j y) = own_sh (i + j) (exactProduct x y) := by
  cases x <;> cases y <;> try rfl
  · simp only [own_sh, exactProduct]; split <;> rfl
  · simp only [own_sh, exactProduct]; split <;> rfl
  · simp only [own_sh, exactProduct, Datum.fin.injEq, true_and]; omega
theorem own_dy_prod {n m k l : Int} {x y : Datum} (hx : own_Dy n k x) (hy : own_Dy m l y) : own_Dy (n * m) (k + l) (exactProduct x y) := by
  unfold own_Dy; rw [show -(k + l) = -k + -l by omega, ← own_sh_prod]; exact whole_product hx hy
theorem own_dy_fin {n k : Int} {x : Datum} (h : own_Dy n k x) : ∃ s c q, x = .fin s c q := by
  cases x with
  | nan => exact h.elim
  | inf => exact h.elim
  | fin s c q => exact ⟨s, c, q, rfl⟩
theorem own_dy_abs {n k q : Int} {s : Bool} {c : Nat} (h : own_Dy n k (.fin s c q)) : c * 2 ^ (q - k).toNat = n.natAbs * 2 ^ (k - q).toNat := by
  have := whole_natAbs (q := q + -k) h
  rw [show q + -k = q - k by omega, show -(q - k) = k - q by omega] at this
  exact this
theorem own_dy_sign {n k q : Int} {s : Bool} {c : Nat} (h : own_Dy n k (.fin s c q)) (hn : n ≠ 0) : s = decide (n < 0) := whole_sign (q := q + -k) h hn
theorem own_dy_mk {n k q : Int} {s : Bool} {c : Nat} (h : c * 2 ^ (q - k).toNat = n.natAbs * 2 ^ (k - q).toNat) (hs : n ≠ 0 → s = decide (n < 0)) : own_Dy n k (.fin s c q) := by
  show signed s (c * 2 ^ (q + -k).toNat) = n * ((2 ^ (-(q + -k)).toNat : Nat) : Int)
  rw [show q + -k = q - k by omega, show -(q - k) = k - q by omega, h]
  by_cases h0 : n = 0
  · subst h0; simp [signed]
  · rw [hs h0, signed_mul]
    congr 1
    unfold signed
    by_cases h : n < 0 <;> simp [h] <;> omega
theorem own_fit {n : Nat} {k : Int} (s : Bool) (hn : n ≤ 2 ^ 53) (h1 : -1074 ≤ k) (h2 : k ≤ 971) (h3 : n = 2 ^ 53 → k ≤ 970) : ∃ c q, Core.fits b64 (.fin s c q) ∧ n * 2 ^ (k - q).toNat = c * 1 * 2 ^ (q - k).toNat := by
  have ht : b64.tails = 2 ^ 52 := by decide
  have hp : b64.p = 53 := rfl
  have hm : b64.qmin = -1074 := by decide
  have hM : b64.qmax = 971 := by decide
  by_cases h0 : n = 0
  · subst h0
    exact ⟨0, b64.qmin, zero_fits good_b64 s, by simp⟩
  by_cases hp2 : n = 2 ^ 53
  · have h3 := h3 hp2
    refine ⟨2 ^ 52, k + 1, ⟨by rw [hp]; decide, by omega, by omega, .inr (by omega)⟩, ?_⟩
    rw [hp2, show (k - (k + 1)).toNat = 0 by omega, show (k + 1 - k).toNat = 1 by omega]
  · have l1 : 2 ^ n.log2 ≤ n := Nat.log2_self_le h0
    have l2 : n < 2 ^ (n.log2 + 1) := Nat.lt_log2_self
    have l3 : n.log2 < 53 := (Nat.pow_lt_pow_iff_right (by decide : 1 < 2)).mp (Nat.lt_of_le_of_lt l1 (by omega))
    generalize n.log2 = L at l1 l2 l3
    have hq : ∃ q : Int, q = max (-1074) ((L : Int) + k - 52) := ⟨_, rfl⟩
    obtain ⟨q, hq⟩ := hq
    have q1 : q ≤ k := by omega
    refine ⟨n * 2 ^ (k - q).toNat, q, ⟨?_, by omega, by omega, ?_⟩, ?_⟩
    · rw [hp]
      calc n * 2 ^ (k - q).toNat < 2 ^ (L + 1) * 2 ^ (k - q).toNat := Nat.mul_lt_mul_of_pos_right l2 (Nat.two_pow_pos _)
        _ = 2 ^ (L + 1 + (k - q).toNat) := by rw [← Nat.pow_add]
        _ ≤ 2 ^ 53 := Nat.pow_le_pow_right (by decide) (by omega)
    · by_cases hm2 : q = -1074
      · left; rw [hm]; exact hm2
      · right
        rw [ht]
        calc 2 ^ 52 = 2 ^ L * 2 ^ (k - q).toNat := by rw [← Nat.pow_add]; congr 1; omega
          _ ≤ n * 2 ^ (k - q).toNat := Nat.mul_le_mul_right _ l1
    · rw [show (q - k).toNat = 0 by omega]; simp
theorem own_dy_roundRatio {n k e : Int} {A B : Nat} {s : Bool} (hB : 0 < B) (hn : n.natAbs ≤ 2 ^ 53) (h1 : -1074 ≤ k) (h2 : k ≤ 970) (hA : A * 2 ^ (e - k).toNat = n.natAbs * B * 2 ^ (k - e).toNat) (hs : n ≠ 0 → s = decide (n < 0)) : own_Dy n k (roundRatio b64 s A B e) := by
  obtain ⟨c, q, hf, hv⟩ := own_fit (n := n.natAbs) s hn h1 (by omega) (fun _ => h2)
  have : roundRatio b64 s A B e = .fin s c q := by
    rw [roundRatio_congr (A' := n.natAbs) (B' := 1) (e' := k) hB (by decide) (by rw [Nat.mul_one]; exact hA)]
    exact roundRatio_exact good_b64 (by decide) hf hv
  rw [this]
  refine own_dy_mk ?_ hs
  rw [Nat.mul_one] at hv
  exact hv.symm
theorem own_dy_round {n k : Int} {d : Datum} (hn : n.natAbs ≤ 2 ^ 53) (h1 : -1074 ≤ k) (h2 : k ≤ 970) (h : own_Dy n k d) : own_Dy n k (round b64 d) := by
  obtain ⟨s, c, q, rfl⟩ := own_dy_fin h
  refine own_dy_roundRatio (by decide) hn h1 h2 ?_ (own_dy_sign h)
  rw [Nat.mul_one]; exact own_dy_abs h
theorem own_dy_units {n k q e : Int} {s : Bool} {c : Nat} (h : own_Dy n k (.fin s c q)) (h1 : e ≤ k) (h2 : e ≤ q) : signed s (inUnits c q e) = n * ((2 ^ (k - e).toNat : Nat) : Int) := by
  have ha := own_dy_abs h
  have e1 : inUnits c q e = n.natAbs * 2 ^ (k - e).toNat := by
    unfold inUnits
    refine Nat.eq_of_mul_eq_mul_right (Nat.two_pow_pos (k - q).toNat) ?_
    calc c * 2 ^ (q - e).toNat * 2 ^ (k - q).toNat = (c * 2 ^ (q - k).toNat) * 2 ^ (k - e).toNat := by
          rw [Nat.mul_assoc, ← Nat.pow_add, Nat.mul_assoc, ← Nat.pow_add]; congr 2; omega
      _ = n.natAbs * 2 ^ (k - e).toNat * 2 ^ (k - q).toNat := by rw [ha]; ac_rfl
  rw [e1, signed_mul]
  congr 1
  by_cases h0 : n = 0
  · subst h0; simp [signed]
  · rw [own_dy_sign h h0]
    unfold signed
    by_cases hl : n < 0 <;> simp [hl] <;> omega
/-! ### on doubles -/
def own_D (n k : Int) (a : UInt64) : Prop := own_Dy n k (val64 a)
theorem own_d_int {n : Int} {a : UInt64} : own_D n 0 a ↔ DInt n a := own_dy0
theorem own_d_mul {n m k l : Int} {a b : UInt64} (ha : own_D n k a) (hb : own_D m l b) (hn : (n * m).natAbs ≤ 2 ^ 53) (h1 : -1074 ≤ k + l) (h2 : k + l ≤ 970) : own_D (n * m) (k + l) (FP.dmul a b) := by
  unfold own_D; rw [show FP.dmul a b = Core.dmul a b from rfl, val64_dmul]; exact own_dy_round hn h1 h2 (own_dy_prod ha hb)
theorem own_d_i2d (x : Int32) : own_D x.toInt 0 (FP.i2d x) := own_d_int.mpr (i2d_int x)
theorem own_d_l2d {x : Int64} (h : x.toInt.natAbs ≤ 2 ^ 53) : own_D x.toInt 0 (FP.l2d x) := own_d_int.mpr (l2d_int h)
theorem own_d_zv {n k : Int} {a : UInt64} (h : own_D n k a) (h1 : -1074 ≤ k) : zval b64 (val64 a) = n * ((2 ^ (k + 1074).toNat : Nat) : Int) := by
  obtain ⟨s, c, q, e⟩ := own_dy_fin h
  have hf := val64_fits a
  unfold own_D at h
  rw [e] at h hf ⊢
  have hm : b64.qmin = -1074 := by decide
  have := own_dy_units h (e := b64.qmin) (by omega) (by have := hf.2.1; omega)
  show signed s (inUnits c q b64.qmin) = _
  rw [this, hm]
  congr 4
theorem own_d_of {n k q : Int} {s : Bool} {c : Nat} {a : UInt64} (h : val64 a = .fin s c q) (h' : c * 2 ^ (q - k).toNat = n.natAbs * 2 ^ (k - q).toNat) (hs : n = 0 ∨ s = decide (n < 0)) : own_D n k a := by
  unfold own_D; rw [h]; exact own_dy_mk h' fun h0 => hs.resolve_left h0
end OwnDy
section OwnZ
open Jvm.FP Jvm.FP.Core
def own_z (a : UInt64) : Int := zval b64 (val64 a)
def own_F (a : UInt64) : Prop := ∃ c q, val64 a = .fin false c q
def own_P : Nat := 2 ^ 1074
theorem own_P_pos : 0 < own_P := Nat.two_pow_pos _
theorem own_qmin : b64.qmin = -1074 := by decide
theorem own_qge {a : UInt64} {s : Bool} {c : Nat} {q : Int} (e : val64 a = .fin s c q) : -1074 ≤ q := by
  have h := val64_fits a
  rw [e] at h
  have := h.2.1
  rw [own_qmin] at this
  exact this
theorem own_z_cmp {a b : UInt64} (ha : val64 a ≠ .nan) (hb : val64 b ≠ .nan) : FP.dcmp a b = some (compare (own_z a) (own_z b)) := order_zval good_b64 (val64_fits a) (val64_fits b) ha hb
theorem own_z_int {n : Int} {a : UInt64} (h : own_D n 0 a) : own_z a = n * (own_P : Int) := by
  have q := own_d_zv h (by decide)
  rw [show ((0 : Int) + 1074).toNat = 1074 from rfl] at q
  exact q
theorem own_z_F {a : UInt64} {c : Nat} {q : Int} (e : val64 a = .fin false c q) : own_z a = ((zmag b64 (.fin false c q) : Nat) : Int) := by
  unfold own_z; rw [e]; rfl
theorem own_z_nonneg {a : UInt64} (h : own_F a) : 0 ≤ own_z a := by obtain ⟨c, q, e⟩ := h; rw [own_z_F e]; omega
theorem own_fin_of {r V : UInt64} (hn : val64 r ≠ .nan) (hs : sgn (val64 r) = false) (hV : own_F V) (h : own_z r ≤ own_z V) : own_F r := by
  obtain ⟨c, q, e⟩ := hV
  unfold own_F
  cases er : val64 r with
  | nan => exact absurd er hn
  | inf s =>
    rw [er] at hs
    have hs' : s = false := hs
    subst hs'
    have ht := zmag_lt_top good_b64 (e ▸ val64_fits V)
    unfold own_z at h
    rw [er, e] at h
    have h1 : zval b64 (.inf false) = ((b64.tails * 2 ^ (b64.exps - 2) : Nat) : Int) := rfl
    have h2 : zval b64 (.fin false c q) = ((inUnits c q b64.qmin : Nat) : Int) := rfl
    rw [h1, h2] at h
    omega
  | fin s c' q' =>
    rw [er] at hs
    have hs' : s = false := hs
    subst hs'
    exact ⟨c', q', rfl⟩
theorem own_z_rr {r : UInt64} {A B : Nat} {e : Int} (h : val64 r = roundRatio b64 false A B e) : own_z r = ((zmag b64 (roundRatio b64 false A B e) : Nat) : Int) := by
  unfold own_z zval; rw [h, sgn_roundRatio]; rfl
theorem own_div_rr {x y : UInt64} {c d : Nat} {q r : Int} (ex : val64 x = .fin false c q) (ey : val64 y = .fin false d r) (h0 : 0 < own_z y) : 0 < d ∧ val64 (FP.ddiv x y) = roundRatio b64 false c d (q - r) := by
  have hd : d ≠ 0 := by
    rintro rfl
    rw [own_z_F ey] at h0
    have : zmag b64 (.fin false 0 r) = 0 := by show 0 * _ = 0; rw [Nat.zero_mul]
    omega
  refine ⟨Nat.pos_of_ne_zero hd, ?_⟩
  rw [show FP.ddiv x y = Core.ddiv x y from rfl, val64_ddiv, ex, ey]
  show (if d = 0 then _ else _) = _
  rw [if_neg hd]; rfl
theorem own_pow_le {A M : Nat} {u v w x : Nat} (h : A * 2 ^ u ≤ M * 2 ^ v) (e : u + w = v + x) : A * 2 ^ x ≤ M * 2 ^ w := by
  refine Nat.le_of_mul_le_mul_right ?_ (Nat.two_pow_pos v)
  calc A * 2 ^ x * 2 ^ v = A * 2 ^ u * 2 ^ w := by rw [Nat.mul_assoc, ← Nat.pow_add, Nat.mul_assoc, ← Nat.pow_add]; congr 2; omega
    _ ≤ M * 2 ^ v * 2 ^ w := Nat.mul_le_mul_right _ h
    _ = M * 2 ^ w * 2 ^ v := by ac_rfl
theorem own_div_units {c d M : Nat} {q r : Int} (hq : -1074 ≤ q) (hr : -1074 ≤ r) : (c * 2 ^ (q - b64.qmin).toNat * own_P ≤ M * (d * 2 ^ (r - b64.qmin).toNat) → inUnits c (q - r) (min (-1074) (q - r)) ≤ M * 2 ^ (b64.qmin - min (-1074) (q - r)).toNat * d) ∧ (M * (d * 2 ^ (r - b64.qmin).toNat) ≤ c * 2 ^ (q - b64.qmin).toNat * own_P → M * 2 ^ (b64.qmin - min (-1074) (q - r)).toNat * d ≤ inUnits c (q - r) (min (-1074) (q - r))) := by
  rw [own_qmin]
  unfold own_P inUnits
  have e1 : c * 2 ^ (q - -1074).toNat * 2 ^ 1074 = c * 2 ^ ((q - -1074).toNat + 1074) := by rw [Nat.mul_assoc, ← Nat.pow_add]
  have e2 : M * (d * 2 ^ (r - -1074).toNat) = M * d * 2 ^ (r - -1074).toNat := by rw [Nat.mul_assoc]
  have e3 : M * 2 ^ (-1074 - min (-1074) (q - r)).toNat * d = M * d * 2 ^ (-1074 - min (-1074) (q - r)).toNat := by ac_rfl
  rw [e1, e2, e3]
  exact ⟨fun h => own_pow_le h (by omega), fun h => own_pow_le h (by omega)⟩
theorem own_div_hi {x y V : UInt64} (hx : own_F x) (hy : own_F y) (hV : own_F V) (h0 : 0 < own_z y) (h : own_z x * (own_P : Int) ≤ own_z V * own_z y) : own_F (FP.ddiv x y) ∧ own_z (FP.ddiv x y) ≤ own_z V := by
  obtain ⟨c, q, ex⟩ := hx
  obtain ⟨d, r, ey⟩ := hy
  obtain ⟨v, t, eV⟩ := id hV
  obtain ⟨hd, e⟩ := own_div_rr ex ey h0
  have f1 := own_qge ex
  have f2 := own_qge ey
  have hz : own_z (FP.ddiv x y) ≤ own_z V := by
    rw [own_z_rr e, own_z_F eV]
    rw [own_z_F ex, own_z_F ey, own_z_F eV] at h
    refine Int.ofNat_le.mpr (zmag_roundRatio_le good_b64 hd (eV ▸ val64_fits V) Datum.noConfusion (e0 := min (-1074) (q - r)) (by rw [own_qmin]; omega) (by omega) ?_)
    exact (own_div_units f1 f2).1 (Int.ofNat_le.mp (by rw [Int.natCast_mul, Int.natCast_mul]; exact h))
  exact ⟨own_fin_of (by rw [e]; exact roundRatio_ne_nan _ _ _ _ _) (by rw [e]; exact sgn_roundRatio _ _ _ _ _) hV hz, hz⟩
theorem own_div_lo {x y V : UInt64} (hx : own_F x) (hy : own_F y) (hV : own_F V) (h0 : 0 < own_z y) (h : own_z V * own_z y ≤ own_z x * (own_P : Int)) : own_z V ≤ own_z (FP.ddiv x y) := by
  obtain ⟨c, q, ex⟩ := hx
  obtain ⟨d, r, ey⟩ := hy
  obtain ⟨v, t, eV⟩ := hV
  obtain ⟨hd, e⟩ := own_div_rr ex ey h0
  have f1 := own_qge ex
  have f2 := own_qge ey
  rw [own_z_rr e, own_z_F eV]
  rw [own_z_F ex, own_z_F ey, own_z_F eV] at h
  refine Int.ofNat_le.mpr (zmag_roundRatio_ge good_b64 hd (eV ▸ val64_fits V) (e0 := min (-1074) (q - r)) (by rw [own_qmin]; omega) (by omega) ?_)
  exact (own_div_units f1 f2).2 (Int.ofNat_le.mp (by rw [Int.natCast_mul, Int.natCast_mul]; exact h))
theorem own_pick_max {a b : UInt64} (ha : val64 a ≠ .nan) (hb : val64 b ≠ .nan) : (Native.java_lang_Math.nans.pick64 true a b = a ∧ own_z b ≤ own_z a) ∨ (Native.java_lang_Math.nans.pick64 true a b = b ∧ own_z a ≤ own_z b) := by
  unfold Native.java_lang_Math.nans.pick64
  rw [own_z_cmp ha hb]
  rcases Int.lt_trichotomy (own_z a) (own_z b) with h | h | h
  · rw [Int.compare_eq_lt.mpr h]; exact Or.inr ⟨rfl, by omega⟩
  · rw [Int.compare_eq_eq.mpr h]; dsimp only; split
    · exact Or.inr ⟨rfl, by omega⟩
    · exact Or.inl ⟨rfl, by omega⟩
  · rw [Int.compare_eq_gt.mpr h]; exact Or.inl ⟨rfl, by omega⟩
end OwnZ
section OwnSg
open Jvm.FP Jvm.FP.Core
def own_fs (a : UInt64) : Prop := ∃ s c q, val64 a = .fin s c q
theorem own_fs_ne {a : UInt64} (h : own_fs a) : val64 a ≠ .nan := by obtain ⟨s, c, q, e⟩ := h; rw [e]; exact Datum.noConfusion
theorem own_fs_no {a : UInt64} (h : own_fs a) : Jvm.Free.Fl.NoNaN64 a := Jvm.Free.Fl.val64_no.mpr (own_fs_ne h)
theorem own_fs_D {n k : Int} {a : UInt64} (h : own_D n k a) : own_fs a := own_dy_fin h
theorem own_PP : (0 : Int) < (own_P : Int) := Int.natCast_pos.mpr own_P_pos
theorem own_fs_of {r V : UInt64} (hn : val64 r ≠ .nan) (hV : own_fs V) (h1 : own_z r ≤ own_z V) (h2 : -own_z V ≤ own_z r) : own_fs r := by
  obtain ⟨s, c, q, e⟩ := hV
  have ht := zmag_lt_top good_b64 (e ▸ val64_fits V)
  unfold own_z at h1 h2
  rw [e] at h1 h2
  have k1 : zval b64 (.fin s c q) = signed s (inUnits c q b64.qmin) := rfl
  rw [k1] at h1 h2
  cases er : val64 r with
  | nan => exact absurd er hn
  | fin s' c' q' => exact ⟨s', c', q', er⟩
  | inf s' =>
    exfalso
    rw [er] at h1 h2
    have k3 : zval b64 (.inf s') = signed s' (b64.tails * 2 ^ (b64.exps - 2)) := rfl
    rw [k3] at h1 h2
    generalize b64.tails * 2 ^ (b64.exps - 2) = top at *
    generalize inUnits c q b64.qmin = u at *
    cases s <;> cases s' <;> simp [signed] at h1 h2 <;> omega
theorem own_addS {x y V : UInt64} (hx : own_fs x) (hy : own_fs y) (hV : own_fs V) : (own_z x + own_z y ≤ own_z V → own_z (FP.dadd x y) ≤ own_z V) ∧ (own_z V ≤ own_z x + own_z y → own_z V ≤ own_z (FP.dadd x y)) ∧ val64 (FP.dadd x y) ≠ .nan := by
  obtain ⟨s, c, q, ex⟩ := hx
  obtain ⟨t, d, r, ey⟩ := hy
  obtain ⟨u, v, w, eV⟩ := hV
  obtain ⟨sg, n, e, p1, p2, p3⟩ := sum_units (ex ▸ val64_fits x) (ey ▸ val64_fits y)
  have hv : val64 (FP.dadd x y) = round b64 (.fin sg n e) := by rw [show FP.dadd x y = Core.dadd x y from rfl, val64_dadd, ex, ey]; exact congrArg (round b64) p1
  have hxy : own_z x + own_z y = signed sg (inUnits n e b64.qmin) := by unfold own_z; rw [ex, ey, p3]
  have hone : ((2 ^ (b64.qmin - b64.qmin).toNat : Nat) : Int) = 1 := by rw [Int.sub_self]; rfl
  refine ⟨fun h => ?_, fun h => ?_, by rw [hv]; exact roundRatio_ne_nan _ _ _ _ _⟩
  · unfold own_z; rw [hv]
    refine zval_round_le good_b64 (val64_fits V) (by rw [eV]; exact Datum.noConfusion) (e0 := b64.qmin) (Int.le_refl _) p2 ?_
    rw [hone, Int.mul_one, ← hxy]; exact h
  · unfold own_z; rw [hv]
    refine zval_round_ge good_b64 (val64_fits V) (by rw [eV]; exact Datum.noConfusion) (e0 := b64.qmin) (Int.le_refl _) p2 ?_
    rw [hone, Int.mul_one, ← hxy]; exact h
theorem own_negS (x : UInt64) (hx : own_fs x) : own_fs (FP.dneg x) ∧ own_z (FP.dneg x) = -own_z x := by
  obtain ⟨s, c, q, ex⟩ := hx
  have e : val64 (FP.dneg x) = negate (val64 x) := val64_dneg x
  refine ⟨⟨!s, c, q, by rw [e, ex]; rfl⟩, ?_⟩
  unfold own_z
  rw [e]; exact zval_negate b64 _
theorem own_negC (x : UInt64) (hx : own_fs x) : own_fs (Core.dneg x) ∧ own_z (Core.dneg x) = -own_z x := by
  obtain ⟨s, c, q, ex⟩ := hx
  have e : val64 (Core.dneg x) = negate (val64 x) := Core.val64_dneg x
  refine ⟨⟨!s, c, q, by rw [e, ex]; rfl⟩, ?_⟩
  unfold own_z
  rw [e]; exact zval_negate b64 _
theorem own_subS {x y V : UInt64} (hx : own_fs x) (hy : own_fs y) (hV : own_fs V) : (own_z x - own_z y ≤ own_z V → own_z (FP.dsub x y) ≤ own_z V) ∧ (own_z V ≤ own_z x - own_z y → own_z V ≤ own_z (FP.dsub x y)) ∧ val64 (FP.dsub x y) ≠ .nan := by
  have e : FP.dsub x y = FP.dadd x (Core.dneg y) := dsub_eq x y
  obtain ⟨h1, h2⟩ := own_negC y hy
  rw [e, Int.sub_eq_add_neg, ← h2]
  exact own_addS hx h1 hV
theorem own_mulS {x y V : UInt64} (hx : own_fs x) (hy : own_fs y) (hV : own_fs V) : (own_z x * own_z y ≤ own_z V * (own_P : Int) → own_z (FP.dmul x y) ≤ own_z V) ∧ (own_z V * (own_P : Int) ≤ own_z x * own_z y → own_z V ≤ own_z (FP.dmul x y)) ∧ val64 (FP.dmul x y) ≠ .nan := by
  obtain ⟨s, c, q, ex⟩ := hx
  obtain ⟨t, d, r, ey⟩ := hy
  obtain ⟨u, v, w, eV⟩ := hV
  obtain ⟨p1, p2, p3⟩ := product_units (ex ▸ val64_fits x) (ey ▸ val64_fits y)
  have hv : val64 (FP.dmul x y) = round b64 (.fin (s != t) (c * d) (q + r)) := by rw [show FP.dmul x y = Core.dmul x y from rfl, val64_dmul, ex, ey]; exact congrArg (round b64) p1
  have hxy : signed (s != t) (inUnits (c * d) (q + r) (2 * b64.qmin)) = own_z x * own_z y := by
    rw [p3]; unfold own_z; rw [ex, ey]
    show _ = signed s (zmag b64 (.fin s c q)) * signed t (zmag b64 (.fin t d r))
    generalize zmag b64 (.fin s c q) = m
    generalize zmag b64 (.fin t d r) = n
    cases s <;> cases t <;> simp [signed, Int.neg_mul, Int.mul_neg]
  have hone : ((2 ^ (b64.qmin - 2 * b64.qmin).toNat : Nat) : Int) = (own_P : Int) := by rw [own_qmin]; rfl
  refine ⟨fun h => ?_, fun h => ?_, by rw [hv]; exact roundRatio_ne_nan _ _ _ _ _⟩
  · unfold own_z; rw [hv]
    refine zval_round_le good_b64 (val64_fits V) (by rw [eV]; exact Datum.noConfusion) (e0 := 2 * b64.qmin) (by rw [own_qmin]; decide) p2 ?_
    rw [hone, hxy]; exact h
  · unfold own_z; rw [hv]
    refine zval_round_ge good_b64 (val64_fits V) (by rw [eV]; exact Datum.noConfusion) (e0 := 2 * b64.qmin) (by rw [own_qmin]; decide) p2 ?_
    rw [hone, hxy]; exact h
theorem own_intV (n : Int) (h : n.natAbs ≤ 2 ^ 53) : ∃ V, own_D n 0 V ∧ own_fs V ∧ own_z V = n * (own_P : Int) := by
  have e : (Int64.ofInt n).toInt = n := by
    rw [Int64.toInt_ofInt, show Int64.size = 18446744073709551616 from rfl]
    exact Int.bmod_eq_of_le (by omega) (by omega)
  have d := own_d_l2d (x := Int64.ofInt n) (by rw [e]; exact h)
  rw [e] at d
  exact ⟨_, d, own_fs_D d, own_z_int d⟩
def own_ok (n : Nat) (x : UInt64) : Prop := own_fs x ∧ own_z x ≤ (n : Int) * (own_P : Int) ∧ -((n : Int) * (own_P : Int)) ≤ own_z x
theorem own_ok_no {n : Nat} {x : UInt64} (h : own_ok n x) : Jvm.Free.Fl.NoNaN64 x := own_fs_no h.1
theorem own_ok_mono {n m : Nat} {x : UInt64} (h : own_ok n x) (q : n ≤ m) : own_ok m x := by
  have := Int.mul_le_mul_of_nonneg_right (Int.ofNat_le.mpr q) (Int.le_of_lt own_PP)
  exact ⟨h.1, Int.le_trans h.2.1 this, Int.le_trans (Int.neg_le_neg this) h.2.2⟩
theorem own_ok_mk {n : Nat} {x : UInt64} (hn : n ≤ 2 ^ 53) (hx : val64 x ≠ .nan) (h1 : ∀ V, own_fs V → own_z V = (n : Int) * (own_P : Int) → own_z x ≤ own_z V) (h2 : ∀ V, own_fs V → own_z V = -((n : Int) * (own_P : Int)) → own_z V ≤ own_z x) : own_ok n x := by
  obtain ⟨V, -, v1, v2⟩ := own_intV (n : Int) (by omega)
  obtain ⟨W, -, w1, w2⟩ := own_intV (-(n : Int)) (by omega)
  rw [Int.neg_mul] at w2
  have a := h1 V v1 v2
  have b := h2 W w1 w2
  refine ⟨own_fs_of hx v1 a (by rw [v2, ← w2]; exact b), by rw [← v2]; exact a, by rw [← w2]; exact b⟩
theorem own_ok_add {n m : Nat} {x y : UInt64} (hx : own_ok n x) (hy : own_ok m y) (h : n + m ≤ 2 ^ 53) : own_ok (n + m) (FP.dadd x y) := by
  have e : ((n + m : Nat) : Int) * (own_P : Int) = (n : Int) * (own_P : Int) + (m : Int) * (own_P : Int) := by rw [Int.natCast_add, Int.add_mul]
  refine own_ok_mk (by omega) (own_addS hx.1 hy.1 hx.1).2.2 (fun V v1 v2 => (own_addS hx.1 hy.1 v1).1 ?_) (fun V v1 v2 => (own_addS hx.1 hy.1 v1).2.1 ?_)
  · rw [v2, e]; exact Int.add_le_add hx.2.1 hy.2.1
  · rw [v2, e, Int.neg_add]; exact Int.add_le_add hx.2.2 hy.2.2
theorem own_ok_neg {n : Nat} {x : UInt64} (hx : own_ok n x) : own_ok n (FP.dneg x) := by
  obtain ⟨a, b⟩ := own_negS x hx.1
  exact ⟨a, by rw [b]; have := hx.2.2; omega, by rw [b]; have := hx.2.1; omega⟩
theorem own_ok_negC {n : Nat} {x : UInt64} (hx : own_ok n x) : own_ok n (Core.dneg x) := by
  obtain ⟨a, b⟩ := own_negC x hx.1
  exact ⟨a, by rw [b]; have := hx.2.2; omega, by rw [b]; have := hx.2.1; omega⟩
theorem own_ok_sub {n m : Nat} {x y : UInt64} (hx : own_ok n x) (hy : own_ok m y) (h : n + m ≤ 2 ^ 53) : own_ok (n + m) (FP.dsub x y) := by
  have e : FP.dsub x y = FP.dadd x (Core.dneg y) := dsub_eq x y
  rw [e]; exact own_ok_add hx (own_ok_negC hy) h
theorem own_ok_mul {n m : Nat} {x y : UInt64} (hx : own_ok n x) (hy : own_ok m y) (h : n * m ≤ 2 ^ 53) : own_ok (n * m) (FP.dmul x y) := by
  have P0 := Int.le_of_lt own_PP
  have n0 : (0 : Int) ≤ (n : Int) * (own_P : Int) := Int.mul_nonneg (Int.natCast_nonneg n) P0
  have ab : own_z x * own_z y ≤ (n : Int) * (own_P : Int) * ((m : Int) * (own_P : Int)) ∧ -((n : Int) * (own_P : Int) * ((m : Int) * (own_P : Int))) ≤ own_z x * own_z y := by
    have a : (own_z x).natAbs ≤ ((n : Int) * (own_P : Int)).natAbs := by have := hx.2.1; have := hx.2.2; omega
    have b : (own_z y).natAbs ≤ ((m : Int) * (own_P : Int)).natAbs := by
      have m0 : (0 : Int) ≤ (m : Int) * (own_P : Int) := Int.mul_nonneg (Int.natCast_nonneg m) P0
      have := hy.2.1; have := hy.2.2; omega
    have c := Nat.mul_le_mul a b
    rw [← Int.natAbs_mul, ← Int.natAbs_mul] at c
    have m0 : (0 : Int) ≤ (n : Int) * (own_P : Int) * ((m : Int) * (own_P : Int)) := Int.mul_nonneg n0 (Int.mul_nonneg (Int.natCast_nonneg m) P0)
    generalize own_z x * own_z y = u at *
    generalize (n : Int) * (own_P : Int) * ((m : Int) * (own_P : Int)) = v at *
    omega
  have e : ((n * m : Nat) : Int) * (own_P : Int) * (own_P : Int) = (n : Int) * (own_P : Int) * ((m : Int) * (own_P : Int)) := by rw [Int.natCast_mul]; generalize (own_P : Int) = Pz; ac_rfl
  refine own_ok_mk (by omega) (own_mulS hx.1 hy.1 hx.1).2.2 (fun V v1 v2 => (own_mulS hx.1 hy.1 v1).1 ?_) (fun V v1 v2 => (own_mulS hx.1 hy.1 v1).2.1 ?_)
  · rw [v2, e]; exact ab.1
  · rw [v2, Int.neg_mul, e]; exact ab.2
def own_zv (n : Int) (x : UInt64) : Prop := own_fs x ∧ own_z x = n * (own_P : Int)
theorem own_zv_D {n : Int} {x : UInt64} (h : own_D n 0 x) : own_zv n x := ⟨own_fs_D h, own_z_int h⟩
theorem own_zv_ok {n : Int} {x : UInt64} (h : own_zv n x) : own_ok n.natAbs x := by
  obtain ⟨a, b⟩ := h
  have P0 := own_PP
  refine ⟨a, ?_, ?_⟩
  · rw [b]; exact Int.mul_le_mul_of_nonneg_right (by omega) (Int.le_of_lt P0)
  · rw [b, ← Int.neg_mul]; exact Int.mul_le_mul_of_nonneg_right (by omega) (Int.le_of_lt P0)
theorem own_zv_mk {n : Int} {x : UInt64} (hn : n.natAbs ≤ 2 ^ 53) (hx : val64 x ≠ .nan) (h : ∀ V, own_fs V → own_z V = n * (own_P : Int) → own_z x ≤ own_z V ∧ own_z V ≤ own_z x) : own_zv n x := by
  obtain ⟨V, -, v1, v2⟩ := own_intV n hn
  obtain ⟨a, b⟩ := h V v1 v2
  have e : own_z x = own_z V := Int.le_antisymm a b
  refine ⟨?_, by rw [e, v2]⟩
  by_cases hp : 0 ≤ own_z V
  · exact own_fs_of hx v1 a (by omega)
  · obtain ⟨c, d⟩ := own_negS V v1
    exact own_fs_of hx c (by omega) (by omega)
theorem own_zv_add {n m : Int} {x y : UInt64} (hx : own_zv n x) (hy : own_zv m y) (h : (n + m).natAbs ≤ 2 ^ 53) : own_zv (n + m) (FP.dadd x y) := by
  refine own_zv_mk h (own_addS hx.1 hy.1 hx.1).2.2 (fun V v1 v2 => ?_)
  have q := own_addS hx.1 hy.1 v1
  have e : own_z x + own_z y = own_z V := by rw [v2, hx.2, hy.2, Int.add_mul]
  exact ⟨q.1 (Int.le_of_eq e), q.2.1 (Int.le_of_eq e.symm)⟩
theorem own_zv_neg {n : Int} {x : UInt64} (hx : own_zv n x) : own_zv (-n) (FP.dneg x) := by
  obtain ⟨a, b⟩ := own_negS x hx.1
  exact ⟨a, by rw [b, hx.2, Int.neg_mul]⟩
theorem own_zv_mul0 {n : Nat} {x y : UInt64} (hx : own_ok n x) (hy : own_zv 0 y) : own_zv 0 (FP.dmul x y) := by
  refine own_zv_mk (by decide) (own_mulS hx.1 hy.1 hx.1).2.2 (fun V v1 v2 => ?_)
  have q := own_mulS hx.1 hy.1 v1
  have e : own_z x * own_z y = own_z V * (own_P : Int) := by rw [v2, hy.2, Int.zero_mul, Int.zero_mul, Int.mul_zero]
  exact ⟨q.1 (Int.le_of_eq e), q.2.1 (Int.le_of_eq e.symm)⟩
theorem own_z_add0 {x y : UInt64} (hx : own_zv 0 x) (hy : own_fs y) : own_fs (FP.dadd x y) ∧ own_z (FP.dadd x y) = own_z y := by
  have q := own_addS hx.1 hy hy
  have e : own_z x + own_z y = own_z y := by rw [hx.2, Int.zero_mul, Int.zero_add]
  have e2 : own_z (FP.dadd x y) = own_z y := Int.le_antisymm (q.1 (Int.le_of_eq e)) (q.2.1 (Int.le_of_eq e.symm))
  refine ⟨?_, e2⟩
  by_cases hp : 0 ≤ own_z y
  · exact own_fs_of q.2.2 hy (Int.le_of_eq e2) (by omega)
  · obtain ⟨c, d⟩ := own_negS y hy
    exact own_fs_of q.2.2 c (by omega) (by omega)
theorem own_z_mul1 {x y : UInt64} (hx : own_zv 1 x) (hy : own_fs y) : own_fs (FP.dmul x y) ∧ own_z (FP.dmul x y) = own_z y := by
  have q := own_mulS hx.1 hy hy
  have e : own_z x * own_z y = own_z y * (own_P : Int) := by rw [hx.2, Int.one_mul, Int.mul_comm]
  have e2 : own_z (FP.dmul x y) = own_z y := Int.le_antisymm (q.1 (Int.le_of_eq e)) (q.2.1 (Int.le_of_eq e.symm))
  refine ⟨?_, e2⟩
  by_cases hp : 0 ≤ own_z y
  · exact own_fs_of q.2.2 hy (Int.le_of_eq e2) (by omega)
  · obtain ⟨c, d⟩ := own_negS y hy
    exact own_fs_of q.2.2 c (by omega) (by omega)
theorem own_zz : own_zv 0 (0 : UInt64) := ⟨⟨false, 0, -1074, by decide +kernel⟩, by decide +kernel⟩
theorem own_div1 {x : UInt64} (hx : own_fs x) : FP.ddiv x (4607182418800017408 : UInt64) = x := by
  have h := Core.ddiv_one (own_fs_ne hx)
  have e : (4607182418800017408 : UInt64) = Core.dconst1 := by decide +kernel
  rw [e]; exact h
theorem own_ok_div1 {n : Nat} {x : UInt64} (hx : own_ok n x) : own_ok n (FP.ddiv x (4607182418800017408 : UInt64)) := by rw [own_div1 hx.1]; exact hx
theorem own_abs {x : UInt64} (hx : own_fs x) : own_fs (x &&& (9223372036854775807 : UInt64)) ∧ (own_z (x &&& (9223372036854775807 : UInt64)) = own_z x ∨ own_z (x &&& (9223372036854775807 : UInt64)) = -own_z x) ∧ 0 ≤ own_z (x &&& (9223372036854775807 : UInt64)) := by
  have hc := own_z_cmp (own_fs_ne hx) (own_fs_ne own_zz.1)
  rw [own_zz.2, Int.zero_mul] at hc
  rcases Int.lt_trichotomy (own_z x) 0 with h | h | h
  · rw [Int.compare_eq_lt.mpr h] at hc
    have e := Core.abs_neg hc
    obtain ⟨a, b⟩ := own_negC x hx
    rw [show x &&& (9223372036854775807 : UInt64) = Core.dneg x from e]
    exact ⟨a, Or.inr b, by omega⟩
  · rw [Int.compare_eq_eq.mpr h] at hc
    have e := Core.abs_zero hc
    rw [show x &&& (9223372036854775807 : UInt64) = 0 from e]
    have z := own_zz.2
    rw [Int.zero_mul] at z
    exact ⟨own_zz.1, Or.inl (by rw [z, h]), by omega⟩
  · rw [Int.compare_eq_gt.mpr h] at hc
    have e := Core.abs_pos hc
    rw [show x &&& (9223372036854775807 : UInt64) = x from e]
    exact ⟨hx, Or.inl rfl, by omega⟩
theorem own_ok_abs {n : Nat} {x : UInt64} (hx : own_ok n x) : own_ok n (x &&& (9223372036854775807 : UInt64)) := by
  obtain ⟨a, b, c⟩ := own_abs hx.1
  have h1 := hx.2.1
  have h2 := hx.2.2
  show own_fs _ ∧ own_z _ ≤ (n : Int) * (own_P : Int) ∧ -((n : Int) * (own_P : Int)) ≤ own_z _
  generalize (n : Int) * (own_P : Int) = N at *
  refine ⟨a, ?_, ?_⟩ <;> omega
theorem own_ok_max {n m k : Nat} {x y : UInt64} (hx : own_ok n x) (hy : own_ok m y) (h1 : n ≤ k) (h2 : m ≤ k) : own_ok k (Native.java_lang_Math.nans.pick64 true x y) := by
  rcases own_pick_max (own_fs_ne hx.1) (own_fs_ne hy.1) with ⟨e, -⟩ | ⟨e, -⟩
  · rw [e]; exact own_ok_mono hx h1
  · rw [e]; exact own_ok_mono hy h2
theorem own_cv {a b : UInt64} (ha : own_fs a) (hb : own_fs b) (op : CmpOp) : (cmpValue (FP.dcmp a b) op < (0 : Int32) ↔ own_z a < own_z b) ∧ ((0 : Int32) < cmpValue (FP.dcmp a b) op ↔ own_z b < own_z a) ∧ (cmpValue (FP.dcmp a b) op = (0 : Int32) ↔ own_z a = own_z b) := by
  rw [own_z_cmp (own_fs_ne ha) (own_fs_ne hb)]
  generalize own_z a = x
  generalize own_z b = y
  rcases Int.lt_trichotomy x y with h | h | h
  · rw [Int.compare_eq_lt.mpr h]
    exact ⟨⟨fun _ => h, fun _ => by cases op <;> decide⟩, ⟨fun q => absurd q (by cases op <;> decide), fun q => by omega⟩, ⟨fun q => absurd q (by cases op <;> decide), fun q => by omega⟩⟩
  · rw [Int.compare_eq_eq.mpr h]
    exact ⟨⟨fun q => absurd q (by cases op <;> decide), fun q => by omega⟩, ⟨fun q => absurd q (by cases op <;> decide), fun q => by omega⟩, ⟨fun _ => h, fun _ => by cases op <;> decide⟩⟩
  · rw [Int.compare_eq_gt.mpr h]
    exact ⟨⟨fun q => absurd q (by cases op <;> decide), fun q => by omega⟩, ⟨fun _ => h, fun _ => by cases op <;> decide⟩, ⟨fun q => absurd q (by cases op <;> decide), fun q => by omega⟩⟩
end OwnSg
section OwnSg2
open Jvm.FP Jvm.FP.Core
def own_sz (x : UInt64) : Prop := x = 0 ∨ x = 9223372036854775808
theorem own_sz_zv {x : UInt64} (h : own_sz x) : own_zv 0 x := by
  rcases h with rfl | rfl
  · exact own_zz
  · exact ⟨⟨true, 0, -1074, by decide +kernel⟩, by decide +kernel⟩
theorem own_sz_ok {x : UInt64} (h : own_sz x) : own_ok 0 x := by
  have q := own_zv_ok (own_sz_zv h)
  rw [Int.natAbs_zero] at q
  exact q
theorem own_sz_of {x : UInt64} (h : own_zv 0 x) : own_sz x := by
  obtain ⟨⟨s, c, q, e⟩, hz⟩ := h
  have hf := val64_fits x
  rw [e] at hf
  have hc : c = 0 := by
    rw [Int.zero_mul] at hz
    unfold own_z at hz
    rw [e] at hz
    have h1 : signed s (c * 2 ^ (q - b64.qmin).toNat) = 0 := hz
    have h2 : c * 2 ^ (q - b64.qmin).toNat = 0 := by
      generalize c * 2 ^ (q - b64.qmin).toNat = n at h1
      cases s <;> simp [signed] at h1 <;> exact h1
    rcases Nat.mul_eq_zero.mp h2 with h3 | h3
    · exact h3
    · exact absurd h3 (Nat.ne_of_gt (Nat.two_pow_pos _))
  subst hc
  have hq : q = b64.qmin := by
    rcases hf.2.2.2 with h | h
    · exact h
    · exact absurd h (by decide)
  subst hq
  cases s
  · exact Or.inl (val64_inj (by rw [e]; exact Datum.noConfusion) (by rw [e]; decide +kernel))
  · exact Or.inr (val64_inj (by rw [e]; exact Datum.noConfusion) (by rw [e]; decide +kernel))
theorem own_sz_mul {n : Nat} {x y : UInt64} (hx : own_ok n x) (hy : own_sz y) : own_sz (FP.dmul x y) := own_sz_of (own_zv_mul0 hx (own_sz_zv hy))
theorem own_sz_mulL {n : Nat} {x y : UInt64} (hx : own_sz x) (hy : own_ok n y) : own_sz (FP.dmul x y) := by
  have h : ∀ V, own_fs V → own_z V = 0 → own_z (FP.dmul x y) ≤ own_z V ∧ own_z V ≤ own_z (FP.dmul x y) := fun V hV h0 => by
    obtain ⟨a, b, -⟩ := own_mulS (own_sz_zv hx).1 hy.1 hV
    have z := (own_sz_zv hx).2
    rw [Int.zero_mul] at z
    rw [z, Int.zero_mul, h0, Int.zero_mul] at a b
    exact ⟨by rw [h0]; exact a (Int.le_refl 0), by rw [h0]; exact b (Int.le_refl 0)⟩
  exact own_sz_of (own_zv_mk (by decide) (own_mulS (own_sz_zv hx).1 hy.1 own_zz.1).2.2 (fun V hV e => h V hV (by rw [e, Int.zero_mul])))
theorem own_sz_add {x y : UInt64} (hx : own_sz x) (hy : own_sz y) : own_sz (FP.dadd x y) := by rcases hx with rfl | rfl <;> rcases hy with rfl | rfl <;> unfold own_sz <;> decide +kernel
theorem own_sz_div1 {x : UInt64} (hx : own_sz x) : own_sz (FP.ddiv x 4607182418800017408) := by rcases hx with rfl | rfl <;> unfold own_sz <;> decide +kernel
theorem own_one : own_zv 1 (4607182418800017408 : UInt64) := ⟨⟨false, 4503599627370496, -52, by decide +kernel⟩, by decide +kernel⟩
theorem own_mone : own_zv (-1) (13830554455654793216 : UInt64) := ⟨⟨true, 4503599627370496, -52, by decide +kernel⟩, by decide +kernel⟩
theorem own_ok1 : own_ok 1 (4607182418800017408 : UInt64) := by
  have q := own_zv_ok own_one
  rw [show (1 : Int).natAbs = 1 from rfl] at q
  exact q
theorem own_okm1 : own_ok 1 (13830554455654793216 : UInt64) := by
  have q := own_zv_ok own_mone
  rw [show (-1 : Int).natAbs = 1 from rfl] at q
  exact q
theorem own_tv {tt : Int32} (h : tt = 0 ∨ tt = 1) : ∃ tv : UInt64, FP.i2d tt = tv ∧ ((tt = 0 ∧ tv = 0) ∨ (tt = 1 ∧ tv = 4607182418800017408)) := by
  rcases h with r | r <;> subst r
  · exact ⟨_, rfl, Or.inl ⟨rfl, by decide +kernel⟩⟩
  · exact ⟨_, rfl, Or.inr ⟨rfl, by decide +kernel⟩⟩
theorem own_fs_eq {r x : UInt64} (hn : val64 r ≠ .nan) (hx : own_fs x) (h : own_z r = own_z x) : own_fs r := by
  obtain ⟨a, b, c⟩ := own_abs hx
  exact own_fs_of hn a (by omega) (by omega)
theorem own_z_mulR {x : UInt64} (hx : own_fs x) : own_fs (FP.dmul x 4607182418800017408) ∧ own_z (FP.dmul x 4607182418800017408) = own_z x := by
  obtain ⟨p, q, r⟩ := own_mulS hx own_one.1 hx
  rw [own_one.2, Int.one_mul] at p q
  have e := Int.le_antisymm (p (Int.le_refl _)) (q (Int.le_refl _))
  exact ⟨own_fs_eq r hx e, e⟩
theorem own_z_subZ {x s : UInt64} (hx : own_fs x) (hs : own_sz s) : own_fs (FP.dsub x s) ∧ own_z (FP.dsub x s) = own_z x := by
  obtain ⟨p, q, r⟩ := own_subS hx (own_sz_zv hs).1 hx
  have z := (own_sz_zv hs).2
  rw [Int.zero_mul] at z
  rw [z, Int.sub_zero] at p q
  have e := Int.le_antisymm (p (Int.le_refl _)) (q (Int.le_refl _))
  exact ⟨own_fs_eq r hx e, e⟩
theorem own_z_addZ {x s : UInt64} (hx : own_fs x) (hs : own_sz s) : own_fs (FP.dadd x s) ∧ own_z (FP.dadd x s) = own_z x := by
  obtain ⟨p, q, r⟩ := own_addS hx (own_sz_zv hs).1 hx
  have z := (own_sz_zv hs).2
  rw [Int.zero_mul] at z
  rw [z, Int.add_zero] at p q
  have e := Int.le_antisymm (p (Int.le_refl _)) (q (Int.le_refl _))
  exact ⟨own_fs_eq r hx e, e⟩
def own_eq (y x : UInt64) : Prop := own_fs y ∧ own_z y = own_z x
theorem own_y2 {n : Nat} {co a s : UInt64} (hc : own_ok n co) (ha : own_sz a) (hs : own_sz s) : own_eq (FP.dadd (FP.dadd 0 (FP.dmul (FP.dsub co a) 4607182418800017408)) s) co := by
  obtain ⟨a1, a2⟩ := own_z_subZ hc.1 ha
  obtain ⟨b1, b2⟩ := own_z_mulR a1
  obtain ⟨c1, c2⟩ := own_z_add0 own_zz b1
  obtain ⟨d1, d2⟩ := own_z_addZ c1 hs
  exact ⟨d1, by rw [d2, c2, b2, a2]⟩
theorem own_P1 {n : Nat} {x : UInt64} (hx : own_ok n x) : own_fs (FP.dadd 0 (FP.dmul 4607182418800017408 x)) ∧ own_z (FP.dadd 0 (FP.dmul 4607182418800017408 x)) = own_z x := by
  obtain ⟨a, b⟩ := own_z_mul1 own_one hx.1
  obtain ⟨c, d⟩ := own_z_add0 own_zz a
  exact ⟨c, d.trans b⟩
theorem own_sz_P1 {n : Nat} {x : UInt64} (hx : own_ok n x) : own_sz (FP.dadd (FP.dadd 0 (FP.dmul 4607182418800017408 x)) (FP.dmul 13830554455654793216 x)) := by
  obtain ⟨a, b⟩ := own_P1 hx
  have m : own_fs (FP.dmul 13830554455654793216 x) ∧ own_z (FP.dmul 13830554455654793216 x) = -own_z x := by
    obtain ⟨n1, n2⟩ := own_negS x hx.1
    obtain ⟨p, q, r⟩ := own_mulS own_mone.1 hx.1 n1
    have z := own_mone.2
    rw [z, n2] at p q
    have e : (-1 : Int) * (own_P : Int) * own_z x = -own_z x * (own_P : Int) := by rw [Int.neg_mul, Int.neg_mul, Int.neg_mul, Int.one_mul, Int.mul_comm]
    rw [e] at p q
    have h1 := p (Int.le_refl _)
    have h2 := q (Int.le_refl _)
    have h3 : own_z (FP.dmul 13830554455654793216 x) = -own_z x := Int.le_antisymm h1 h2
    exact ⟨own_fs_eq r n1 (h3.trans n2.symm), h3⟩
  refine own_sz_of (own_zv_mk (by decide) (own_addS a m.1 own_zz.1).2.2 (fun V hV e => ?_))
  obtain ⟨p, q, -⟩ := own_addS a m.1 hV
  rw [b, m.2] at p q
  rw [Int.zero_mul] at e
  exact ⟨p (by omega), q (by omega)⟩
theorem own_le1 {x : UInt64} (hx : own_ok 1 x) : ¬ ((0 : Int32) < cmpValue (FP.dcmp (x &&& (9223372036854775807 : UInt64)) (4607182418800017408 : UInt64)) .l) := by
  have h := own_ok_abs hx
  rw [(own_cv h.1 own_one.1 .l).2.1, own_one.2]
  have := h.2.1
  exact Int.not_lt.mpr this
theorem own_addp {p z : UInt64} (hp : p = 0 ∨ p = 4607182418800017408) (hz : own_sz z) : FP.dadd p z = p := by
  rcases hp with rfl | rfl <;> rcases hz with rfl | rfl <;> decide +kernel
theorem own_Fof {V : UInt64} (hV : own_fs V) (h : 0 ≤ own_z V) : ∃ W, own_F W ∧ own_z W = own_z V := by
  obtain ⟨s, c, q, e⟩ := hV
  cases s
  · exact ⟨V, ⟨c, q, e⟩, rfl⟩
  · refine ⟨0, ⟨0, -1074, by decide +kernel⟩, ?_⟩
    have h1 : own_z V = -((zmag b64 (.fin true c q) : Nat) : Int) := by unfold own_z; rw [e]; rfl
    rw [h1] at h ⊢
    have h2 : own_z 0 = 0 := by have := own_zz.2; rw [Int.zero_mul] at this; exact this
    rw [h2]; omega
theorem own_divP {x y V : UInt64} (hx : own_F x) (hy : own_F y) (h0 : 0 < own_z y) (hV : own_fs V) : (own_z x * (own_P : Int) ≤ own_z V * own_z y → own_z (FP.ddiv x y) ≤ own_z V) ∧ (own_z V * own_z y ≤ own_z x * (own_P : Int) → own_z V ≤ own_z (FP.ddiv x y)) ∧ val64 (FP.ddiv x y) ≠ .nan := by
  have hx0 := own_z_nonneg hx
  refine ⟨fun h => ?_, fun h => ?_, ?_⟩
  · have hv : 0 ≤ own_z V := by
      apply Int.not_lt.mp; intro hn
      have h1 : own_z V * own_z y < 0 := Int.mul_neg_of_neg_of_pos hn h0
      have h2 : 0 ≤ own_z x * (own_P : Int) := Int.mul_nonneg hx0 (Int.le_of_lt own_PP)
      omega
    obtain ⟨W, w1, w2⟩ := own_Fof hV hv
    rw [← w2] at h ⊢
    exact (own_div_hi hx hy w1 h0 h).2
  · by_cases hv : 0 ≤ own_z V
    · obtain ⟨W, w1, w2⟩ := own_Fof hV hv
      rw [← w2] at h ⊢
      exact own_div_lo hx hy w1 h0 h
    · obtain ⟨c, q, ex⟩ := hx
      obtain ⟨d, r, ey⟩ := hy
      have e := own_z_rr (own_div_rr ex ey h0).2
      rw [e]; omega
  · obtain ⟨c, q, ex⟩ := hx
    obtain ⟨d, r, ey⟩ := hy
    rw [(own_div_rr ex ey h0).2]; exact roundRatio_ne_nan _ _ _ _ _
theorem own_divS {x y V : UInt64} (hx : own_fs x) (hy : own_F y) (h0 : 0 < own_z y) (hV : own_fs V) : (own_z x * (own_P : Int) ≤ own_z V * own_z y → own_z (FP.ddiv x y) ≤ own_z V) ∧ (own_z V * own_z y ≤ own_z x * (own_P : Int) → own_z V ≤ own_z (FP.ddiv x y)) ∧ val64 (FP.ddiv x y) ≠ .nan := by
  obtain ⟨s, c, q, ex⟩ := id hx
  cases s
  · exact own_divP ⟨c, q, ex⟩ hy h0 hV
  · obtain ⟨d, r, ey⟩ := id hy
    have en : val64 (FP.dneg x) = .fin false c q := by rw [show val64 (FP.dneg x) = negate (val64 x) from val64_dneg x, ex]; rfl
    obtain ⟨hd, e1⟩ := own_div_rr en ey h0
    have e2 : val64 (FP.ddiv x y) = roundRatio b64 true c d (q - r) := by
      rw [show FP.ddiv x y = Core.ddiv x y from rfl, val64_ddiv, ex, ey]
      show (if d = 0 then _ else _) = _
      rw [if_neg (Nat.ne_of_gt hd)]; rfl
    have e3 : val64 (FP.ddiv x y) = negate (val64 (FP.ddiv (FP.dneg x) y)) := by rw [e1, negate_roundRatio, e2]; rfl
    have e4 : own_z (FP.ddiv x y) = -own_z (FP.ddiv (FP.dneg x) y) := by
      unfold own_z; rw [e3]; exact zval_negate b64 _
    obtain ⟨n1, n2⟩ := own_negS V hV
    obtain ⟨a, b, w⟩ := own_divP ⟨c, q, en⟩ hy h0 n1
    rw [(own_negS x hx).2, n2, Int.neg_mul, Int.neg_mul] at a b
    refine ⟨fun h => ?_, fun h => ?_, by rw [e2]; exact roundRatio_ne_nan _ _ _ _ _⟩
    · rw [e4]; have := b (by omega); omega
    · rw [e4]; have := a (by omega); omega
theorem own_pw {a b : Nat} (h : a + b = 1074) : ((2 ^ a : Nat) : Int) * ((2 ^ b : Nat) : Int) = (own_P : Int) := by
  unfold own_P; rw [← Int.natCast_mul, ← Nat.pow_add, h]
theorem own_v45 (n : Int) (h : n.natAbs ≤ 2 ^ 53) : ∃ V, own_fs V ∧ own_z V * 35184372088832 = n * (own_P : Int) := by
  obtain ⟨V, d, -, -⟩ := own_intV n h
  have c : own_D 1 (-45) (4404520435568345088 : UInt64) := own_d_of (s := false) (c := 4503599627370496) (q := -97) (by decide +kernel) (by decide +kernel) (Or.inr rfl)
  have m := own_d_mul d c (by rw [Int.mul_one]; exact h) (by decide) (by decide)
  refine ⟨_, own_fs_D m, ?_⟩
  have z := own_d_zv m (by decide)
  rw [show ((0 : Int) + -45 + 1074).toNat = 1029 from rfl, Int.mul_one] at z
  have z' : own_z (FP.dmul V _) = _ := z
  rw [z', Int.mul_assoc, show (35184372088832 : Int) = ((2 ^ 45 : Nat) : Int) from rfl, own_pw rfl]
theorem own_v24 (n : Int) (h : n.natAbs ≤ 2 ^ 53) : ∃ V, own_fs V ∧ own_z V * 16777216 = n * (own_P : Int) := by
  obtain ⟨V, d, -, -⟩ := own_intV n h
  have c : own_D 1 (-24) (4499096027743125504 : UInt64) := own_d_of (s := false) (c := 4503599627370496) (q := -76) (by decide +kernel) (by decide +kernel) (Or.inr rfl)
  have m := own_d_mul d c (by rw [Int.mul_one]; exact h) (by decide) (by decide)
  refine ⟨_, own_fs_D m, ?_⟩
  have z := own_d_zv m (by decide)
  rw [show ((0 : Int) + -24 + 1074).toNat = 1050 from rfl, Int.mul_one] at z
  have z' : own_z (FP.dmul V _) = _ := z
  rw [z', Int.mul_assoc, show (16777216 : Int) = ((2 ^ 24 : Nat) : Int) from rfl, own_pw rfl]
end OwnSg2
section OwnCalls2
variable {p : Program} {l : Launch} {e : Env} {R : Room} {s : State} {m : MethodId} {args : Array Value} {below : List Frame} {meth : Method} {c : Code} {T : State} {locs : List Loc} {cells slots : Nat} {Z : State} {a0 : Array Value} {h : Heap} {EL : List (String × Nat)} {vm vm0 : Vm}
theorem own_priv (X : Stand p l e R s m args below meth c T locs cells slots) (hx : p.tables.exec = Jvm.exec) (hZ : Z.Warmed39 s.vm) {own C : String} {index : Nat} {y : MethodName} (hown : s.vm.findClass own = some m.cls)
    (w1 : (Jvm.Cond.methodLink own index y).before a0 Z = true) (w2 : (Jvm.Cond.privateMethod y).before a0 Z = true) (w3 : (Jvm.Cond.selects C y y).before a0 Z = true) (w4 : (Jvm.Cond.instanceMethod y).before a0 Z = true)
    (hy : y.cls ≠ "java/lang/invoke/MethodHandle" ∧ y.cls ≠ "java/lang/invoke/VarHandle") {bytes : ByteArray} {maxL : Nat} {ret : Option FieldType} {rm : Room} {as' : Array Value} {Q : Option Value → Heap → List Loc → Prop}
    (hM : MetFree l y (head1 [Jvm.Cond.code y bytes maxL ret] rm) (fun α U => α = as' ∧ Z.Warmed39 U.vm ∧ U.heap = h) (fun _ _ _ _ _ => True) (fun _ U o U' => ∃ v L, o = .returned v ∧ Q v U'.heap L ∧ FrameEnd U o U' L rm.cells rm.slots))
    (wc : (Jvm.Cond.code y bytes maxL ret).before a0 Z = true) (wz : (Jvm.Cond.initialized y.cls).before a0 Z = true) (W : Nat) (hf : rm.frames + 1 ≤ R.frames) (hl : W + (maxL + 11) + rm.locals ≤ R.locals)
    {b : Addr} (E : Exa Z h b C) (eT : T.heap = h) (g : JFrame) (hg : g.method = m) (hsize : g.locals.size = c.maxLocals) (argsL rest : List Value) (has : (.ref b :: argsL).toArray = as')
    (hlen : ∀ sig, parseMethodDescriptor y.desc = some sig → argsL.length = sig.parameters.length) (hstack : g.stack = argsL.reverse ++ .ref b :: rest) (hW : 2 * g.monitorRoom + (rest.map fun v => v.category).sum ≤ W)
    (hdg : decode c.code g.pc = .ok (.invokevirtual index, 3)) (hc : cells + rm.cells ≤ R.cells) (hs : slots + rm.slots ≤ R.slots) :
    ∃ (v : Option Value) (T' : State) (L : List Loc), Stand p l e R s m args below meth c T' (locs ++ L) (cells + rm.cells) (slots + rm.slots) ∧ Q v T'.heap L ∧
      ∀ τ, Steps p.tables e below (T'.setTop { g with pc := g.pc + 3, stack := v.toList ++ rest }) τ → Steps p.tables e below (T.setTop g) τ := by
  obtain ⟨mk, methM, hnamed, hmethM, hstM, habM⟩ := Cond.instanceMethod_spec (mv (args := args) hZ w4)
  obtain ⟨methM', cM, hmethM', -, -, -, -, -, -, hsigM⟩ := Cond.code_spec hnamed (mv (args := args) hZ wc)
  cases hmethM.symm.trans hmethM'
  obtain ⟨c2, r2, m2, -, -, q3, -, kP, hkP, hkPi⟩ := Cond.selects_spec (mv (args := args) hZ w3)
  cases hnamed.symm.trans q3
  obtain ⟨cell, k, e1, e2, e3, e4, -⟩ := E
  have hpriv : s.PrivateAt y := Cond.privateMethod_at (mv (args := args) hZ w2)
  have hselP : selectMethod e.platform s.vm cell.cls mk = .method mk := selectMethod_private hmethM (hpriv mk methM hnamed hmethM)
  obtain ⟨vm₁, X₁, hstep₁⟩ := X.invokevirtual hx hown (mv (args := args) hZ w1) hnamed hmethM hstM hkP hkPi hy (a := b) (cell := cell) (by rw [eT]; exact e1) (fun q r => by rw [r] at e4; cases e4) hselP hmethM habM hkP hkPi (g := g) hg (argsL := argsL) (rest := rest) (hlen _ hsigM) hstack hdg
  obtain ⟨v, ⟨T1, L1, k1, n1⟩, X1, ⟨Lc, hQ, l1, y1, z1⟩, hsteps⟩ := (backOf (W := W) (len := 3) (e := e) (below := below) (p := p) (args := args) hM hZ wc wz hf hl) m meth c ⟨T.setVm vm₁, locs, cells, slots⟩ { g with stack := rest } (.invokevirtual index) mk (.ref b :: argsL).toArray X₁ hg hsize hdg hW (X₁.named hnamed) ⟨has, eT, hc, hs⟩
  dsimp only [Pt.U, Pt.locs, Pt.cells, Pt.slots] at X1 l1 y1 z1 hsteps hQ
  subst l1 y1 z1
  exact ⟨v, T1, Lc, X1, hQ, fun τ kt => (hstep₁ _ fun acts => by rw [doInvoke_state]; exact Steps.refl _).trans (hsteps.trans kt)⟩
end OwnCalls2
section OwnFace
variable {p : Program} {l : Launch} {e : Env} {R : Room} {s : State} {m : MethodId} {args : Array Value} {below : List Frame} {meth : Method} {c : Code} {T : State} {locs : List Loc} {cells slots : Nat} {Z : State} {a0 : Array Value} {h h' : Heap}
theorem own_face (X : Stand p l e R s m args below meth c T locs cells slots) (hx : p.tables.exec = Jvm.exec) (hZ : Z.Warmed39 s.vm) {own C : String} {index count : Nat} {xi y : MethodName} (hown : s.vm.findClass own = some m.cls)
    (w1 : (Jvm.Cond.methodLink own index xi).before a0 Z = true) (w2 : (Jvm.Cond.declares xi).before a0 Z = true) (w5 : (Jvm.Cond.interfaceMethod xi.cls xi.cls xi.name xi.desc).before a0 Z = true) (k5 : ((Jvm.Cond.interfaceMethod xi.cls xi.cls xi.name xi.desc).onTables && (Jvm.Cond.interfaceMethod xi.cls xi.cls xi.name xi.desc).keepsFace) = true) (w3 : (Jvm.Cond.selects C xi y).before a0 Z = true) (w4 : (Jvm.Cond.instanceMethod y).before a0 Z = true)
    (w6 : (Jvm.Cond.publicMethod y).before a0 Z = true) (w7 : (Jvm.Cond.unhidden C xi.name xi.desc).before a0 Z = true) (w8 : (Jvm.Cond.castable C xi.cls).before a0 Z = true)
    (hy : xi.cls ≠ "java/lang/invoke/MethodHandle" ∧ xi.cls ≠ "java/lang/invoke/VarHandle") {bytes : ByteArray} {maxL : Nat} {ret : Option FieldType} {rm : Room} {as' : Array Value} {Q : Option Value → Heap → List Loc → Prop}
    (hM : MetFree l y (head1 [Jvm.Cond.code y bytes maxL ret] rm) (fun α U => α = as' ∧ Z.Warmed39 U.vm ∧ U.heap = h) (fun _ _ _ _ _ => True) (fun _ U o U' => ∃ v L, o = .returned v ∧ Q v U'.heap L ∧ FrameEnd U o U' L rm.cells rm.slots))
    (wc : (Jvm.Cond.code y bytes maxL ret).before a0 Z = true) (wz : (Jvm.Cond.initialized y.cls).before a0 Z = true) (W : Nat) (hf : rm.frames + 1 ≤ R.frames) (hl : W + (maxL + 11) + rm.locals ≤ R.locals)
    {b : Addr} (E : Exa Z h b C) (eT : T.heap = h) (g : JFrame) (hg : g.method = m) (hsize : g.locals.size = c.maxLocals) (argsL rest : List Value) (has : (.ref b :: argsL).toArray = as')
    (hlen : ∀ sig, parseMethodDescriptor xi.desc = some sig → argsL.length = sig.parameters.length) (hstack : g.stack = argsL.reverse ++ .ref b :: rest) (hW : 2 * g.monitorRoom + (rest.map fun v => v.category).sum ≤ W)
    (hdg : decode c.code g.pc = .ok (.invokeinterface index count, 5)) (hc : cells + rm.cells ≤ R.cells) (hs : slots + rm.slots ≤ R.slots) :
    ∃ (v : Option Value) (T' : State) (L : List Loc), Stand p l e R s m args below meth c T' (locs ++ L) (cells + rm.cells) (slots + rm.slots) ∧ Q v T'.heap L ∧
      ∀ τ, Steps p.tables e below (T'.setTop { g with pc := g.pc + 5, stack := v.toList ++ rest }) τ → Steps p.tables e below (T.setTop g) τ := by
  obtain ⟨cq, kq, qa, qb, qc⟩ := isOf hZ eT E
  obtain ⟨v, _, ⟨T1, L1, k1, n1⟩, -, X1, ⟨Lc, hQ, l1, y1, z1⟩, st⟩ := X.interfaceBack hx (xi := xi) (y := y) hown (mvT hZ w1) (mvT hZ w2) (mvT hZ w5 k5) (mvT hZ w3) (mvT hZ w4) (mvT hZ w6) (mvT hZ w7) (mvT hZ w8) hy (backOf (W := W) hM hZ wc wz hf hl) qa qb qc (g := g) hg hsize (Steps.refl _) (argsL := argsL) (rest := rest) hlen hstack hW hdg (fun _ _ => ⟨has, eT, hc, hs⟩)
  dsimp only [Pt.U, Pt.locs, Pt.cells, Pt.slots] at X1 l1 y1 z1 st hQ
  subst l1 y1 z1
  exact ⟨v, T1, Lc, X1, hQ, fun τ kt => st.trans kt⟩
theorem own_arv_ne {a b : Addr} {k k' : ClassId} {ty ty' : FieldType} {z z' : Int32} {vs vs' : List Value} {d d' : Value} (A : Arv Z h a k ty z vs d) (B : Arv Z h b k' ty' z' vs' d') (hne : ty ≠ ty') : a ≠ b := by
  rintro rfl
  obtain ⟨c1, A1, -⟩ := A
  obtain ⟨c2, B1, -⟩ := B
  cases A1.1.symm.trans B1.1
  obtain ⟨-, k1, g1, p1, e1⟩ := A1.2.1
  obtain ⟨-, k2, g2, p2, e2⟩ := B1.2.1
  cases g1.symm.trans g2
  rw [e1] at e2
  cases e2
  exact hne rfl
end OwnFace
section OwnRefs
variable {p : Program} {l : Launch} {e : Env} {R : Room} {s : State} {m : MethodId} {args : Array Value} {below : List Frame} {meth : Method} {c : Code} {T : State} {locs : List Loc} {cells slots : Nat} {Z : State} {a0 : Array Value} {h : Heap}
theorem own_fready {U : State} (hU : Z.Warmed39 U.vm) {own O n d : String} {index cur : Nat} (hcur : U.vm.findClass own = some cur) (w : (Jvm.Cond.fieldRef own index O n d).before a0 Z = true) {cf : ClassId} {k : Class} {i : Nat} {f : Field} (h2 : Z.fieldFound? O n d = some (cf, k, i, f)) : U.vm.fieldReady cur index cf f := by
  have w' := Cond.fieldRef_warmed39 hU w
  obtain ⟨c', k', i', f', g1, g2⟩ := Cond.fieldRef_spec (s := Z.setVm U.vm) hcur w'
  obtain ⟨k2, hi, -⟩ := State.fieldFound?_setVm (s := Z) hU.alike h2
  cases hi.symm.trans g1
  exact g2
theorem own_getR (X : Stand p l e R s m args below meth c T locs cells slots) (hx : p.tables.exec = Jvm.exec) (hZ : Z.Warmed39 s.vm) {own O n d : String} {index : Nat} (hown : s.vm.findClass own = some m.cls) (w : (Jvm.Cond.fieldRef own index O n d).before a0 Z = true)
    (eT : T.heap = h) {a : Addr} {v : Value} (F : Fld Z h a O n d v) {g : JFrame} (hg : g.method = m) {rest : List Value} (hs : g.stack = .ref a :: rest) (hd : decode c.code g.pc = .ok (.getfield index, 3)) : ∃ T', Stand p l e R s m args below meth c T' locs cells slots ∧ T'.heap = h ∧ ∀ target, Steps p.tables e below (T'.setTop { g with pc := g.pc + 3, stack := v :: rest }) target → Steps p.tables e below (T.setTop g) target := by
  obtain ⟨cell, cf, k, i, f, h1, h2, h3, h4, -, -, h7⟩ := F
  have hcur : T.vm.findClass own = some m.cls := by rw [X.warmed.alike.findClass]; exact hown
  have g2 := own_fready (wtrans hZ X.warmed) hcur w h2
  refine ⟨T, X, eT, fun target hrest => ?_⟩
  subst hg
  jvm_step X.here [hx, hd, getfield.wp_ready (e := e) (s := T) (f := g) X.here.top g2 h3 hs (show T.heap[a]? = some cell by rw [eT]; exact h1) h4 h7]
  exact hrest
theorem own_putR (X : Stand p l e R s m args below meth c T locs cells slots) (hx : p.tables.exec = Jvm.exec) (hZ : Z.Warmed39 s.vm) {own O n d C : String} {index kk : Nat} {ty : FieldType} (hown : s.vm.findClass own = some m.cls) (w : (Jvm.Cond.fieldRef own index O n d).before a0 Z = true)
    (eT : T.heap = h) {a : Addr} {v old : Value} (F : Fld Z h a O n d old) (E : Exa Z h a C) (L : (Jvm.Cond.lays C O n d).before a0 Z = true) (wi : (Jvm.Cond.instantiable C kk).before a0 Z = true)
    (hty : parseFieldDescriptor d = some ty) (hn : narrow ty v = v) (hf : fits ty v = true) {g : JFrame} (hg : g.method = m) {rest : List Value} (hs : g.stack = v :: .ref a :: rest) (hd : decode c.code g.pc = .ok (.putfield index, 3)) :
    ∃ T' h', Stand p l e R s m args below meth c T' (locs ++ [⟨a, Jvm.RoadKit.slotOf Z O n d⟩]) cells slots ∧ T'.heap = h' ∧ Wr h h' a (Jvm.RoadKit.slotOf Z O n d) v ∧ ∀ target, Steps p.tables e below (T'.setTop { g with pc := g.pc + 3, stack := rest }) target → Steps p.tables e below (T.setTop g) target := by
  obtain ⟨cell, cf, k, i, f, h1, h2, h3, h4, h5, -, h7⟩ := F
  obtain ⟨cell', kc, e1, e2, e3, -⟩ := E
  cases h1.symm.trans e1
  obtain ⟨c1, k1, cf1, kf1, i1, f1, a1, a2, a3, -, -, a6, -⟩ := Laid.spec (Or.inl L)
  obtain ⟨_, _, _, _, _, _, -, -, b3, -, b5, -⟩ := Cond.lays_spec L
  obtain ⟨c2, k2, j1, j2, j3, -⟩ := Cond.instantiable_spec wi
  cases h2.symm.trans a3
  cases h2.symm.trans b3
  cases e2.symm.trans a1
  cases e2.symm.trans j1
  cases a2.symm.trans j2
  have ht := (State.fieldFound?_type h2 hty).2
  have hT := wtrans hZ X.warmed
  have hcur : T.vm.findClass own = some m.cls := by rw [X.warmed.alike.findClass]; exact hown
  have g2 := own_fready hT hcur w h2
  have st : Z.slotType? cell.cls cell.vm f.slot = some ty := by
    have u := h5
    simp only [State.slotType?, a2, Option.bind_eq_bind, Option.bind_some, j3]
    revert u
    generalize cell.vm = vx
    intro u
    cases vx <;> first | exact Bool.noConfusion u | exact a6.trans (congrArg some ht)
  have fz : Z.fitsSlot cell.cls cell.vm f.slot v = true := by simp [State.fitsSlot, st, hf]
  have ft : T.fitsSlot cell.cls cell.vm f.slot v = true := by
    rw [← State.fitsSlot_setVm hT.alike] at fz
    exact fz
  obtain ⟨X', stp⟩ := X.putfieldReady hx g2 h3 (Or.inl b5) (by rw [eT]; exact h1) h4 (Array.getElem?_eq_some_iff.mp h7).1 (by rw [ht]; exact hn) ft hg hs hd
  have es : Jvm.RoadKit.slotOf Z O n d = f.slot := by simp [Jvm.RoadKit.slotOf, h2]
  rw [es]
  exact ⟨_, _, X', rfl, ⟨cell, h1, h5, (Array.getElem?_eq_some_iff.mp h7).1, by rw [← eT]; rfl⟩, stp⟩
theorem own_mready (ev : Env) {U : State} (hZ : Z.Warmed39 s.vm) (hwU : s.WarmedH U.vm) {own : String} {index cur : Nat} (hcur : s.vm.findClass own = some cur) {y : MethodName} (hy : y.cls ≠ "java/lang/invoke/MethodHandle" ∧ y.cls ≠ "java/lang/invoke/VarHandle") (w : (Jvm.Cond.methodRef own index y).before a0 Z = true) {r : MethodId} (hr : s.methodNamed? y = some r) : namesResolved U.vm cur index r.cls ∧ U.vm.methodReady cur index r := by
  have hU : Z.Warmed39 U.vm := wtrans hZ hwU
  have hzr : Z.methodNamed? y = some r := by
    have q := State.methodNamed?_setVm (s := Z) hZ.alike y
    rw [← q]; exact hr
  have hur : (Z.setVm U.vm).methodNamed? y = some r := by rw [State.methodNamed?_setVm hU.alike]; exact hzr
  have w' := Cond.methodRef_warmed39 hU hzr hy w
  have hcu : (Z.setVm U.vm).vm.findClass own = some cur := by
    show U.vm.findClass own = _
    rw [hwU.alike.findClass]; exact hcur
  obtain ⟨r', c', f1, f2, f3, f4⟩ := Cond.methodRef_named ev hcu w'
  cases (State.methodFound?_of_named hur hy).symm.trans f1
  cases (findClass_of_methodNamed hur).symm.trans f3
  exact ⟨f4, f2⟩
theorem own_specR (X : Stand p l e R s m args below meth c T locs cells slots) (hx : p.tables.exec = Jvm.exec) (hZ : Z.Warmed39 s.vm) {own : String} {index : Nat} {y : MethodName} (hy1 : y.name = "<init>") (hown : s.vm.findClass own = some m.cls)
    (w1 : (Jvm.Cond.methodRef own index y).before a0 Z = true) (w4 : (Jvm.Cond.instanceMethod y).before a0 Z = true)
    (hy : y.cls ≠ "java/lang/invoke/MethodHandle" ∧ y.cls ≠ "java/lang/invoke/VarHandle") {bytes : ByteArray} {maxL : Nat} {rm : Room} {as' : Array Value} {Q : Option Value → Heap → List Loc → Prop}
    (hM : MetFree l y (head1 [Jvm.Cond.code y bytes maxL none] rm) (fun α U => α = as' ∧ Z.Warmed39 U.vm ∧ U.heap = h) (fun _ _ _ _ _ => True) (fun _ U o U' => ∃ v L, o = .returned v ∧ Q v U'.heap L ∧ FrameEnd U o U' L rm.cells rm.slots))
    (wc : (Jvm.Cond.code y bytes maxL none).before a0 Z = true) (wz : (Jvm.Cond.initialized y.cls).before a0 Z = true) (W : Nat) (hf : rm.frames + 1 ≤ R.frames) (hl : W + (maxL + 11) + rm.locals ≤ R.locals)
    {b : Addr} (eT : T.heap = h) (g : JFrame) (hg : g.method = m) (hsize : g.locals.size = c.maxLocals) (argsL rest : List Value) (has : (.ref b :: argsL).toArray = as')
    (hlen : ∀ sig, parseMethodDescriptor y.desc = some sig → argsL.length = sig.parameters.length) (hstack : g.stack = argsL.reverse ++ .ref b :: rest) (hW : 2 * g.monitorRoom + (rest.map fun v => v.category).sum ≤ W)
    (hdg : decode c.code g.pc = .ok (.invokespecial index, 3)) (hc : cells + rm.cells ≤ R.cells) (hs : slots + rm.slots ≤ R.slots) :
    ∃ (v : Option Value) (T' : State) (L : List Loc), Stand p l e R s m args below meth c T' (locs ++ L) (cells + rm.cells) (slots + rm.slots) ∧ Q v T'.heap L ∧
      ∀ τ, Steps p.tables e below (T'.setTop { g with pc := g.pc + 3, stack := v.toList ++ rest }) τ → Steps p.tables e below (T.setTop g) τ := by
  have SC : SCall p l e R s m args below meth c index y := SCall.of_ready hx hy1 (mvT hZ w4) (mvT hZ wc) (fun U r hwU hr => own_mready e hZ hwU hown hy w1 hr)
  obtain ⟨v, _, ⟨T1, L1, k1, n1⟩, -, X1, ⟨Lc, hQ, l1, y1, z1⟩, st⟩ := SC X (backOf (W := W) hM hZ wc wz hf hl) (g := g) hg hsize (Steps.refl _) (a := b) (argsL := argsL) (rest := rest) hlen hstack hW hdg (fun _ _ => ⟨has, eT, hc, hs⟩)
  dsimp only [Pt.U, Pt.locs, Pt.cells, Pt.slots] at X1 l1 y1 z1 st hQ
  subst l1 y1 z1
  exact ⟨v, T1, Lc, X1, hQ, fun τ kt => st.trans kt⟩
theorem own_privR (X : Stand p l e R s m args below meth c T locs cells slots) (hx : p.tables.exec = Jvm.exec) (hZ : Z.Warmed39 s.vm) {own : String} {index kk : Nat} {y : MethodName} (hown : s.vm.findClass own = some m.cls)
    (w1 : (Jvm.Cond.methodLink own index y).before a0 Z = true ∨ (Jvm.Cond.methodRef own index y).before a0 Z = true) (w2 : (Jvm.Cond.privateMethod y).before a0 Z = true) (wi : (Jvm.Cond.instantiable y.cls kk).before a0 Z = true) (w4 : (Jvm.Cond.instanceMethod y).before a0 Z = true)
    (hy : y.cls ≠ "java/lang/invoke/MethodHandle" ∧ y.cls ≠ "java/lang/invoke/VarHandle") {bytes : ByteArray} {maxL : Nat} {ret : Option FieldType} {rm : Room} {as' : Array Value} {Q : Option Value → Heap → List Loc → Prop}
    (hM : MetFree l y (head1 [Jvm.Cond.code y bytes maxL ret] rm) (fun α U => α = as' ∧ Z.Warmed39 U.vm ∧ U.heap = h) (fun _ _ _ _ _ => True) (fun _ U o U' => ∃ v L, o = .returned v ∧ Q v U'.heap L ∧ FrameEnd U o U' L rm.cells rm.slots))
    (wc : (Jvm.Cond.code y bytes maxL ret).before a0 Z = true) (wz : (Jvm.Cond.initialized y.cls).before a0 Z = true) (W : Nat) (hf : rm.frames + 1 ≤ R.frames) (hl : W + (maxL + 11) + rm.locals ≤ R.locals)
    {b : Addr} {C : String} (E : Exa Z h b C) (eT : T.heap = h) (g : JFrame) (hg : g.method = m) (hsize : g.locals.size = c.maxLocals) (argsL rest : List Value) (has : (.ref b :: argsL).toArray = as')
    (hlen : ∀ sig, parseMethodDescriptor y.desc = some sig → argsL.length = sig.parameters.length) (hstack : g.stack = argsL.reverse ++ .ref b :: rest) (hW : 2 * g.monitorRoom + (rest.map fun v => v.category).sum ≤ W)
    (hdg : decode c.code g.pc = .ok (.invokevirtual index, 3)) (hc : cells + rm.cells ≤ R.cells) (hs : slots + rm.slots ≤ R.slots) :
    ∃ (v : Option Value) (T' : State) (L : List Loc), Stand p l e R s m args below meth c T' (locs ++ L) (cells + rm.cells) (slots + rm.slots) ∧ Q v T'.heap L ∧
      ∀ τ, Steps p.tables e below (T'.setTop { g with pc := g.pc + 3, stack := v.toList ++ rest }) τ → Steps p.tables e below (T.setTop g) τ := by
  obtain ⟨mk, methM, hnamed, hmethM, hstM, habM⟩ := Cond.instanceMethod_spec (mv (args := args) hZ w4)
  obtain ⟨methM', cM, hmethM', -, -, -, -, -, -, hsigM⟩ := Cond.code_spec hnamed (mv (args := args) hZ wc)
  cases hmethM.symm.trans hmethM'
  obtain ⟨c2, kP, i1, hkP, -, i4, -⟩ := Cond.instantiable_spec (mv (args := args) hZ wi)
  cases i1.symm.trans (findClass_of_methodNamed hnamed)
  have hkPi : kP.isInterface = false := by
    simp only [Bool.or_eq_false_iff] at i4
    exact i4.1
  obtain ⟨cell, k, e1, e2, e3, e4, -⟩ := E
  have hpriv : s.PrivateAt y := Cond.privateMethod_at (mv (args := args) hZ w2)
  have hselP : selectMethod e.platform s.vm cell.cls mk = .method mk := selectMethod_private hmethM (hpriv mk methM hnamed hmethM)
  have hobj : ∀ q, cell.vm ≠ .statics q := fun q r => by rw [r] at e4; cases e4
  rcases w1 with w1 | w1
  · obtain ⟨vm₁, X₁, hstep₁⟩ := X.invokevirtual hx hown (mv (args := args) hZ w1) hnamed hmethM hstM hkP hkPi hy (a := b) (cell := cell) (by rw [eT]; exact e1) hobj hselP hmethM habM hkP hkPi (g := g) hg (argsL := argsL) (rest := rest) (hlen _ hsigM) hstack hdg
    obtain ⟨v, ⟨T1, L1, k1, n1⟩, X1, ⟨Lc, hQ, l1, y1, z1⟩, hsteps⟩ := (backOf (W := W) (len := 3) (e := e) (below := below) (p := p) (args := args) hM hZ wc wz hf hl) m meth c ⟨T.setVm vm₁, locs, cells, slots⟩ { g with stack := rest } (.invokevirtual index) mk (.ref b :: argsL).toArray X₁ hg hsize hdg hW (X₁.named hnamed) ⟨has, eT, hc, hs⟩
    dsimp only [Pt.U, Pt.locs, Pt.cells, Pt.slots] at X1 l1 y1 z1 hsteps hQ
    subst l1 y1 z1
    exact ⟨v, T1, Lc, X1, hQ, fun τ kt => (hstep₁ _ fun acts => by rw [doInvoke_state]; exact Steps.refl _).trans (hsteps.trans kt)⟩
  · obtain ⟨hnr, hr⟩ := own_mready e hZ X.warmed hown hy w1 hnamed
    have alike := X.warmed.alike
    obtain ⟨kP2, hkP2, heP⟩ := alike.2.2 _ _ hkP
    have hi2 : kP2.isInterface = false := by
      have : kP2.isInterface = kP.isInterface := by rw [heP]; rfl
      rw [this]; exact hkPi
    have hpoly : signaturePolymorphic kP2 methM = false := by
      obtain ⟨kN, hkN, hname⟩ := className_of_methodNamed hnamed
      cases hkP.symm.trans hkN
      have hn' : kP2.name = y.cls := by rw [heP]; exact hname
      exact signaturePolymorphic_of_name (by rw [hn']; exact hy) methM
    have hmT : T.vm.method? mk = some methM := by rw [alike.method?]; exact hmethM
    have hselT : selectMethod e.platform T.vm cell.cls mk = .method mk := by rw [alike.selectMethod]; exact hselP
    obtain ⟨v, ⟨T1, L1, k1, n1⟩, X1, ⟨Lc, hQ, l1, y1, z1⟩, hsteps⟩ := (backOf (W := W) (len := 3) (e := e) (below := below) (p := p) (args := args) hM hZ wc wz hf hl) m meth c ⟨T, locs, cells, slots⟩ { g with stack := rest } (.invokevirtual index) mk (.ref b :: argsL).toArray X hg hsize hdg hW (X.named hnamed) ⟨has, eT, hc, hs⟩
    dsimp only [Pt.U, Pt.locs, Pt.cells, Pt.slots] at X1 l1 y1 z1 hsteps hQ
    subst l1 y1 z1
    refine ⟨v, T1, Lc, X1, hQ, fun τ kt => Steps.trans ?_ (hsteps.trans kt)⟩
    subst hg
    jvm_step X.here [hx, hdg, invokevirtual.wp_named (e := e) (s := T) (f := g) (r := mk) (m := mk) (c' := mk.cls) (k := kP2) (k' := kP2) (mk := kP2) (rmeth := methM) (meth := methM) (a := b) (args := argsL) (rest := rest) (cell := cell)
      X.here.top hnr hkP2 hi2 hr hkP2 hmT hpoly hstM (hlen _ hsigM) hstack (show T.heap[b]? = some cell by rw [eT]; exact e1) hobj hselT hmT habM hkP2 hi2]
    intro acts
    rw [doInvoke_state]
    exact Steps.refl _
end OwnRefs
theorem own_pd__II_V : parseMethodDescriptor "(II)V" = some ⟨[.int, .int], none⟩ := by decide +kernel
theorem own_pd___V : parseMethodDescriptor "()V" = some ⟨[], none⟩ := by decide +kernel
theorem own_pd___DD_V : parseMethodDescriptor "([DD)V" = some ⟨[(.array .double), .double], none⟩ := by decide +kernel
theorem own_pd__Ljava_lang_Object__Z : parseMethodDescriptor "(Ljava/lang/Object;)Z" = some ⟨[(.object "java/lang/Object")], some .boolean⟩ := by decide +kernel
theorem own_pd__Ljava_lang_Object__Ljava_lang_Object_I_V : parseMethodDescriptor "(Ljava/lang/Object;[Ljava/lang/Object;I)V" = some ⟨[(.object "java/lang/Object"), (.array (.object "java/lang/Object")), .int], none⟩ := by decide +kernel
theorem own_pd____Ljava_lang_Object_ : parseMethodDescriptor "()[Ljava/lang/Object;" = some ⟨[], some (.array (.object "java/lang/Object"))⟩ := by decide +kernel
theorem own_pd__I__Ljava_lang_Object_ : parseMethodDescriptor "(I)[Ljava/lang/Object;" = some ⟨[.int], some (.array (.object "java/lang/Object"))⟩ := by decide +kernel
theorem own_pd__II_I : parseMethodDescriptor "(II)I" = some ⟨[.int, .int], some .int⟩ := by decide +kernel
theorem own_pd__D_D_Z : parseMethodDescriptor "(D[D)Z" = some ⟨[.double, (.array .double)], some .boolean⟩ := by decide +kernel
theorem own_pd__D_D : parseMethodDescriptor "(D)D" = some ⟨[.double], some .double⟩ := by decide +kernel
theorem own_pd__DD_D : parseMethodDescriptor "(DD)D" = some ⟨[.double, .double], some .double⟩ := by decide +kernel
theorem own_pd__Lcom_example_bidfold_bidfold_solve_CuttingPlaneMaster_Dense__V : parseMethodDescriptor "(Lcom/example/bidfold/bidfold/solve/CuttingPlaneMaster$Dense;)V" = some ⟨[(.object "com/example/bidfold/bidfold/solve/CuttingPlaneMaster$Dense")], none⟩ := by decide +kernel
theorem own_pd___I : parseMethodDescriptor "()I" = some ⟨[], some .int⟩ := by decide +kernel
theorem own_pd__I_Ljava_lang_Object_ : parseMethodDescriptor "(I)Ljava/lang/Object;" = some ⟨[.int], some (.object "java/lang/Object")⟩ := by decide +kernel
theorem own_pd__IILjava_util_function_BiFunction__I : parseMethodDescriptor "(IILjava/util/function/BiFunction;)I" = some ⟨[.int, .int, (.object "java/util/function/BiFunction")], some .int⟩ := by decide +kernel
theorem own_pd____D___D : parseMethodDescriptor "([[D)[[D" = some ⟨[(.array (.array .double))], some (.array (.array .double))⟩ := by decide +kernel
theorem own_pd____DII_V : parseMethodDescriptor "([[DII)V" = some ⟨[(.array (.array .double)), .int, .int], none⟩ := by decide +kernel
theorem own_pd__I_I : parseMethodDescriptor "(I)I" = some ⟨[.int], some .int⟩ := by decide +kernel
theorem own_pd___D__D : parseMethodDescriptor "([D)[D" = some ⟨[(.array .double)], some (.array .double)⟩ := by decide +kernel
theorem own_pd___Ljava_util_Iterator_ : parseMethodDescriptor "()Ljava/util/Iterator;" = some ⟨[], some (.object "java/util/Iterator")⟩ := by decide +kernel
theorem own_pd__Ljava_util_ArrayList__V : parseMethodDescriptor "(Ljava/util/ArrayList;)V" = some ⟨[(.object "java/util/ArrayList")], none⟩ := by decide +kernel
theorem own_pd___Z : parseMethodDescriptor "()Z" = some ⟨[], some .boolean⟩ := by decide +kernel
theorem own_pd___Ljava_lang_Object_ : parseMethodDescriptor "()Ljava/lang/Object;" = some ⟨[], some (.object "java/lang/Object")⟩ := by decide +kernel
theorem own_pd____D : parseMethodDescriptor "()[D" = some ⟨[], some (.array .double)⟩ := by decide +kernel
theorem own_pd__Z_I : parseMethodDescriptor "(Z)I" = some ⟨[.boolean], some .int⟩ := by decide +kernel
theorem own_pd__I_Z : parseMethodDescriptor "(I)Z" = some ⟨[.int], some .boolean⟩ := by decide +kernel
theorem own_pd__I_D : parseMethodDescriptor "(I)D" = some ⟨[.int], some .double⟩ := by decide +kernel
theorem own_pd___D : parseMethodDescriptor "()D" = some ⟨[], some .double⟩ := by decide +kernel
theorem own_pd__IZ_D : parseMethodDescriptor "(IZ)D" = some ⟨[.int, .boolean], some .double⟩ := by decide +kernel
theorem own_pd__I_Lcom_example_bidfold_bidfold_solve_CuttingPlaneMaster_Direction_ : parseMethodDescriptor "(I)Lcom/example/bidfold/bidfold/solve/CuttingPlaneMaster$Direction;" = some ⟨[.int], some (.object "com/example/bidfold/bidfold/solve/CuttingPlaneMaster$Direction")⟩ := by decide +kernel
theorem own_pd___D_D_V : parseMethodDescriptor "([D[D)V" = some ⟨[(.array .double), (.array .double)], none⟩ := by decide +kernel
theorem own_pd__IILcom_example_bidfold_bidfold_solve_CuttingPlaneMaster_Direction_D_V : parseMethodDescriptor "(IILcom/example/bidfold/bidfold/solve/CuttingPlaneMaster$Direction;D)V" = some ⟨[.int, .int, (.object "com/example/bidfold/bidfold/solve/CuttingPlaneMaster$Direction"), .double], none⟩ := by decide +kernel
theorem own_pd__II_DDD_V : parseMethodDescriptor "(II[DDD)V" = some ⟨[.int, .int, (.array .double), .double, .double], none⟩ := by decide +kernel
theorem own_pd__I__D : parseMethodDescriptor "(I)[D" = some ⟨[.int], some (.array .double)⟩ := by decide +kernel
theorem own_pd___II__I : parseMethodDescriptor "([II)[I" = some ⟨[(.array .int), .int], some (.array .int)⟩ := by decide +kernel
section OwnEx
def own_nth : List Slot → Nat → Option Slot
  | [], _ => none
  | x :: _, 0 => some x
  | _ :: r, k + 1 => own_nth r k
def own_put : List Slot → Nat → Slot → List Slot
  | [], _, _ => []
  | _ :: r, 0, x => x :: r
  | y :: r, k + 1, x => y :: own_put r k x
theorem own_nth_eq : ∀ (l : List Slot) (k : Nat), l.toArray[k]? = own_nth l k
  | [], k => by simp [own_nth]
  | x :: r, 0 => by simp [own_nth]
  | x :: r, k + 1 => by have := own_nth_eq r k; simp [own_nth] at this ⊢; exact this
theorem own_put_eq : ∀ (l : List Slot) (k : Nat) (x : Slot), own_put l k x = l.set k x
  | [], k, x => by simp [own_put]
  | y :: r, 0, x => by simp [own_put]
  | y :: r, k + 1, x => by simp [own_put, own_put_eq r k x]
def own_s1c (s : Slot) : Bool := match s with | .unset => true | .val v => v.category == 1 | .second => false
def own_sto (l : List Slot) (k : Nat) (v : Value) : Option (List Slot) := match own_nth l k with | some s => bif own_s1c s then some (own_put l k (.val v)) else none | none => none
theorem own_lt {l : List Slot} {k : Nat} {s : Slot} (h : own_nth l k = some s) : k < l.toArray.size := by
  rw [← own_nth_eq] at h; exact (Array.getElem?_eq_some_iff.mp h).1
theorem own_setAt {l : List Slot} {k : Nat} {x : Slot} (h : k < l.toArray.size) : setAt l.toArray k x = some (own_put l k x).toArray := by
  rw [own_put_eq]; simp only [setAt, h, if_true]; simp
theorem own_sto_ok {l l' : List Slot} {k : Nat} {v : Value} (hv : v.category = 1) (h : own_sto l k v = some l') : storeLocals l.toArray k v = some l'.toArray := by
  unfold own_sto at h
  split at h
  · rename_i s q
    cases z : own_s1c s <;> rw [z] at h <;> simp only [cond_true, cond_false] at h
    · cases h
    · cases h
      have hk := own_lt q
      have e : storeSelf l.toArray k v = some (own_put l k (.val v)).toArray := by
        unfold storeSelf; rw [own_setAt hk]; simp [hv]
      unfold storeLocals; rw [own_nth_eq, q]
      cases s with
      | unset => simpa using e
      | second => simp [own_s1c] at z
      | val w => simp only [own_s1c, beq_iff_eq] at z; simp [z, e]
  · cases h
def own_std (l : List Slot) (k : Nat) (x : UInt64) : Option (List Slot) := match own_nth l k, own_nth l (k + 1) with
  | some a, some b => bif own_s1c a && own_s1c b then some (own_put (own_put l k (.val (.double x))) (k + 1) .second) else
    match a with
    | .val w => bif w.category == 2 then some (own_put (own_put (own_put l (k + 1) .unset) k (.val (.double x))) (k + 1) .second) else none
    | _ => none
  | _, _ => none
theorem own_put_sz (l : List Slot) (k : Nat) (x : Slot) : (own_put l k x).toArray.size = l.toArray.size := by rw [own_put_eq]; simp
theorem own_std_ok {l l' : List Slot} {k : Nat} {x : UInt64} (h : own_std l k x = some l') : storeLocals l.toArray k (.double x) = some l'.toArray := by
  unfold own_std at h
  split at h
  · rename_i a b qa qb
    have hk := own_lt qa
    have hk1 := own_lt qb
    cases z : own_s1c a && own_s1c b <;> rw [z] at h <;> simp only [cond_true, cond_false] at h
    · split at h
      · rename_i w
        cases y : w.category == 2 <;> rw [y] at h <;> simp only [cond_true, cond_false] at h
        · cases h
        · cases h
          rw [beq_iff_eq] at y
          have hk' : k < (own_put l (k + 1) .unset).toArray.size := by rw [own_put_sz]; exact hk
          have e : storeSelf (own_put l (k + 1) .unset).toArray k (.double x) = some (own_put (own_put (own_put l (k + 1) .unset) k (.val (.double x))) (k + 1) .second).toArray := by
            unfold storeSelf; rw [own_setAt hk']
            have n1 : own_nth (own_put (own_put l (k + 1) .unset) k (.val (.double x))) (k + 1) = some .unset := by
              rw [← own_nth_eq, own_put_eq, own_put_eq]; simp at hk1 ⊢; simp [hk1]
            have hs : k + 1 < (own_put (own_put l (k + 1) .unset) k (.val (.double x))).toArray.size := own_lt n1
            simp only [Option.bind_eq_bind, Option.bind_some, own_nth_eq, n1, own_setAt hs]; rfl
          unfold storeLocals; rw [own_nth_eq, qa]; simp only [Option.bind_eq_bind, Option.bind_some, y, own_setAt hk1, if_true]; exact e
      · cases h
    · cases h
      rw [Bool.and_eq_true] at z
      have e : storeSelf l.toArray k (.double x) = some (own_put (own_put l k (.val (.double x))) (k + 1) .second).toArray := by
        unfold storeSelf; rw [own_setAt hk]
        have n1 : own_nth (own_put l k (.val (.double x))) (k + 1) = some b := by
          rw [← own_nth_eq] at qb ⊢; rw [own_put_eq]; simp at qb ⊢; exact qb
        have hs : k + 1 < (own_put l k (.val (.double x))).toArray.size := own_lt n1
        simp only [Option.bind_eq_bind, Option.bind_some, own_nth_eq, n1, own_setAt hs]
        cases b with
        | unset => rfl
        | second => rfl
        | val w => have z2 := z.2; simp only [own_s1c, beq_iff_eq] at z2; show (if (2 : Nat) = 2 then (if w.category = 2 then _ else _) else _) = _; rw [if_pos rfl, z2]; rfl
      unfold storeLocals; rw [own_nth_eq, qa]
      cases a with
      | unset => simpa using e
      | second => simp [own_s1c] at z
      | val w => have z1 := z.1; simp only [own_s1c, beq_iff_eq] at z1; simp [z1, e]
  · cases h
def own_li (o : Option Slot) (pc n : Nat) (L : List Slot) (S : List Value) : Option (Nat × List Slot × List Value) := match o with | some (.val (.int v)) => some (pc + n, L, .int v :: S) | _ => none
def own_la (o : Option Slot) (pc n : Nat) (L : List Slot) (S : List Value) : Option (Nat × List Slot × List Value) := match o with | some (.val v) => bif v.isRef then some (pc + n, L, v :: S) else none | _ => none
def own_ld (o : Option Slot) (pc n : Nat) (L : List Slot) (S : List Value) : Option (Nat × List Slot × List Value) := match o with | some (.val (.double v)) => some (pc + n, L, .double v :: S) | _ => none
def own_sx (o : Option (List Slot)) (pc : Nat) (S : List Value) : Option (Nat × List Slot × List Value) := match o with | some L' => some (pc, L', S) | none => none
def own_si (k pc n : Nat) (L : List Slot) (S : List Value) : Option (Nat × List Slot × List Value) := match S with | .int x :: r => own_sx (own_sto L k (.int x)) (pc + n) r | _ => none
def own_sa (k pc n : Nat) (L : List Slot) (S : List Value) : Option (Nat × List Slot × List Value) := match S with | x :: r => bif x.isRef then own_sx (own_sto L k x) (pc + n) r else none | _ => none
def own_sdb (k pc n : Nat) (L : List Slot) (S : List Value) : Option (Nat × List Slot × List Value) := match S with | .double x :: r => own_sx (own_std L k x) (pc + n) r | _ => none
def own_jp (pc : Nat) (o : Int) (L : List Slot) (S : List Value) : Option (Nat × List Slot × List Value) := bif decide (0 ≤ (pc : Int) + o) then some (((pc : Int) + o).toNat, L, S) else none
def own_s1 (i : Instr) (pc : Nat) (L : List Slot) (S : List Value) : Option (Nat × List Slot × List Value) :=
  match i with
  | .iload k => own_li (own_nth L k) pc 2 L S
  | .iload_n k => own_li (own_nth L k.val) pc 1 L S
  | .aload k => own_la (own_nth L k) pc 2 L S
  | .aload_n k => own_la (own_nth L k.val) pc 1 L S
  | .dload k => own_ld (own_nth L k) pc 2 L S
  | .dload_n k => own_ld (own_nth L k.val) pc 1 L S
  | .istore k => own_si k pc 2 L S
  | .istore_n k => own_si k.val pc 1 L S
  | .astore k => own_sa k pc 2 L S
  | .astore_n k => own_sa k.val pc 1 L S
  | .dstore k => own_sdb k pc 2 L S
  | .dstore_n k => own_sdb k.val pc 1 L S
  | .iconst n => some (pc + 1, L, .int (Int32.ofInt n) :: S)
  | .aconst_null => some (pc + 1, L, .null :: S)
  | .dconst n => match n with | 0 => some (pc + 1, L, .double 0 :: S) | 1 => some (pc + 1, L, .double 4607182418800017408 :: S)
  | .iinc k d => match (own_nth L k) with | some (.val (.int x)) => own_sx (own_sto L k (.int (x + Int32.ofInt d))) (pc + 3) S | _ => none
  | .goto o => own_jp pc o L S
  | .if_icmp cd o => match S with | .int y :: .int x :: r => bif if_icmp.holds cd x y then own_jp pc o L r else some (pc + 3, L, r) | _ => none
  | .ifCond cd o => match S with | .int x :: r => bif ifCond.holds cd x then own_jp pc o L r else some (pc + 3, L, r) | _ => none
  | .ifnull o => match S with | .null :: r => own_jp pc o L r | .ref _ :: r => some (pc + 3, L, r) | _ => none
  | .ifnonnull o => match S with | .null :: r => some (pc + 3, L, r) | .ref _ :: r => own_jp pc o L r | _ => none
  | .iadd => match S with | .int y :: .int x :: r => some (pc + 1, L, .int (x + y) :: r) | _ => none
  | .isub => match S with | .int y :: .int x :: r => some (pc + 1, L, .int (x - y) :: r) | _ => none
  | .imul => match S with | .int y :: .int x :: r => some (pc + 1, L, .int (x * y) :: r) | _ => none
  | .ineg => match S with | .int x :: r => some (pc + 1, L, .int (-x) :: r) | _ => none
  | .i2d => match S with | .int x :: r => some (pc + 1, L, .double (FP.i2d x) :: r) | _ => none
  | .dneg => match S with | .double x :: r => some (pc + 1, L, .double (FP.dneg x) :: r) | _ => none
  | .dcmp op => match S with | .double y :: .double x :: r => some (pc + 1, L, .int (cmpValue (FP.dcmp x y) op) :: r) | _ => none
  | .dup => match S with | .ref a :: r => some (pc + 1, L, .ref a :: .ref a :: r) | .int a :: r => some (pc + 1, L, .int a :: .int a :: r) | _ => none
  | .pop => match S with | .ref _ :: r => some (pc + 1, L, r) | .int _ :: r => some (pc + 1, L, r) | _ => none
  | _ => none
theorem own_rc {v : Value} (h : v.isRef = true) : v.category = 1 := by cases v <;> simp [Value.isRef] at h <;> rfl
theorem own_li_ok {o : Option Slot} {pc n pc' : Nat} {L L' : List Slot} {S S' : List Value} (h : own_li o pc n L S = some (pc', L', S')) : ∃ v, o = some (.val (.int v)) ∧ pc' = pc + n ∧ L' = L ∧ S' = .int v :: S := by
  unfold own_li at h; split at h
  · cases h; exact ⟨_, rfl, rfl, rfl, rfl⟩
  · cases h
theorem own_la_ok {o : Option Slot} {pc n pc' : Nat} {L L' : List Slot} {S S' : List Value} (h : own_la o pc n L S = some (pc', L', S')) : ∃ v, o = some (.val v) ∧ v.isRef = true ∧ pc' = pc + n ∧ L' = L ∧ S' = v :: S := by
  unfold own_la at h; split at h
  · rename_i v; cases q : v.isRef <;> rw [q] at h <;> simp only [cond_true, cond_false] at h
    · cases h
    · cases h; exact ⟨_, rfl, q, rfl, rfl, rfl⟩
  · cases h
theorem own_ld_ok {o : Option Slot} {pc n pc' : Nat} {L L' : List Slot} {S S' : List Value} (h : own_ld o pc n L S = some (pc', L', S')) : ∃ v, o = some (.val (.double v)) ∧ pc' = pc + n ∧ L' = L ∧ S' = .double v :: S := by
  unfold own_ld at h; split at h
  · cases h; exact ⟨_, rfl, rfl, rfl, rfl⟩
  · cases h
theorem own_sx_ok {o : Option (List Slot)} {pc pc' : Nat} {L' : List Slot} {S S' : List Value} (h : own_sx o pc S = some (pc', L', S')) : o = some L' ∧ pc' = pc ∧ S' = S := by
  unfold own_sx at h; split at h
  · cases h; exact ⟨rfl, rfl, rfl⟩
  · cases h
theorem own_jp_ok {pc pc' : Nat} {o : Int} {L L' : List Slot} {S S' : List Value} (h : own_jp pc o L S = some (pc', L', S')) : 0 ≤ (pc : Int) + o ∧ ((pc : Int) + o).toNat = pc' ∧ L' = L ∧ S' = S := by
  unfold own_jp at h; cases q : decide (0 ≤ (pc : Int) + o) <;> rw [q] at h <;> simp only [cond_true, cond_false] at h
  · cases h
  · cases h; exact ⟨of_decide_eq_true q, rfl, rfl, rfl⟩
def own_ln : Instr → Nat
  | .iload _ => 2 | .lload _ => 2 | .lstore _ => 2 | .aload _ => 2 | .dload _ => 2 | .istore _ => 2 | .astore _ => 2 | .dstore _ => 2 | .bipush _ => 2 | .sipush _ => 3 | .iinc _ _ => 3 | .goto _ => 3 | .ifCond _ _ => 3 | .if_icmp _ _ => 3 | .if_acmp _ _ => 3 | .ifnull _ => 3 | .ifnonnull _ => 3
  | .getfield _ => 3 | .putfield _ => 3 | .getstatic _ => 3 | .invokevirtual _ => 3 | .invokespecial _ => 3 | .invokestatic _ => 3 | .invokeinterface _ _ => 5 | .new _ => 3 | .newarray _ => 2 | .anewarray _ => 3 | .multianewarray _ _ => 4 | .checkcast _ => 3 | .ldc _ => 2 | .ldc2_w _ => 3 | _ => 1
def own_Tab (code : ByteArray) (tab : Nat → Option Instr) : Prop := ∀ pc {i : Instr}, tab pc = some i → decode code pc = .ok (i, own_ln i)
def own_lk (pc : Nat) : List (Nat × Instr) → Option Instr
  | [] => none
  | (k, i) :: r => bif Nat.beq k pc then some i else own_lk pc r
theorem own_tl {code : ByteArray} {l : List (Nat × Instr)} (h : ∀ x ∈ l, decode code x.1 = .ok (x.2, own_ln x.2)) : own_Tab code (fun pc => own_lk pc l) := by
  intro pc i q; induction l with
  | nil => cases q
  | cons x r ih =>
    obtain ⟨k, j⟩ := x; simp only [own_lk] at q; cases z : Nat.beq k pc <;> rw [z] at q <;> simp only [cond_true, cond_false] at q
    · exact ih (fun y hy => h y (List.mem_cons_of_mem _ hy)) q
    · cases q; have e := Nat.eq_of_beq_eq_true z; subst e; exact h (k, i) (List.mem_cons_self ..)
theorem own_tb {code : ByteArray} {t1 t2 : Nat → Option Instr} {k : Nat} (h1 : own_Tab code t1) (h2 : own_Tab code t2) : own_Tab code (fun pc => bif Nat.blt pc k then t1 pc else t2 pc) := by
  intro pc i q; have q : (bif Nat.blt pc k then t1 pc else t2 pc) = some i := q
  cases z : Nat.blt pc k <;> rw [z] at q <;> simp only [cond_true, cond_false] at q
  · exact h2 pc q
  · exact h1 pc q
theorem own_s1_ok {tb : Tables} [Ours tb] {e : Env} {below : List Frame} {T τ : State} {m : MethodId} {c : Code} (X : At T m c below) (hx : tb.exec = Jvm.exec) {i : Instr} {pc pc' : Nat} {L L' : List Slot} {S S' : List Value} (h : own_s1 i pc L S = some (pc', L', S')) (hd : decode c.code pc = .ok (i, own_ln i)) (hr : Steps tb e below (T.setTop (mkF m pc' L'.toArray S')) τ) : Steps tb e below (T.setTop (mkF m pc L.toArray S)) τ := by
  unfold own_s1 at h; split at h
  · obtain ⟨v, q, rfl, rfl, rfl⟩ := own_li_ok h; exact XS.iload X hx rfl hd ((own_nth_eq _ _).trans q) hr
  · obtain ⟨v, q, rfl, rfl, rfl⟩ := own_li_ok h; exact XS.iloadN X hx rfl hd ((own_nth_eq _ _).trans q) hr
  · obtain ⟨v, q, r, rfl, rfl, rfl⟩ := own_la_ok h; exact XS.aload X hx rfl hd ((own_nth_eq _ _).trans q) r hr
  · obtain ⟨v, q, r, rfl, rfl, rfl⟩ := own_la_ok h; exact XS.aloadN X hx rfl hd ((own_nth_eq _ _).trans q) r hr
  · obtain ⟨v, q, rfl, rfl, rfl⟩ := own_ld_ok h; exact own_dload X hx rfl hd ((own_nth_eq _ _).trans q) hr
  · obtain ⟨v, q, rfl, rfl, rfl⟩ := own_ld_ok h; exact own_dloadN X hx rfl hd ((own_nth_eq _ _).trans q) hr
  · unfold own_si at h; split at h
    · obtain ⟨q, rfl, rfl⟩ := own_sx_ok h; exact XS.istore X hx rfl hd rfl (own_sto_ok rfl q) hr
    · cases h
  · unfold own_si at h; split at h
    · obtain ⟨q, rfl, rfl⟩ := own_sx_ok h; exact XS.istoreN X hx rfl hd rfl (own_sto_ok rfl q) hr
    · cases h
  · unfold own_sa at h; split at h
    · rename_i x r; cases z : x.isRef <;> rw [z] at h <;> simp only [cond_true, cond_false] at h
      · cases h
      · obtain ⟨q, rfl, rfl⟩ := own_sx_ok h; exact XS.astore X hx rfl hd rfl z (own_sto_ok (own_rc z) q) hr
    · cases h
  · unfold own_sa at h; split at h
    · rename_i x r; cases z : x.isRef <;> rw [z] at h <;> simp only [cond_true, cond_false] at h
      · cases h
      · obtain ⟨q, rfl, rfl⟩ := own_sx_ok h; exact XS.astoreN X hx rfl hd rfl z (own_sto_ok (own_rc z) q) hr
    · cases h
  · unfold own_sdb at h; split at h
    · obtain ⟨q, rfl, rfl⟩ := own_sx_ok h; exact own_dstore X hx rfl hd rfl (own_std_ok q) hr
    · cases h
  · unfold own_sdb at h; split at h
    · obtain ⟨q, rfl, rfl⟩ := own_sx_ok h; exact own_dstoreN X hx rfl hd rfl (own_std_ok q) hr
    · cases h
  · cases h; exact XS.iconst X hx rfl hd hr
  · cases h; exact XS.aconstNull X hx rfl hd hr
  · split at h
    · cases h; exact own_dconst0 X hx rfl hd (by rw [show FP.dconst0 = 0 by decide +kernel]; exact hr)
    · cases h; exact own_dconst1 X hx rfl hd (by rw [show FP.dconst1 = 4607182418800017408 by decide +kernel]; exact hr)
  · split at h
    · rename_i x q; obtain ⟨q', rfl, rfl⟩ := own_sx_ok h; exact XS.iinc X hx rfl hd ((own_nth_eq _ _).trans q) (own_sto_ok rfl q') hr
    · cases h
  · obtain ⟨a, b, rfl, rfl⟩ := own_jp_ok h; exact XS.goto X hx rfl rfl hd a b hr
  · split at h
    · rename_i cd o S0 y x r; cases z : if_icmp.holds cd x y <;> rw [z] at h <;> simp only [cond_true, cond_false] at h
      · cases h; exact XS.icmpNo X hx rfl hd rfl z hr
      · obtain ⟨a, b, rfl, rfl⟩ := own_jp_ok h; exact XS.icmpYes X hx rfl rfl hd rfl z a b hr
    · cases h
  · split at h
    · rename_i cd o S0 x r; cases z : ifCond.holds cd x <;> rw [z] at h <;> simp only [cond_true, cond_false] at h
      · cases h; exact XS.ifNo X hx rfl hd rfl z hr
      · obtain ⟨a, b, rfl, rfl⟩ := own_jp_ok h; exact XS.ifYes X hx rfl rfl hd rfl z a b hr
    · cases h
  · split at h
    · obtain ⟨a, b, rfl, rfl⟩ := own_jp_ok h; exact XS.ifnullYes X hx rfl rfl hd rfl a b hr
    · cases h; exact XS.ifnullNo X hx rfl hd rfl hr
    · cases h
  · split at h
    · cases h; exact XT.ifnonnullNo X hx rfl hd rfl hr
    · obtain ⟨a, b, rfl, rfl⟩ := own_jp_ok h; exact XT.ifnonnullYes X hx rfl rfl hd rfl a b hr
    · cases h
  · split at h
    · cases h; exact XS.iadd X hx rfl hd rfl hr
    · cases h
  · split at h
    · cases h; exact XS.isub X hx rfl hd rfl hr
    · cases h
  · split at h
    · cases h; exact XS.imul X hx rfl hd rfl hr
    · cases h
  · split at h
    · cases h; exact XS.ineg X hx rfl hd rfl hr
    · cases h
  · split at h
    · cases h; exact own_i2d X hx rfl hd rfl hr
    · cases h
  · split at h
    · cases h; exact own_dneg X hx rfl hd rfl hr
    · cases h
  · split at h
    · cases h; exact own_dcmp X hx rfl hd rfl hr
    · cases h
  · split at h
    · cases h; exact XS.dup X hx rfl hd rfl rfl hr
    · cases h; exact XS.dup X hx rfl hd rfl rfl hr
    · cases h
  · split at h
    · cases h; exact XT.pop X hx rfl hd rfl rfl hr
    · cases h; exact XT.pop X hx rfl hd rfl rfl hr
    · cases h
  · cases h
def own_ex (tab : Nat → Option Instr) : Nat → Nat → List Slot → List Value → Option (Nat × List Slot × List Value)
  | 0, pc, L, S => some (pc, L, S)
  | n + 1, pc, L, S => match tab pc with
    | none => none
    | some i => match own_s1 i pc L S with
      | none => none
      | some (pc', L', S') => own_ex tab n pc' L' S'
theorem own_ex_ok {tb : Tables} [Ours tb] {e : Env} {below : List Frame} {T τ : State} {m : MethodId} {c : Code} (X : At T m c below) (hx : tb.exec = Jvm.exec) {code : ByteArray} (hby : c.code = code) {tab : Nat → Option Instr} (ht : own_Tab code tab) : ∀ (n : Nat) {pc pc' : Nat} {L L' : List Slot} {S S' : List Value}, own_ex tab n pc L S = some (pc', L', S') → Steps tb e below (T.setTop (mkF m pc' L'.toArray S')) τ → Steps tb e below (T.setTop (mkF m pc L.toArray S)) τ
  | 0, _, _, _, _, _, _, h, hr => by simp only [own_ex] at h; cases h; exact hr
  | n + 1, pc, _, L, _, S, _, h, hr => by
    simp only [own_ex] at h; split at h
    · cases h
    · rename_i i q; split at h
      · cases h
      · rename_i p1 L1 S1 q1; exact own_s1_ok X hx q1 (Jvm.hb hby (ht pc q)) (own_ex_ok X hx hby ht n h hr)
end OwnEx
section OwnShort
theorem own_up {a b c : Nat} (h : a < b) (q : b ≤ c) : a < c := Nat.lt_of_lt_of_le h q
theorem own_ltn {a b c : Nat} (h : a < b) (q : b ≤ c) : a ≠ c := Nat.ne_of_lt (Nat.lt_of_lt_of_le h q)
abbrev own_Met (l : Launch) (Z : State) (y : MethodName) (bytes : ByteArray) (ml : Nat) (ret : Option FieldType) (ws : List Jvm.Cond) (R : Room) (A : Array Value) (h0 : Heap) (Q : Option Value → Heap → List Loc → Prop) : Prop :=
  MetFree l y (head1 (Jvm.Cond.code y bytes ml ret :: ws) R) (fun α U => α = A ∧ Z.Warmed39 U.vm ∧ U.heap = h0) (fun _ _ _ _ _ => True) (fun _ U ω U' => ∃ ν Λ, ω = .returned ν ∧ Q ν U'.heap Λ ∧ FrameEnd U ω U' Λ R.cells R.slots)
def own_End (R : Room) (s : State) (below : List Frame) (PS : State → Prop) (Q : Option Value → Heap → List Loc → Prop) : Prop :=
  ∃ s₂ o, PS s₂ ∧ s₂.status = .running ∧ Ended s₂ below o ∧ ∃ ν Λ, o = .returned ν ∧ Q ν s₂.heap Λ ∧ FrameEnd s o s₂ Λ R.cells R.slots
theorem own_beg {l : Launch} {Z : State} {y : MethodName} {bytes : ByteArray} {ml : Nat} {ret : Option FieldType} {ws : List Jvm.Cond} {R : Room} {A : Array Value} {h0 : Heap} {Q : Option Value → Heap → List Loc → Prop} {L : Array Slot} (pl : plainFor y = true) (ef : ∀ m, entryFrame m A ml = mkF m 0 L [])
    (H : ∀ p e s m below meth c s₁, p.tables.exec = Jvm.exec → c.code = bytes → c.maxLocals = ml → s.vm.findClass y.cls = some m.cls → meth.name = y.name → meth.sig.returnType = ret → meth.locks = false → Z.Warmed39 s.vm → Stand p l e R s m A below meth c s₁ [] 0 0 → s₁.heap = h0 → ∀ PS : State → Prop, (∀ τ, Steps p.tables e below (s₁.setTop (mkF m 0 L [])) τ → PS τ) → own_End R s below PS Q) : own_Met l Z y bytes ml ret ws R A h0 Q := by
  refine MetFree.of_bodySF pl hisR ?_
  intro p e s m args below meth c s₁ Bd hml0 hP hK
  obtain ⟨rfl, hZ, hh⟩ := hP
  obtain ⟨s2, o, h1, h2, h3, h4⟩ := H p e s m below meth c s₁ Bd.exec Bd.bytes hml0 (findClass_of_methodNamed Bd.named) (name_of_methodNamed Bd.named Bd.method).1 Bd.returns Bd.notSynchronized hZ (Stand.of_body Bd) (by rw [← hh, Bd.state]; rfl) (fun τ => Steps p.tables e below (s₁.setTop (entryFrame m args ml)) τ) (fun τ κ => castTop (ef m) κ)
  exact ⟨s2, o, h1, h2, h3, h4⟩
variable {p : Program} {l : Launch} {e : Env} {R : Room} {s : State} {m : MethodId} {args : Array Value} {below : List Frame} {meth : Method} {c : Code} {T : State} {locs : List Loc} {cells slots : Nat} {Z : State} {h : Heap} {a : Addr} {k : ClassId} {z : Int32} {vs : List Value} {dv : Value} {a0 : Array Value} {PS : State → Prop} {Q : Option Value → Heap → List Loc → Prop} {pc : Nat} {L : Array Slot} {rest : List Value}
theorem own_retV (X : Stand p l e R s m args below meth c T locs cells slots) (hlk : meth.locks = false) (pre : ∀ τ, Steps p.tables e below (T.setTop (mkF m pc L [])) τ → PS τ) (hx : p.tables.exec = Jvm.exec) (hret : meth.sig.returnType = none) (hd : decode c.code pc = .ok (.return_, 1)) (hc : cells ≤ R.cells) (hs : slots ≤ R.slots) (eT : T.heap = h) (q : Q none h locs) : own_End R s below PS Q := by
  obtain ⟨fs, hrL, hrun, hended, hW, hsame⟩ := X.leave (v := none) (fun _ => rfl) hlk
  exact ⟨_, _, pre _ (X.returnOut hx hret hd hrL), hrun, hended, _, _, rfl, by subst eT; exact q, ⟨_, rfl⟩, hW, hsame.mono hc hs⟩
theorem own_retW {w : Value} {i : Instr} {t : FieldType} (X : Stand p l e R s m args below meth c T locs cells slots) (hlk : meth.locks = false) (pre : ∀ τ, Steps p.tables e below (T.setTop (mkF m pc L (w :: rest))) τ → PS τ) (hx : p.tables.exec = Jvm.exec) (hret : meth.sig.returnType = some t) (hn : narrow t w = w)
    (hi : (i = .ireturn ∧ (t = .int ∨ t = .boolean ∨ t = .byte ∨ t = .char ∨ t = .short) ∧ ∃ z, w = .int z) ∨ (i = .lreturn ∧ t = .long ∧ ∃ z, w = .long z) ∨ (i = .dreturn ∧ t = .double ∧ ∃ z, w = .double z) ∨ (i = .freturn ∧ t = .float ∧ ∃ z, w = .float z) ∨ (i = .areturn ∧ t.isReference = true ∧ w.isRef = true))
    (hd : decode c.code pc = .ok (i, 1)) (hc : cells ≤ R.cells) (hs : slots ≤ R.slots) (eT : T.heap = h) (q : Q (some w) h locs) : own_End R s below PS Q := by
  obtain ⟨fs, hrL, hrun, hended, hW, hsame⟩ := X.leave (v := some w) (fun h => by rw [hret] at h; cases h) hlk
  exact ⟨_, _, pre _ (retOut X hx hret hn hi hd hrL), hrun, hended, _, _, rfl, by subst eT; exact q, ⟨_, rfl⟩, hW, hsame.mono hc hs⟩
theorem own_retI {w : Int32} (X : Stand p l e R s m args below meth c T locs cells slots) (hlk : meth.locks = false) (pre : ∀ τ, Steps p.tables e below (T.setTop (mkF m pc L (.int w :: rest))) τ → PS τ) (hx : p.tables.exec = Jvm.exec) (hret : meth.sig.returnType = some .int) (hd : decode c.code pc = .ok (.ireturn, 1)) (hc : cells ≤ R.cells) (hs : slots ≤ R.slots) (eT : T.heap = h) (q : Q (some (.int w)) h locs) : own_End R s below PS Q :=
  own_retW X hlk pre hx hret rfl (Or.inl ⟨rfl, Or.inl rfl, w, rfl⟩) hd hc hs eT q
theorem own_retZ {w : Int32} (X : Stand p l e R s m args below meth c T locs cells slots) (hlk : meth.locks = false) (pre : ∀ τ, Steps p.tables e below (T.setTop (mkF m pc L (.int w :: rest))) τ → PS τ) (hx : p.tables.exec = Jvm.exec) (hret : meth.sig.returnType = some .boolean) (hn : narrow .boolean (.int w) = .int w) (hd : decode c.code pc = .ok (.ireturn, 1)) (hc : cells ≤ R.cells) (hs : slots ≤ R.slots) (eT : T.heap = h) (q : Q (some (.int w)) h locs) : own_End R s below PS Q :=
  own_retW X hlk pre hx hret hn (Or.inl ⟨rfl, Or.inr (Or.inl rfl), w, rfl⟩) hd hc hs eT q
theorem own_retDb {w : UInt64} (X : Stand p l e R s m args below meth c T locs cells slots) (hlk : meth.locks = false) (pre : ∀ τ, Steps p.tables e below (T.setTop (mkF m pc L (.double w :: rest))) τ → PS τ) (hx : p.tables.exec = Jvm.exec) (hret : meth.sig.returnType = some .double) (hd : decode c.code pc = .ok (.dreturn, 1)) (hc : cells ≤ R.cells) (hs : slots ≤ R.slots) (eT : T.heap = h) (q : Q (some (.double w)) h locs) : own_End R s below PS Q :=
  own_retW X hlk pre hx hret rfl (Or.inr (Or.inr (Or.inl ⟨rfl, rfl, w, rfl⟩))) hd hc hs eT q
theorem own_retA {t : FieldType} (X : Stand p l e R s m args below meth c T locs cells slots) (hlk : meth.locks = false) (pre : ∀ τ, Steps p.tables e below (T.setTop (mkF m pc L (.ref a :: rest))) τ → PS τ) (hx : p.tables.exec = Jvm.exec) (hret : meth.sig.returnType = some t) (hn : narrow t (.ref a) = .ref a) (ht : t.isReference = true) (hd : decode c.code pc = .ok (.areturn, 1)) (hc : cells ≤ R.cells) (hs : slots ≤ R.slots) (eT : T.heap = h) (q : Q (some (.ref a)) h locs) : own_End R s below PS Q :=
  own_retW X hlk pre hx hret hn (Or.inr (Or.inr (Or.inr (Or.inr ⟨rfl, ht, rfl⟩)))) hd hc hs eT q
variable {g : JFrame} {τ : State}
theorem own_dal (X : Stand p l e R s m args below meth c T locs cells slots) (hx : p.tables.exec = Jvm.exec) (hZ : Z.Warmed39 s.vm) (eT : T.heap = h) (F : Arv Z h a k .double z vs dv) {j : Int32} {v : Value} (hg : g.method = m) (hs : g.stack = .int j :: .ref a :: rest) (hd : decode c.code g.pc = .ok (.daload, 1)) (hj : ¬ j < 0 ∧ j < z) (hv : vs.getD j.toNatClampNeg dv = v)
    (hr : Steps p.tables e below (T.setTop { g with pc := g.pc + 1, stack := v :: rest }) τ) : Steps p.tables e below (T.setTop g) τ := by
  obtain ⟨cl, Ar, q, S, M, H, U⟩ := F
  exact X.daload hx (by rw [eT]; exact Ar.1) (State.isArrayOf_alike hZ.alike Ar.2.1) Ar.2.2 (inb_of S hj) (H.at (inb_of S hj) hv) hg hs hd _ hr
theorem own_ial (X : Stand p l e R s m args below meth c T locs cells slots) (hx : p.tables.exec = Jvm.exec) (hZ : Z.Warmed39 s.vm) (eT : T.heap = h) (F : Arv Z h a k .int z vs dv) {j : Int32} {v : Value} (hg : g.method = m) (hs : g.stack = .int j :: .ref a :: rest) (hd : decode c.code g.pc = .ok (.iaload, 1)) (hj : ¬ j < 0 ∧ j < z) (hv : vs.getD j.toNatClampNeg dv = v)
    (hr : Steps p.tables e below (T.setTop { g with pc := g.pc + 1, stack := v :: rest }) τ) : Steps p.tables e below (T.setTop g) τ := by
  obtain ⟨cl, Ar, q, S, M, H, U⟩ := F
  exact X.iaload hx (by rw [eT]; exact Ar.1) (State.isArrayOf_alike hZ.alike Ar.2.1) Ar.2.2 (inb_of S hj) (H.at (inb_of S hj) hv) hg hs hd _ hr
theorem own_aal {ty : FieldType} (X : Stand p l e R s m args below meth c T locs cells slots) (hx : p.tables.exec = Jvm.exec) (hZ : Z.Warmed39 s.vm) (eT : T.heap = h) (F : Arv Z h a k ty z vs dv) {j : Int32} {v : Value} (hg : g.method = m) (hs : g.stack = .int j :: .ref a :: rest) (hd : decode c.code g.pc = .ok (.aaload, 1)) (hj : ¬ j < 0 ∧ j < z) (hv : vs.getD j.toNatClampNeg dv = v) (ht : ty.isReference = true)
    (hr : Steps p.tables e below (T.setTop { g with pc := g.pc + 1, stack := v :: rest }) τ) : Steps p.tables e below (T.setTop g) τ := by
  obtain ⟨cl, Ar, q, S, M, H, U⟩ := F
  exact X.aaload hx (by rw [eT]; exact Ar.1) (State.isArrayOf_alike hZ.alike Ar.2.1) ht Ar.2.2 (inb_of S hj) (H.at (inb_of S hj) hv) hg hs hd _ hr
theorem own_len {ty : FieldType} (X : Stand p l e R s m args below meth c T locs cells slots) (hx : p.tables.exec = Jvm.exec) (hZ : Z.Warmed39 s.vm) (eT : T.heap = h) (F : Arv Z h a k ty z vs dv) (hg : g.method = m) (hs : g.stack = .ref a :: rest) (hd : decode c.code g.pc = .ok (.arraylength, 1))
    (hr : Steps p.tables e below (T.setTop { g with pc := g.pc + 1, stack := .int z :: rest }) τ) : Steps p.tables e below (T.setTop g) τ := by
  obtain ⟨cl, Ar, q, S, M, H, U⟩ := F
  exact X.arraylength hx (by rw [eT]; exact Ar.1) (State.isArrayOf_alike hZ.alike Ar.2.1) hg hs hd _ (by rw [len_of S M]; exact hr)
theorem own_nmD {tb : Tables} {x y : UInt64} (q : x = y) (hs : g.stack = .double x :: rest) (hr : Steps tb e below (T.setTop { g with stack := .double y :: rest }) τ) : Steps tb e below (T.setTop g) τ := by
  subst q; rw [← hs] at hr; exact hr
theorem own_nmI {tb : Tables} {x y : Int32} (q : x = y) (hs : g.stack = .int x :: rest) (hr : Steps tb e below (T.setTop { g with stack := .int y :: rest }) τ) : Steps tb e below (T.setTop g) τ := by
  subst q; rw [← hs] at hr; exact hr
theorem own_getK (pre : ∀ τ, Steps p.tables e below (T.setTop g) τ → PS τ) (X : Stand p l e R s m args below meth c T locs cells slots) (hx : p.tables.exec = Jvm.exec) (hZ : Z.Warmed39 s.vm) {own R0 O n d : String} {index : Nat} (hown : s.vm.findClass own = some m.cls) (w : (Jvm.Cond.fieldLink own index R0 n d).before a0 Z = true) (via : Via Z R0 O n d) (eT : T.heap = h) {v : Value} (F : Fld Z h a O n d v) (hg : g.method = m) (hs : g.stack = .ref a :: rest) (hd : decode c.code g.pc = .ok (.getfield index, 3)) :
    ∃ T', Stand p l e R s m args below meth c T' locs cells slots ∧ T'.heap = h ∧ ∀ τ, Steps p.tables e below (T'.setTop { g with pc := g.pc + 3, stack := v :: rest }) τ → PS τ := by
  obtain ⟨T', X', e', st⟩ := getF (host := "") X hx hZ hown (Or.inl w) via eT F hg hs hd
  exact ⟨T', X', e', fun τ κ => pre τ (st τ κ)⟩
theorem own_getN (pre : ∀ τ, Steps p.tables e below (T.setTop g) τ → PS τ) (X : Stand p l e R s m args below meth c T locs cells slots) (hx : p.tables.exec = Jvm.exec) (hZ : Z.Warmed39 s.vm) {own R0 O n d host : String} {index : Nat} (hown : s.vm.findClass own = some m.cls) (w : (Jvm.Cond.fieldLinkNest own index R0 n d host).before a0 Z = true) (via : Via Z R0 O n d) (eT : T.heap = h) {v : Value} (F : Fld Z h a O n d v) (hg : g.method = m) (hs : g.stack = .ref a :: rest) (hd : decode c.code g.pc = .ok (.getfield index, 3)) :
    ∃ T', Stand p l e R s m args below meth c T' locs cells slots ∧ T'.heap = h ∧ ∀ τ, Steps p.tables e below (T'.setTop { g with pc := g.pc + 3, stack := v :: rest }) τ → PS τ := by
  obtain ⟨T', X', e', st⟩ := getF X hx hZ hown (Or.inr w) via eT F hg hs hd
  exact ⟨T', X', e', fun τ κ => pre τ (st τ κ)⟩
theorem own_getS (pre : ∀ τ, Steps p.tables e below (T.setTop g) τ → PS τ) (X : Stand p l e R s m args below meth c T locs cells slots) (hx : p.tables.exec = Jvm.exec) (hZ : Z.Warmed39 s.vm) {own O n d : String} {index : Nat} (hown : s.vm.findClass own = some m.cls) (w : (Jvm.Cond.fieldRef own index O n d).before a0 Z = true) (eT : T.heap = h) {v : Value} (F : Fld Z h a O n d v) (hg : g.method = m) (hs : g.stack = .ref a :: rest) (hd : decode c.code g.pc = .ok (.getfield index, 3)) :
    ∃ T', Stand p l e R s m args below meth c T' locs cells slots ∧ T'.heap = h ∧ ∀ τ, Steps p.tables e below (T'.setTop { g with pc := g.pc + 3, stack := v :: rest }) τ → PS τ := by
  obtain ⟨T', X', e', st⟩ := own_getR X hx hZ hown w eT F hg hs hd
  exact ⟨T', X', e', fun τ κ => pre τ (st τ κ)⟩
theorem own_dstK (pre : ∀ τ, Steps p.tables e below (T.setTop g) τ → PS τ) (X : Stand p l e R s m args below meth c T locs cells slots) (hx : p.tables.exec = Jvm.exec) (hZ : Z.Warmed39 s.vm) (eT : T.heap = h) (F : Arv Z h a k .double z vs dv) {j : Int32} {x : UInt64} (hg : g.method = m) (hs : g.stack = .double x :: .int j :: .ref a :: rest) (hd : decode c.code g.pc = .ok (.dastore, 1)) (hj : ¬ j < 0 ∧ j < z) (i : Nat) (hi : j.toNatClampNeg = i) (hl : i < vs.length) :
    ∃ T' h', Stand p l e R s m args below meth c T' (locs ++ [⟨a, j.toNatClampNeg⟩]) cells slots ∧ T'.heap = h' ∧ Wr h h' a j.toNatClampNeg (.double x) ∧ Arv Z h' a k .double z (vs.set i (.double x)) dv ∧ ∀ τ, Steps p.tables e below (T'.setTop { g with pc := g.pc + 1, stack := rest }) τ → PS τ := by
  obtain ⟨cl, Ar, q, S, M, H, U⟩ := F
  obtain ⟨T', h', X', e', W, st⟩ := own_stD X hx hZ eT Ar (inb_of S hj) hg hs hd
  exact ⟨T', h', X', e', W, Arv.set Ar q S M H U rfl W i hi hl, fun τ κ => pre τ (st τ κ)⟩
theorem own_istK (pre : ∀ τ, Steps p.tables e below (T.setTop g) τ → PS τ) (X : Stand p l e R s m args below meth c T locs cells slots) (hx : p.tables.exec = Jvm.exec) (hZ : Z.Warmed39 s.vm) (eT : T.heap = h) (F : Arv Z h a k .int z vs dv) {j x : Int32} (hg : g.method = m) (hs : g.stack = .int x :: .int j :: .ref a :: rest) (hd : decode c.code g.pc = .ok (.iastore, 1)) (hj : ¬ j < 0 ∧ j < z) (i : Nat) (hi : j.toNatClampNeg = i) (hl : i < vs.length) :
    ∃ T' h', Stand p l e R s m args below meth c T' (locs ++ [⟨a, j.toNatClampNeg⟩]) cells slots ∧ T'.heap = h' ∧ Wr h h' a j.toNatClampNeg (.int x) ∧ Arv Z h' a k .int z (vs.set i (.int x)) dv ∧ ∀ τ, Steps p.tables e below (T'.setTop { g with pc := g.pc + 1, stack := rest }) τ → PS τ := by
  obtain ⟨cl, Ar, q, S, M, H, U⟩ := F
  obtain ⟨T', h', X', e', W, st⟩ := stI X hx hZ eT Ar (inb_of S hj) hg hs hd
  exact ⟨T', h', X', e', W, Arv.set Ar q S M H U rfl W i hi hl, fun τ κ => pre τ (st τ κ)⟩
theorem own_putK (pre : ∀ τ, Steps p.tables e below (T.setTop g) τ → PS τ) (X : Stand p l e R s m args below meth c T locs cells slots) (hx : p.tables.exec = Jvm.exec) (hZ : Z.Warmed39 s.vm) {own R0 O n d C : String} {index kk : Nat} (hown : s.vm.findClass own = some m.cls) (w : (Jvm.Cond.fieldLink own index R0 n d).before a0 Z = true) (via : Via Z R0 O n d) (eT : T.heap = h) {v old : Value} (F : Fld Z h a O n d old) (E : Exa Z h a C) (Ly : (Jvm.Cond.lays C O n d).before a0 Z = true ∨ ((Jvm.Cond.laysFinal C O n d).before a0 Z = true ∧ own = O ∧ meth.name = "<init>")) (wi : (Jvm.Cond.instantiable C kk).before a0 Z = true) (ty : FieldType) (hty : parseFieldDescriptor d = some ty) (hn : narrow ty v = v) (hf : fits ty v = true) (hg : g.method = m) (hs : g.stack = v :: .ref a :: rest) (hd : decode c.code g.pc = .ok (.putfield index, 3)) :
    ∃ T' h', Stand p l e R s m args below meth c T' (locs ++ [⟨a, Jvm.RoadKit.slotOf Z O n d⟩]) cells slots ∧ T'.heap = h' ∧ Wr h h' a (Jvm.RoadKit.slotOf Z O n d) v ∧ Fld Z h' a O n d v ∧ ∀ τ, Steps p.tables e below (T'.setTop { g with pc := g.pc + 3, stack := rest }) τ → PS τ := by
  obtain ⟨T', h', X', e', W, st⟩ := putF (host := "") X hx hZ hown (Or.inl w) via eT F E Ly wi hty hn hf hg hs hd
  exact ⟨T', h', X', e', W, Fld.same W F, fun τ κ => pre τ (st τ κ)⟩
theorem own_absR {own : String} {index W : Nat} (pre : ∀ τ, Steps p.tables e below (T.setTop g) τ → PS τ) (X : Stand p l e R s m args below meth c T locs cells slots) (hx : p.tables.exec = Jvm.exec) (hZ : Z.Warmed39 s.vm) (hown : s.vm.findClass own = some m.cls) (w1 : (Jvm.Cond.methodLink own index ⟨"java/lang/Math", "abs", "(D)D"⟩).before a0 Z = true) (w2 : (Jvm.Cond.static ⟨"java/lang/Math", "abs", "(D)D"⟩).before a0 Z = true) (w3 : (Jvm.Cond.initialized "java/lang/Math").before a0 Z = true) (w4 : (Jvm.Cond.code ⟨"java/lang/Math", "abs", "(D)D"⟩ Jvm.Free.Fl.Abs.absDCode 2 (some .double)).before a0 Z = true)
    (eT : T.heap = h) {x : UInt64} (hn : Jvm.Free.Fl.NoNaN64 x) (hg : g.method = m) (hsz : g.locals.size = c.maxLocals) (hs : g.stack = .double x :: rest) (hW : 2 * g.monitorRoom + (rest.map fun v => v.category).sum ≤ W) (hd : decode c.code g.pc = .ok (.invokestatic index, 3)) (hf : 1 ≤ R.frames) (hl : W + 13 ≤ R.locals) (hc : cells ≤ R.cells) (hsl : slots ≤ R.slots) :
    ∃ T', Stand p l e R s m args below meth c T' locs cells slots ∧ T'.heap = h ∧ ∀ τ, Steps p.tables e below (T'.setTop { g with pc := g.pc + 3, stack := .double (x &&& 9223372036854775807) :: rest }) τ → PS τ := by
  obtain ⟨_, vm', _, -, X', ⟨rfl, rfl⟩, st⟩ := Jvm.LawKit.callS X hx (y := ⟨"java/lang/Math", "abs", "(D)D"⟩) hown (mvT hZ w1) (mvT hZ w2) (mvT hZ w3) (mvT hZ w4) (by decide) (Jvm.Free.Fl.Abs.absD_pays (W := W) x (mvT hZ w4) hf hl) hg hsz (argsL := [.double x]) (rest := rest) (lenOf own_pd__D_D rfl) hs hW hd (fun _ _ => ⟨hc, hsl, rfl, hn⟩)
  exact ⟨_, X', eT, fun τ κ => pre τ (st τ κ)⟩
theorem own_maxR {own : String} {index W : Nat} (pre : ∀ τ, Steps p.tables e below (T.setTop g) τ → PS τ) (X : Stand p l e R s m args below meth c T locs cells slots) (hx : p.tables.exec = Jvm.exec) (hZ : Z.Warmed39 s.vm) (hown : s.vm.findClass own = some m.cls) (w1 : (Jvm.Cond.methodLink own index ⟨"java/lang/Math", "max", "(DD)D"⟩).before a0 Z = true) (w2 : (Jvm.Cond.static ⟨"java/lang/Math", "max", "(DD)D"⟩).before a0 Z = true) (w3 : (Jvm.Cond.initialized "java/lang/Math").before a0 Z = true) (w4 : (Jvm.Cond.code ⟨"java/lang/Math", "max", "(DD)D"⟩ Jvm.Free.Fl.Abs.maxDCode 4 (some .double)).before a0 Z = true)
    (eT : T.heap = h) {x y : UInt64} (hn : Jvm.Free.Fl.NoNaN64 x) (hn2 : Jvm.Free.Fl.NoNaN64 y) (hg : g.method = m) (hsz : g.locals.size = c.maxLocals) (hs : g.stack = .double y :: .double x :: rest) (hW : 2 * g.monitorRoom + (rest.map fun v => v.category).sum ≤ W) (hd : decode c.code g.pc = .ok (.invokestatic index, 3)) (hf : 1 ≤ R.frames) (hl : W + 15 ≤ R.locals) (hc : cells ≤ R.cells) (hsl : slots ≤ R.slots) :
    ∃ T', Stand p l e R s m args below meth c T' locs cells slots ∧ T'.heap = h ∧ ∀ τ, Steps p.tables e below (T'.setTop { g with pc := g.pc + 3, stack := .double (Native.java_lang_Math.nans.pick64 true x y) :: rest }) τ → PS τ := by
  obtain ⟨_, vm', _, -, X', ⟨rfl, rfl⟩, st⟩ := Jvm.LawKit.callS X hx (y := ⟨"java/lang/Math", "max", "(DD)D"⟩) hown (mvT hZ w1) (mvT hZ w2) (mvT hZ w3) (mvT hZ w4) (by decide) (Jvm.Free.Fl.Abs.maxD_pays (W := W) x y (mvT hZ w4) hf hl) hg hsz (argsL := [.double x, .double y]) (rest := rest) (lenOf own_pd__DD_D rfl) hs hW hd (fun _ _ => ⟨hc, hsl, rfl, hn, hn2⟩)
  exact ⟨_, X', eT, fun τ κ => pre τ (st τ κ)⟩
theorem own_mv {c : Code} {code : ByteArray} (h : c.code = code) {tab : Nat → Option Instr} (ht : own_Tab code tab) : own_Tab c.code tab := fun pc _ q => Jvm.hb h (ht pc q)
theorem own_fo {Z : State} {h h' : Heap} {a : Addr} {K O n d O' n' d' : String} {v w : Value} {a0 : Array Value} (L1 : Laid Z a0 K O n d) (L2 : Laid Z a0 K O' n' d') (W : Wr h h' a (Jvm.RoadKit.slotOf Z O' n' d') v) (F : Fld Z h a O n d w) (hn : n ≠ n' := by decide) (h1 : (parseFieldDescriptor d).isSome = true := by decide) (h2 : (parseFieldDescriptor d').isSome = true := by decide) : Fld Z h' a O n d w := by
  obtain ⟨t, e1⟩ := Option.isSome_iff_exists.mp h1; obtain ⟨t', e2⟩ := Option.isSome_iff_exists.mp h2
  exact F.other W (Or.inr (slot_ne L1 L2 hn e1 e2))
end OwnShort
section OwnShort2
variable {p : Program} {l : Launch} {e : Env} {R : Room} {s : State} {m : MethodId} {args : Array Value} {below : List Frame} {meth : Method} {c : Code} {T : State} {locs : List Loc} {cells slots : Nat} {Z : State} {h : Heap} {a : Addr} {k : ClassId} {z : Int32} {vs : List Value} {dv : Value} {a0 : Array Value} {PS : State → Prop} {pc : Nat} {L : Array Slot} {rest : List Value} {g : JFrame} {tab : Nat → Option Instr}
theorem rP (n pc' : Nat) (L' : List Slot) (S' : List Value) {S : List Value} {L : List Slot} (pre : ∀ τ, Steps p.tables e below (T.setTop (mkF m pc L.toArray S)) τ → PS τ) (X : Stand p l e R s m args below meth c T locs cells slots) (hx : p.tables.exec = Jvm.exec) (D : own_Tab c.code tab) (h : own_ex tab n pc L S = some (pc', L', S')) : ∀ τ, Steps p.tables e below (T.setTop (mkF m pc' L'.toArray S')) τ → PS τ := fun _ q => pre _ (own_ex_ok X.here hx rfl D n h q)
theorem dP (pre : ∀ τ, Steps p.tables e below (T.setTop g) τ → PS τ) (X : Stand p l e R s m args below meth c T locs cells slots) (hx : p.tables.exec = Jvm.exec) (hZ : Z.Warmed39 s.vm) (eT : T.heap = h) (F : Arv Z h a k .double z vs dv) (D : own_Tab c.code tab) {j : Int32} {v : Value} (hs : g.stack = .int j :: .ref a :: rest := by rfl) (hd : tab g.pc = some .daload := by rfl) (hg : g.method = m := by rfl) (hj : ¬ j < 0 ∧ j < z := by decide) (hv : vs.getD j.toNatClampNeg dv = v := by rfl) : ∀ τ, Steps p.tables e below (T.setTop { g with pc := g.pc + 1, stack := v :: rest }) τ → PS τ := fun _ q => pre _ (own_dal X hx hZ eT F hg hs (D _ hd) hj hv q)
theorem iP (pre : ∀ τ, Steps p.tables e below (T.setTop g) τ → PS τ) (X : Stand p l e R s m args below meth c T locs cells slots) (hx : p.tables.exec = Jvm.exec) (hZ : Z.Warmed39 s.vm) (eT : T.heap = h) (F : Arv Z h a k .int z vs dv) (D : own_Tab c.code tab) {j : Int32} {v : Value} (hs : g.stack = .int j :: .ref a :: rest := by rfl) (hd : tab g.pc = some .iaload := by rfl) (hg : g.method = m := by rfl) (hj : ¬ j < 0 ∧ j < z := by decide) (hv : vs.getD j.toNatClampNeg dv = v := by rfl) : ∀ τ, Steps p.tables e below (T.setTop { g with pc := g.pc + 1, stack := v :: rest }) τ → PS τ := fun _ q => pre _ (own_ial X hx hZ eT F hg hs (D _ hd) hj hv q)
theorem aP {ty : FieldType} (pre : ∀ τ, Steps p.tables e below (T.setTop g) τ → PS τ) (X : Stand p l e R s m args below meth c T locs cells slots) (hx : p.tables.exec = Jvm.exec) (hZ : Z.Warmed39 s.vm) (eT : T.heap = h) (F : Arv Z h a k ty z vs dv) (D : own_Tab c.code tab) {j : Int32} {v : Value} (hs : g.stack = .int j :: .ref a :: rest := by rfl) (hd : tab g.pc = some .aaload := by rfl) (hg : g.method = m := by rfl) (hj : ¬ j < 0 ∧ j < z := by decide) (hv : vs.getD j.toNatClampNeg dv = v := by rfl) (ht : ty.isReference = true := by rfl) : ∀ τ, Steps p.tables e below (T.setTop { g with pc := g.pc + 1, stack := v :: rest }) τ → PS τ := fun _ q => pre _ (own_aal X hx hZ eT F hg hs (D _ hd) hj hv ht q)
theorem lP {ty : FieldType} (pre : ∀ τ, Steps p.tables e below (T.setTop g) τ → PS τ) (X : Stand p l e R s m args below meth c T locs cells slots) (hx : p.tables.exec = Jvm.exec) (hZ : Z.Warmed39 s.vm) (eT : T.heap = h) (F : Arv Z h a k ty z vs dv) (D : own_Tab c.code tab) (hs : g.stack = .ref a :: rest := by rfl) (hd : tab g.pc = some .arraylength := by rfl) (hg : g.method = m := by rfl) : ∀ τ, Steps p.tables e below (T.setTop { g with pc := g.pc + 1, stack := .int z :: rest }) τ → PS τ := fun _ q => pre _ (own_len X hx hZ eT F hg hs (D _ hd) q)
theorem nD {x y : UInt64} (pre : ∀ τ, Steps p.tables e below (T.setTop g) τ → PS τ) (q : x = y) (hs : g.stack = .double x :: rest := by rfl) : ∀ τ, Steps p.tables e below (T.setTop { g with stack := .double y :: rest }) τ → PS τ := fun _ r => pre _ (own_nmD q hs r)
theorem nI {x y : Int32} (pre : ∀ τ, Steps p.tables e below (T.setTop g) τ → PS τ) (q : x = y) (hs : g.stack = .int x :: rest := by rfl) : ∀ τ, Steps p.tables e below (T.setTop { g with stack := .int y :: rest }) τ → PS τ := fun _ r => pre _ (own_nmI q hs r)
theorem own_daddP {x y : UInt64} (pre : ∀ τ, Steps p.tables e below (T.setTop g) τ → PS τ) (X : Stand p l e R s m args below meth c T locs cells slots) (hx : p.tables.exec = Jvm.exec) (D : own_Tab c.code tab) (hn : Jvm.Free.Fl.NoNaN64 (FP.dadd x y)) (hs : g.stack = .double y :: .double x :: rest := by rfl) (hd : tab g.pc = some .dadd := by rfl) (hg : g.method = m := by rfl) : ∀ τ, Steps p.tables e below (T.setTop { g with pc := g.pc + 1, stack := .double (FP.dadd x y) :: rest }) τ → PS τ := fun _ q => pre _ (own_dadd X.here hx hg (D _ hd) hs hn q)
theorem own_dsubP {x y : UInt64} (pre : ∀ τ, Steps p.tables e below (T.setTop g) τ → PS τ) (X : Stand p l e R s m args below meth c T locs cells slots) (hx : p.tables.exec = Jvm.exec) (D : own_Tab c.code tab) (hn : Jvm.Free.Fl.NoNaN64 (FP.dsub x y)) (hs : g.stack = .double y :: .double x :: rest := by rfl) (hd : tab g.pc = some .dsub := by rfl) (hg : g.method = m := by rfl) : ∀ τ, Steps p.tables e below (T.setTop { g with pc := g.pc + 1, stack := .double (FP.dsub x y) :: rest }) τ → PS τ := fun _ q => pre _ (own_dsub X.here hx hg (D _ hd) hs hn q)
theorem own_dmulP {x y : UInt64} (pre : ∀ τ, Steps p.tables e below (T.setTop g) τ → PS τ) (X : Stand p l e R s m args below meth c T locs cells slots) (hx : p.tables.exec = Jvm.exec) (D : own_Tab c.code tab) (hn : Jvm.Free.Fl.NoNaN64 (FP.dmul x y)) (hs : g.stack = .double y :: .double x :: rest := by rfl) (hd : tab g.pc = some .dmul := by rfl) (hg : g.method = m := by rfl) : ∀ τ, Steps p.tables e below (T.setTop { g with pc := g.pc + 1, stack := .double (FP.dmul x y) :: rest }) τ → PS τ := fun _ q => pre _ (own_dmul X.here hx hg (D _ hd) hs hn q)
theorem own_ddivP {x y : UInt64} (pre : ∀ τ, Steps p.tables e below (T.setTop g) τ → PS τ) (X : Stand p l e R s m args below meth c T locs cells slots) (hx : p.tables.exec = Jvm.exec) (D : own_Tab c.code tab) (hn : Jvm.Free.Fl.NoNaN64 (FP.ddiv x y)) (hs : g.stack = .double y :: .double x :: rest := by rfl) (hd : tab g.pc = some .ddiv := by rfl) (hg : g.method = m := by rfl) : ∀ τ, Steps p.tables e below (T.setTop { g with pc := g.pc + 1, stack := .double (FP.ddiv x y) :: rest }) τ → PS τ := fun _ q => pre _ (own_ddiv X.here hx hg (D _ hd) hs hn q)
theorem gP {v : Value} (pre : ∀ τ, Steps p.tables e below (T.setTop g) τ → PS τ) (X : Stand p l e R s m args below meth c T locs cells slots) (hx : p.tables.exec = Jvm.exec) (hZ : Z.Warmed39 s.vm) {own O n d : String} {index : Nat} (hown : s.vm.findClass own = some m.cls) (w : (Jvm.Cond.fieldLink own index O n d).before a0 Z = true) (eT : T.heap = h) (F : Fld Z h a O n d v) (D : own_Tab c.code tab) (hs : g.stack = .ref a :: rest := by rfl) (hd : tab g.pc = some (.getfield index) := by rfl) (hg : g.method = m := by rfl) : ∃ T', Stand p l e R s m args below meth c T' locs cells slots ∧ T'.heap = h ∧ ∀ τ, Steps p.tables e below (T'.setTop { g with pc := g.pc + 3, stack := v :: rest }) τ → PS τ := own_getK pre X hx hZ hown w Via.refl eT F hg hs (D _ hd)
theorem own_begS {y : MethodName} {bytes : ByteArray} {ml : Nat} {ret : Option FieldType} {ws : List Jvm.Cond} {A : Array Value} {Q : Option Value → Heap → List Loc → Prop} (o : String) (n0 : Nat) (us : List Addr) (L : Array Slot) (t : own_Tab bytes tab) (pl : plainFor y = true)
    (H : ∀ p e s m below meth c s₁, p.tables.exec = Jvm.exec → own_Tab c.code tab → c.maxLocals = ml → s.vm.findClass o = some m.cls → meth.name = y.name → meth.sig.returnType = ret → meth.locks = false → Z.Warmed39 s.vm → Stand p l e R s m A below meth c s₁ [] 0 0 → s₁.heap = h → ∀ PS : State → Prop, (∀ τ, Steps p.tables e below (s₁.setTop (mkF m 0 L [])) τ → PS τ) → Fr n0 [] → Keep h h us → own_End R s below PS Q)
    (ho : y.cls = o := by rfl) (ef : ∀ m, entryFrame m A ml = mkF m 0 L [] := by intro m; rfl) : own_Met l Z y bytes ml ret ws R A h Q :=
  own_beg pl ef fun p e s m below meth c s₁ a1 a2 a3 a4 a5 a6 a7 a8 a9 a10 PS a11 => H p e s m below meth c s₁ a1 (own_mv a2 t) a3 (ho ▸ a4) a5 a6 a7 a8 a9 a10 PS a11 (Fr.nil n0) (Keep.refl h us)
end OwnShort2
section OwnShort3
variable {p : Program} {l : Launch} {e : Env} {R : Room} {s : State} {m : MethodId} {args : Array Value} {below : List Frame} {meth : Method} {c : Code} {T : State} {locs : List Loc} {cells slots : Nat} {Z : State} {h : Heap} {a0 : Array Value} {PS : State → Prop} {g : JFrame} {tab : Nat → Option Instr} {own C : String} {index count maxL : Nat} {xi y : MethodName} {bytes : ByteArray} {ret r : Option FieldType} {ps : List FieldType} {rm : Room} {as' : Array Value} {Q : Option Value → Heap → List Loc → Prop} {b : Addr}
def own_VP (a0 : Array Value) (Z : State) (own : String) (index : Nat) (y : MethodName) (bytes : ByteArray) (maxL : Nat) (ret : Option FieldType) (ps : List FieldType) (r : Option FieldType) : Prop := ((Jvm.Cond.methodLink own index y).before a0 Z = true ∨ (Jvm.Cond.methodRef own index y).before a0 Z = true) ∧ (Jvm.Cond.privateMethod y).before a0 Z = true ∧ (∃ kk, (Jvm.Cond.instantiable y.cls kk).before a0 Z = true) ∧ (Jvm.Cond.instanceMethod y).before a0 Z = true ∧ (y.cls ≠ "java/lang/invoke/MethodHandle" ∧ y.cls ≠ "java/lang/invoke/VarHandle") ∧ (Jvm.Cond.code y bytes maxL ret).before a0 Z = true ∧ (Jvm.Cond.initialized y.cls).before a0 Z = true ∧ parseMethodDescriptor y.desc = some ⟨ps, r⟩
def own_VF (a0 : Array Value) (Z : State) (own C : String) (index : Nat) (xi y : MethodName) (bytes : ByteArray) (maxL : Nat) (ret : Option FieldType) (ps : List FieldType) (r : Option FieldType) : Prop := (Jvm.Cond.methodLink own index xi).before a0 Z = true ∧ (Jvm.Cond.declares xi).before a0 Z = true ∧ (Jvm.Cond.interfaceMethod xi.cls xi.cls xi.name xi.desc).before a0 Z = true ∧ ((Jvm.Cond.interfaceMethod xi.cls xi.cls xi.name xi.desc).onTables && (Jvm.Cond.interfaceMethod xi.cls xi.cls xi.name xi.desc).keepsFace) = true ∧ (Jvm.Cond.selects C xi y).before a0 Z = true ∧ (Jvm.Cond.instanceMethod y).before a0 Z = true ∧ (Jvm.Cond.publicMethod y).before a0 Z = true ∧ (Jvm.Cond.unhidden C xi.name xi.desc).before a0 Z = true ∧ (Jvm.Cond.castable C xi.cls).before a0 Z = true ∧ (xi.cls ≠ "java/lang/invoke/MethodHandle" ∧ xi.cls ≠ "java/lang/invoke/VarHandle") ∧ (Jvm.Cond.code y bytes maxL ret).before a0 Z = true ∧ (Jvm.Cond.initialized y.cls).before a0 Z = true ∧ parseMethodDescriptor xi.desc = some ⟨ps, r⟩
def own_VS (a0 : Array Value) (Z : State) (own : String) (index : Nat) (y : MethodName) (bytes : ByteArray) (maxL : Nat) (ret : Option FieldType) (ps : List FieldType) (r : Option FieldType) : Prop := (Jvm.Cond.methodLink own index y).before a0 Z = true ∧ (Jvm.Cond.static y).before a0 Z = true ∧ (y.cls ≠ "java/lang/invoke/MethodHandle" ∧ y.cls ≠ "java/lang/invoke/VarHandle") ∧ (Jvm.Cond.code y bytes maxL ret).before a0 Z = true ∧ (Jvm.Cond.initialized y.cls).before a0 Z = true ∧ parseMethodDescriptor y.desc = some ⟨ps, r⟩
def own_VV (a0 : Array Value) (Z : State) (own C : String) (index : Nat) (y : MethodName) (bytes : ByteArray) (maxL : Nat) (ret : Option FieldType) (ps : List FieldType) (r : Option FieldType) : Prop := (Jvm.Cond.methodLink own index y).before a0 Z = true ∧ (Jvm.Cond.declares y).before a0 Z = true ∧ (Jvm.Cond.selects C y y).before a0 Z = true ∧ (Jvm.Cond.instanceMethod y).before a0 Z = true ∧ (y.cls ≠ "java/lang/invoke/MethodHandle" ∧ y.cls ≠ "java/lang/invoke/VarHandle") ∧ (Jvm.Cond.code y bytes maxL ret).before a0 Z = true ∧ (Jvm.Cond.initialized y.cls).before a0 Z = true ∧ parseMethodDescriptor y.desc = some ⟨ps, r⟩
theorem own_mkP (w0 : ((Jvm.Cond.methodLink own index y).before a0 Z = true ∨ (Jvm.Cond.methodRef own index y).before a0 Z = true)) (w1 : (Jvm.Cond.privateMethod y).before a0 Z = true) (w2 : (∃ kk, (Jvm.Cond.instantiable y.cls kk).before a0 Z = true)) (w3 : (Jvm.Cond.instanceMethod y).before a0 Z = true) (w5 : (Jvm.Cond.code y bytes maxL ret).before a0 Z = true) (w6 : (Jvm.Cond.initialized y.cls).before a0 Z = true) (w7 : parseMethodDescriptor y.desc = some ⟨ps, r⟩) (w4 : (y.cls ≠ "java/lang/invoke/MethodHandle" ∧ y.cls ≠ "java/lang/invoke/VarHandle") := by decide) : own_VP a0 Z own index y bytes maxL ret ps r := ⟨w0, w1, w2, w3, w4, w5, w6, w7⟩
theorem own_mkF (w0 : (Jvm.Cond.methodLink own index xi).before a0 Z = true) (w1 : (Jvm.Cond.declares xi).before a0 Z = true) (w2 : (Jvm.Cond.interfaceMethod xi.cls xi.cls xi.name xi.desc).before a0 Z = true) (w4 : (Jvm.Cond.selects C xi y).before a0 Z = true) (w5 : (Jvm.Cond.instanceMethod y).before a0 Z = true) (w6 : (Jvm.Cond.publicMethod y).before a0 Z = true) (w7 : (Jvm.Cond.unhidden C xi.name xi.desc).before a0 Z = true) (w8 : (Jvm.Cond.castable C xi.cls).before a0 Z = true) (w10 : (Jvm.Cond.code y bytes maxL ret).before a0 Z = true) (w11 : (Jvm.Cond.initialized y.cls).before a0 Z = true) (w12 : parseMethodDescriptor xi.desc = some ⟨ps, r⟩) (w3 : ((Jvm.Cond.interfaceMethod xi.cls xi.cls xi.name xi.desc).onTables && (Jvm.Cond.interfaceMethod xi.cls xi.cls xi.name xi.desc).keepsFace) = true := by rfl) (w9 : (xi.cls ≠ "java/lang/invoke/MethodHandle" ∧ xi.cls ≠ "java/lang/invoke/VarHandle") := by decide) : own_VF a0 Z own C index xi y bytes maxL ret ps r := ⟨w0, w1, w2, w3, w4, w5, w6, w7, w8, w9, w10, w11, w12⟩
theorem own_mkS (w0 : (Jvm.Cond.methodLink own index y).before a0 Z = true) (w1 : (Jvm.Cond.static y).before a0 Z = true) (w3 : (Jvm.Cond.code y bytes maxL ret).before a0 Z = true) (w4 : (Jvm.Cond.initialized y.cls).before a0 Z = true) (w5 : parseMethodDescriptor y.desc = some ⟨ps, r⟩) (w2 : (y.cls ≠ "java/lang/invoke/MethodHandle" ∧ y.cls ≠ "java/lang/invoke/VarHandle") := by decide) : own_VS a0 Z own index y bytes maxL ret ps r := ⟨w0, w1, w2, w3, w4, w5⟩
theorem own_mkV (w0 : (Jvm.Cond.methodLink own index y).before a0 Z = true) (w1 : (Jvm.Cond.declares y).before a0 Z = true) (w2 : (Jvm.Cond.selects C y y).before a0 Z = true) (w3 : (Jvm.Cond.instanceMethod y).before a0 Z = true) (w5 : (Jvm.Cond.code y bytes maxL ret).before a0 Z = true) (w6 : (Jvm.Cond.initialized y.cls).before a0 Z = true) (w7 : parseMethodDescriptor y.desc = some ⟨ps, r⟩) (w4 : (y.cls ≠ "java/lang/invoke/MethodHandle" ∧ y.cls ≠ "java/lang/invoke/VarHandle") := by decide) : own_VV a0 Z own C index y bytes maxL ret ps r := ⟨w0, w1, w2, w3, w4, w5, w6, w7⟩
theorem cP (pre : ∀ τ, Steps p.tables e below (T.setTop g) τ → PS τ) (X : Stand p l e R s m args below meth c T locs cells slots) (hx : p.tables.exec = Jvm.exec) (hZ : Z.Warmed39 s.vm) (hown : s.vm.findClass own = some m.cls) (hsize : g.locals.size = c.maxLocals) (V : own_VP a0 Z own index y bytes maxL ret ps r) (hM : MetFree l y (head1 [Jvm.Cond.code y bytes maxL ret] rm) (fun α U => α = as' ∧ Z.Warmed39 U.vm ∧ U.heap = h) (fun _ _ _ _ _ => True) (fun _ U o U' => ∃ v L, o = .returned v ∧ Q v U'.heap L ∧ FrameEnd U o U' L rm.cells rm.slots)) (W : Nat) (E : Exa Z h b C) (eT : T.heap = h) (argsL rest : List Value) (D : own_Tab c.code tab)
    (has : (.ref b :: argsL).toArray = as' := by rfl) (hlen : argsL.length = ps.length := by rfl) (hstack : g.stack = argsL.reverse ++ .ref b :: rest := by rfl) (hd : tab g.pc = some (.invokevirtual index) := by rfl) (hg : g.method = m := by rfl) (hW : 2 * g.monitorRoom + (rest.map fun v => v.category).sum ≤ W := by exact Nat.le_refl _) (hf : rm.frames + 1 ≤ R.frames := by decide) (hl : W + (maxL + 11) + rm.locals ≤ R.locals := by decide) (hc : cells + rm.cells ≤ R.cells := by decide) (hs : slots + rm.slots ≤ R.slots := by decide) :
    ∃ (v : Option Value) (T' : State) (L : List Loc), Stand p l e R s m args below meth c T' (locs ++ L) (cells + rm.cells) (slots + rm.slots) ∧ Q v T'.heap L ∧ ∀ τ, Steps p.tables e below (T'.setTop { g with pc := g.pc + 3, stack := v.toList ++ rest }) τ → PS τ := by
  obtain ⟨a1, a2, ⟨kk, a3⟩, a4, a5, a6, a7, a8⟩ := V
  obtain ⟨v, T', L, X', q, st⟩ := own_privR X hx hZ hown a1 a2 a3 a4 a5 hM a6 a7 W hf hl E eT g hg hsize argsL rest has (lenOf a8 hlen) hstack hW (D _ hd) hc hs
  exact ⟨v, T', L, X', q, fun τ k => pre τ (st τ k)⟩
theorem cF (pre : ∀ τ, Steps p.tables e below (T.setTop g) τ → PS τ) (X : Stand p l e R s m args below meth c T locs cells slots) (hx : p.tables.exec = Jvm.exec) (hZ : Z.Warmed39 s.vm) (hown : s.vm.findClass own = some m.cls) (hsize : g.locals.size = c.maxLocals) (V : own_VF a0 Z own C index xi y bytes maxL ret ps r) (hM : MetFree l y (head1 [Jvm.Cond.code y bytes maxL ret] rm) (fun α U => α = as' ∧ Z.Warmed39 U.vm ∧ U.heap = h) (fun _ _ _ _ _ => True) (fun _ U o U' => ∃ v L, o = .returned v ∧ Q v U'.heap L ∧ FrameEnd U o U' L rm.cells rm.slots)) (W : Nat) (E : Exa Z h b C) (eT : T.heap = h) (argsL rest : List Value) (D : own_Tab c.code tab)
    (has : (.ref b :: argsL).toArray = as' := by rfl) (hlen : argsL.length = ps.length := by rfl) (hstack : g.stack = argsL.reverse ++ .ref b :: rest := by rfl) (hd : tab g.pc = some (.invokeinterface index count) := by rfl) (hg : g.method = m := by rfl) (hW : 2 * g.monitorRoom + (rest.map fun v => v.category).sum ≤ W := by exact Nat.le_refl _) (hf : rm.frames + 1 ≤ R.frames := by decide) (hl : W + (maxL + 11) + rm.locals ≤ R.locals := by decide) (hc : cells + rm.cells ≤ R.cells := by decide) (hs : slots + rm.slots ≤ R.slots := by decide) :
    ∃ (v : Option Value) (T' : State) (L : List Loc), Stand p l e R s m args below meth c T' (locs ++ L) (cells + rm.cells) (slots + rm.slots) ∧ Q v T'.heap L ∧ ∀ τ, Steps p.tables e below (T'.setTop { g with pc := g.pc + 5, stack := v.toList ++ rest }) τ → PS τ := by
  obtain ⟨a1, a2, a3, a4, a5, a6, a7, a8, a9, a10, a11, a12, a13⟩ := V
  obtain ⟨v, T', L, X', q, st⟩ := own_face X hx hZ hown a1 a2 a3 a4 a5 a6 a7 a8 a9 a10 hM a11 a12 W hf hl E eT g hg hsize argsL rest has (lenOf a13 hlen) hstack hW (D _ hd) hc hs
  exact ⟨v, T', L, X', q, fun τ k => pre τ (st τ k)⟩
theorem cS (pre : ∀ τ, Steps p.tables e below (T.setTop g) τ → PS τ) (X : Stand p l e R s m args below meth c T locs cells slots) (hx : p.tables.exec = Jvm.exec) (hZ : Z.Warmed39 s.vm) (hown : s.vm.findClass own = some m.cls) (hsize : g.locals.size = c.maxLocals) (V : own_VS a0 Z own index y bytes maxL ret ps r) (hM : MetFree l y (head1 [Jvm.Cond.code y bytes maxL ret] rm) (fun α U => α = as' ∧ Z.Warmed39 U.vm ∧ U.heap = h) (fun _ _ _ _ _ => True) (fun _ U o U' => ∃ v L, o = .returned v ∧ Q v U'.heap L ∧ FrameEnd U o U' L rm.cells rm.slots)) (W : Nat) (eT : T.heap = h) (argsL rest : List Value) (D : own_Tab c.code tab)
    (has : argsL.toArray = as' := by rfl) (hlen : argsL.length = ps.length := by rfl) (hstack : g.stack = argsL.reverse ++ rest := by rfl) (hd : tab g.pc = some (.invokestatic index) := by rfl) (hg : g.method = m := by rfl) (hW : 2 * g.monitorRoom + (rest.map fun v => v.category).sum ≤ W := by exact Nat.le_refl _) (hf : rm.frames + 1 ≤ R.frames := by decide) (hl : W + (maxL + 11) + rm.locals ≤ R.locals := by decide) (hc : cells + rm.cells ≤ R.cells := by decide) (hs : slots + rm.slots ≤ R.slots := by decide) :
    ∃ (v : Option Value) (T' : State) (L : List Loc), Stand p l e R s m args below meth c T' (locs ++ L) (cells + rm.cells) (slots + rm.slots) ∧ Q v T'.heap L ∧ ∀ τ, Steps p.tables e below (T'.setTop { g with pc := g.pc + 3, stack := v.toList ++ rest }) τ → PS τ := by
  obtain ⟨a1, a2, a3, a4, a5, a6⟩ := V
  obtain ⟨v, T', L, X', q, st⟩ := own_stat X hx hZ hown a1 a2 a3 hM a4 a5 W hf hl eT g hg hsize argsL rest has (lenOf a6 hlen) hstack hW (D _ hd) hc hs
  exact ⟨v, T', L, X', q, fun τ k => pre τ (st τ k)⟩
theorem cV (pre : ∀ τ, Steps p.tables e below (T.setTop g) τ → PS τ) (X : Stand p l e R s m args below meth c T locs cells slots) (hx : p.tables.exec = Jvm.exec) (hZ : Z.Warmed39 s.vm) (hown : s.vm.findClass own = some m.cls) (hsize : g.locals.size = c.maxLocals) (V : own_VV a0 Z own C index y bytes maxL ret ps r) (hM : MetFree l y (head1 [Jvm.Cond.code y bytes maxL ret] rm) (fun α U => α = as' ∧ Z.Warmed39 U.vm ∧ U.heap = h) (fun _ _ _ _ _ => True) (fun _ U o U' => ∃ v L, o = .returned v ∧ Q v U'.heap L ∧ FrameEnd U o U' L rm.cells rm.slots)) (W : Nat) (E : Exa Z h b C) (eT : T.heap = h) (argsL rest : List Value) (D : own_Tab c.code tab)
    (has : (.ref b :: argsL).toArray = as' := by rfl) (hlen : argsL.length = ps.length := by rfl) (hstack : g.stack = argsL.reverse ++ .ref b :: rest := by rfl) (hd : tab g.pc = some (.invokevirtual index) := by rfl) (hg : g.method = m := by rfl) (hW : 2 * g.monitorRoom + (rest.map fun v => v.category).sum ≤ W := by exact Nat.le_refl _) (hf : rm.frames + 1 ≤ R.frames := by decide) (hl : W + (maxL + 11) + rm.locals ≤ R.locals := by decide) (hc : cells + rm.cells ≤ R.cells := by decide) (hs : slots + rm.slots ≤ R.slots := by decide) :
    ∃ (v : Option Value) (T' : State) (L : List Loc), Stand p l e R s m args below meth c T' (locs ++ L) (cells + rm.cells) (slots + rm.slots) ∧ Q v T'.heap L ∧ ∀ τ, Steps p.tables e below (T'.setTop { g with pc := g.pc + 3, stack := v.toList ++ rest }) τ → PS τ := by
  obtain ⟨a1, a2, a3, a4, a5, a6, a7, a8⟩ := V
  obtain ⟨v, T', L, X', q, st⟩ := own_virt X hx hZ hown a1 a2 a3 a4 a5 hM a6 a7 W hf hl E eT g hg hsize argsL rest has (lenOf a8 hlen) hstack hW (D _ hd) hc hs
  exact ⟨v, T', L, X', q, fun τ k => pre τ (st τ k)⟩
end OwnShort3
section OwnLaw
open Jvm.FP Jvm.FP.Core
theorem own_Fpos {u : UInt64} (h : own_fs u) (h0 : 0 < own_z u) : own_F u := by
  obtain ⟨s, c, q, e⟩ := h
  cases s
  · exact ⟨c, q, e⟩
  · exfalso
    have h1 : own_z u = -((zmag b64 (.fin true c q) : Nat) : Int) := by unfold own_z; rw [e]; rfl
    omega
theorem own_mulle {a b P : Int} (hP : 0 < P) (h : a ≤ b) : a * P ≤ b * P := Int.mul_le_mul_of_nonneg_right h (Int.le_of_lt hP)
theorem own_mulrev {a b P : Int} (hP : 0 < P) (h : a * P ≤ b * P) : a ≤ b := Int.le_of_mul_le_mul_right h hP
theorem own_quo {x u : UInt64} {A U : Int} (hx : own_zv A x) (hu : own_zv U u) (hU : 0 < U) (h1 : A ≤ U) (h2 : -U ≤ A) : own_ok 1 (FP.ddiv x u) ∧ ∃ k1 k2 : Int, own_z (FP.ddiv x u) * 35184372088832 ≤ k1 * (own_P : Int) ∧ k2 * (own_P : Int) ≤ own_z (FP.ddiv x u) * 35184372088832 ∧ k1 * U ≤ A * 35184372088832 + U ∧ A * 35184372088832 - U ≤ k2 * U ∧ k1.natAbs ≤ 2 ^ 46 ∧ k2.natAbs ≤ 2 ^ 46 := by
  have hz : 0 < own_z u := by rw [hu.2]; exact Int.mul_pos hU own_PP
  have hF := own_Fpos hu.1 hz
  have key : ∀ V, own_fs V → (A * (own_P : Int) ≤ own_z V * U → own_z (FP.ddiv x u) ≤ own_z V) ∧ (own_z V * U ≤ A * (own_P : Int) → own_z V ≤ own_z (FP.ddiv x u)) := fun V hV => by
    obtain ⟨a, b, -⟩ := own_divS hx.1 hF hz hV
    rw [hx.2, hu.2, ← Int.mul_assoc] at a b
    exact ⟨fun h => a (own_mulle own_PP h), fun h => b (own_mulle own_PP h)⟩
  refine ⟨own_ok_mk (by decide) (own_divS hx.1 hF hz hx.1).2.2 (fun V hV e => ?_) (fun V hV e => ?_), ?_⟩
  · refine (key V hV).1 ?_
    rw [e, Int.natCast_one, Int.one_mul, Int.mul_comm]
    exact Int.mul_le_mul_of_nonneg_left h1 (Int.le_of_lt own_PP)
  · refine (key V hV).2 ?_
    rw [e, Int.natCast_one, Int.one_mul, Int.neg_mul, ← Int.mul_neg, Int.mul_comm]
    exact own_mulle own_PP h2
  · have d1 := Int.emod_nonneg (A * 35184372088832) (Int.ne_of_gt hU)
    have d2 := Int.emod_lt_of_pos (A * 35184372088832) hU
    have d3 := Int.mul_ediv_add_emod (A * 35184372088832) U
    generalize hk : A * 35184372088832 / U = k at d3
    have e3 : k * U ≤ A * 35184372088832 := by rw [Int.mul_comm]; omega
    have e4 : A * 35184372088832 - U ≤ k * U := by rw [Int.mul_comm k]; omega
    have f1 : k ≤ 35184372088832 := own_mulrev hU (by have := Int.mul_le_mul_of_nonneg_right h1 (show (0 : Int) ≤ 35184372088832 by decide); rw [Int.mul_comm 35184372088832]; omega)
    have f2 : -35184372088833 ≤ k := own_mulrev hU (by have := Int.mul_le_mul_of_nonneg_right h2 (show (0 : Int) ≤ 35184372088832 by decide); rw [show (-35184372088833 : Int) * U = -U * 35184372088832 - U by omega]; omega)
    obtain ⟨V, v1, v2⟩ := own_v45 (k + 1) (by omega)
    obtain ⟨W, w1, w2⟩ := own_v45 k (by omega)
    have a := (key V v1).1 (by
      refine own_mulrev (P := 35184372088832) (by decide) ?_
      rw [show own_z V * U * 35184372088832 = own_z V * 35184372088832 * U from Int.mul_right_comm _ _ _, v2, show A * (own_P : Int) * 35184372088832 = A * 35184372088832 * (own_P : Int) from Int.mul_right_comm _ _ _, show (k + 1) * (own_P : Int) * U = (k + 1) * U * (own_P : Int) from Int.mul_right_comm _ _ _]
      exact own_mulle own_PP (by rw [Int.add_mul, Int.one_mul]; omega))
    have b := (key W w1).2 (by
      refine own_mulrev (P := 35184372088832) (by decide) ?_
      rw [show own_z W * U * 35184372088832 = own_z W * 35184372088832 * U from Int.mul_right_comm _ _ _, w2, show A * (own_P : Int) * 35184372088832 = A * 35184372088832 * (own_P : Int) from Int.mul_right_comm _ _ _, show k * (own_P : Int) * U = k * U * (own_P : Int) from Int.mul_right_comm _ _ _]
      exact own_mulle own_PP e3)
    refine ⟨k + 1, k, ?_, ?_, by rw [Int.add_mul, Int.one_mul]; omega, e4, by omega, by omega⟩
    · rw [← v2]; exact Int.mul_le_mul_of_nonneg_right a (by decide)
    · rw [← w2]; exact Int.mul_le_mul_of_nonneg_right b (by decide)
theorem own_c6 : (own_P : Int) ≤ own_z (4517329193108106637 : UInt64) * 16777216 ∧ own_fs (4517329193108106637 : UInt64) := ⟨by decide +kernel, ⟨false, 4722366482869645, -72, by decide +kernel⟩⟩
theorem own_c6n : own_z (13740701229962882445 : UInt64) * 16777216 ≤ -(own_P : Int) ∧ own_fs (13740701229962882445 : UInt64) := ⟨by decide +kernel, ⟨true, 4722366482869645, -72, by decide +kernel⟩⟩
theorem own_bnd {y u x : UInt64} {U E k1 k2 : Int} (hy : own_ok 2 y) (hu : own_zv U u) (hU : 0 < U) (hU2 : U ≤ 1048576) (hE : own_zv E x) (hE2 : E.natAbs ≤ 2 ^ 21) (h1 : own_z y * 35184372088832 ≤ k1 * (own_P : Int)) (h2 : k2 * (own_P : Int) ≤ own_z y * 35184372088832) (h3 : k1 * U ≤ E * 35184372088832 + 2 * U) (h4 : E * 35184372088832 - 2 * U ≤ k2 * U) :
    Jvm.Free.Fl.NoNaN64 (FP.dsub (FP.dmul y u) x) ∧ ¬ ((0 : Int32) < cmpValue (FP.dcmp (FP.dsub (FP.dmul y u) x) (4517329193108106637 : UInt64)) .g) ∧ ¬ (cmpValue (FP.dcmp (FP.dsub (FP.dmul y u) x) (13740701229962882445 : UInt64)) .l < (0 : Int32)) := by
  have hPP := own_PP
  have ub : own_z y * U * 16777216 ≤ (E * 16777216 + 1) * (own_P : Int) := by
    refine own_mulrev (P := 2097152) (by decide) ?_
    have a : own_z y * 35184372088832 * U ≤ k1 * U * (own_P : Int) := by rw [show k1 * U * (own_P : Int) = k1 * (own_P : Int) * U from Int.mul_right_comm _ _ _]; exact own_mulle hU h1
    have b : k1 * U * (own_P : Int) ≤ (E * 35184372088832 + 2097152) * (own_P : Int) := own_mulle hPP (by omega)
    rw [show own_z y * U * 16777216 * 2097152 = own_z y * 35184372088832 * U by rw [Int.mul_assoc (own_z y * U)]; show own_z y * U * 35184372088832 = _; exact Int.mul_right_comm _ _ _, show (E * 16777216 + 1) * (own_P : Int) * 2097152 = (E * 35184372088832 + 2097152) * (own_P : Int) by rw [Int.mul_assoc, Int.mul_comm (own_P : Int), ← Int.mul_assoc, Int.add_mul, Int.mul_assoc E]; rfl]
    exact Int.le_trans a b
  have lb : (E * 16777216 - 1) * (own_P : Int) ≤ own_z y * U * 16777216 := by
    refine own_mulrev (P := 2097152) (by decide) ?_
    have a : k2 * U * (own_P : Int) ≤ own_z y * 35184372088832 * U := by rw [show k2 * U * (own_P : Int) = k2 * (own_P : Int) * U from Int.mul_right_comm _ _ _]; exact own_mulle hU h2
    have b : (E * 35184372088832 - 2097152) * (own_P : Int) ≤ k2 * U * (own_P : Int) := own_mulle hPP (by omega)
    rw [show own_z y * U * 16777216 * 2097152 = own_z y * 35184372088832 * U by rw [Int.mul_assoc (own_z y * U)]; show own_z y * U * 35184372088832 = _; exact Int.mul_right_comm _ _ _, show (E * 16777216 - 1) * (own_P : Int) * 2097152 = (E * 35184372088832 - 2097152) * (own_P : Int) by rw [Int.mul_assoc, Int.mul_comm (own_P : Int), ← Int.mul_assoc, Int.sub_mul, Int.mul_assoc E]; rfl]
    exact Int.le_trans b a
  have hu0 : own_ok 1048576 u := own_ok_mono (own_zv_ok hu) (by omega)
  have hb := own_ok_mul hy hu0 (by decide)
  have hd := own_ok_sub hb (own_ok_mono (own_zv_ok hE) (show E.natAbs ≤ 2097152 by omega)) (by decide)
  obtain ⟨V, v1, v2⟩ := own_v24 (E * 16777216 + 1) (by omega)
  obtain ⟨W, w1, w2⟩ := own_v24 (E * 16777216 - 1) (by omega)
  have b1 : own_z (FP.dmul y u) ≤ own_z V := (own_mulS hy.1 hu.1 v1).1 (by
    rw [hu.2, ← Int.mul_assoc]; refine own_mulle hPP (own_mulrev (P := 16777216) (by decide) ?_); rw [v2]; exact ub)
  have b2 : own_z W ≤ own_z (FP.dmul y u) := (own_mulS hy.1 hu.1 w1).2.1 (by
    rw [hu.2, ← Int.mul_assoc]; refine own_mulle hPP (own_mulrev (P := 16777216) (by decide) ?_); rw [w2]; exact lb)
  obtain ⟨V', x1, x2⟩ := own_v24 1 (by decide)
  obtain ⟨W', y1, y2⟩ := own_v24 (-1) (by decide)
  rw [Int.add_mul, Int.one_mul, show E * 16777216 * (own_P : Int) = E * (own_P : Int) * 16777216 from Int.mul_right_comm _ _ _] at v2
  rw [Int.sub_mul, Int.one_mul, show E * 16777216 * (own_P : Int) = E * (own_P : Int) * 16777216 from Int.mul_right_comm _ _ _] at w2
  rw [Int.one_mul] at x2
  rw [Int.neg_mul, Int.one_mul] at y2
  have d1 : own_z (FP.dsub (FP.dmul y u) x) ≤ own_z V' := (own_subS hb.1 hE.1 x1).1 (by rw [hE.2]; omega)
  have d2 : own_z W' ≤ own_z (FP.dsub (FP.dmul y u) x) := (own_subS hb.1 hE.1 y1).2.1 (by rw [hE.2]; omega)
  refine ⟨own_ok_no hd, ?_, ?_⟩
  · rw [(own_cv hd.1 own_c6.2 .g).2.1]; have := own_c6.1; omega
  · rw [(own_cv hd.1 own_c6n.2 .l).1]; have := own_c6n.1; omega
theorem own_zv_abs {n : Int} {x : UInt64} (h : own_zv n x) : own_zv (n.natAbs : Int) (x &&& (9223372036854775807 : UInt64)) := by
  obtain ⟨a, b, c⟩ := own_abs h.1
  refine ⟨a, ?_⟩
  rw [h.2] at b
  have hP := own_PP
  rcases Int.lt_or_le n 0 with q | q
  · have : n * (own_P : Int) < 0 := Int.mul_neg_of_neg_of_pos q hP
    rw [show ((n.natAbs : Nat) : Int) = -n by omega, Int.neg_mul]; omega
  · have : 0 ≤ n * (own_P : Int) := Int.mul_nonneg q (Int.le_of_lt hP)
    rw [show ((n.natAbs : Nat) : Int) = n by omega]; omega
def own_Qb (A U : Int) (c : UInt64) : Prop := ∃ k1 k2 : Int, own_z c * 35184372088832 ≤ k1 * (own_P : Int) ∧ k2 * (own_P : Int) ≤ own_z c * 35184372088832 ∧ k1 * U ≤ A * 35184372088832 + U ∧ A * 35184372088832 - U ≤ k2 * U ∧ k1.natAbs ≤ 2 ^ 46 ∧ k2.natAbs ≤ 2 ^ 46
def own_Lw (A S : Int) (uu xe co : UInt64) : Prop := ∃ U : Int, own_zv U uu ∧ 0 < U ∧ U ≤ 1048576 ∧ own_ok 1 xe ∧ own_ok 1 co ∧ own_Qb A U co ∧ own_Qb (-S) U xe
theorem own_lw {x y : UInt64} {A S : Int} (hx : own_zv A x) (hy : own_zv S y) (hA : A.natAbs ≤ 524288) (hS : S.natAbs ≤ 524288) : ∃ uu xe co, Native.java_lang_Math.nans.pick64 true (4607182418800017408 : UInt64) (FP.dadd (x &&& (9223372036854775807 : UInt64)) (y &&& (9223372036854775807 : UInt64))) = uu ∧ FP.ddiv (FP.dneg y) uu = xe ∧ FP.ddiv x uu = co ∧ own_Lw A S uu xe co := by
  have s := own_zv_add (own_zv_abs hx) (own_zv_abs hy) (by omega)
  have hP := own_PP
  obtain ⟨U, h1, h2, h3, h4⟩ : ∃ U : Int, own_zv U (Native.java_lang_Math.nans.pick64 true (4607182418800017408 : UInt64) (FP.dadd (x &&& (9223372036854775807 : UInt64)) (y &&& (9223372036854775807 : UInt64)))) ∧ 0 < U ∧ U ≤ 1048576 ∧ (A.natAbs : Int) + S.natAbs ≤ U := by
    rcases own_pick_max (own_fs_ne own_one.1) (own_fs_ne s.1) with ⟨e, q⟩ | ⟨e, q⟩ <;> rw [e] <;> rw [own_one.2, s.2] at q <;> have q' := own_mulrev hP q
    · exact ⟨1, own_one, by decide, by decide, q'⟩
    · exact ⟨_, s, by omega, by omega, Int.le_refl _⟩
  obtain ⟨a1, a2⟩ := own_quo hx h1 h2 (by omega) (by omega)
  obtain ⟨b1, b2⟩ := own_quo (own_zv_neg hy) h1 h2 (by omega) (by omega)
  exact ⟨_, _, _, rfl, rfl, rfl, U, h1, h2, h3, b1, a1, a2, b2⟩
def own_res (b : UInt64) (n : Int64) : Prop := Jvm.Free.Fl.NoNaN64 (FP.dsub b (FP.l2d n)) ∧ ¬ ((0 : Int32) < cmpValue (FP.dcmp (FP.dsub b (FP.l2d n)) (4517329193108106637 : UInt64)) .g) ∧ ¬ (cmpValue (FP.dcmp (FP.dsub b (FP.l2d n)) (13740701229962882445 : UInt64)) .l < (0 : Int32))
theorem own_eq_ok {n : Nat} {y x : UInt64} (h : own_eq y x) (hx : own_ok n x) : own_ok n y := ⟨h.1, by rw [h.2]; exact hx.2.1, by rw [h.2]; exact hx.2.2⟩
theorem own_resA {A S : Int} {uu xe co y : UInt64} {n : Int64} (L : own_Lw A S uu xe co) (hy : own_eq y co) (hn : n.toInt = A) (hA : A.natAbs ≤ 524288) : own_res (FP.dmul y uu) n := by
  obtain ⟨U, h1, h2, h3, h4, h5, ⟨k1, k2, a, b, c, d, -, -⟩, -⟩ := L
  rw [← hy.2] at a b
  have e := own_zv_D (own_d_l2d (x := n) (by rw [hn]; omega))
  rw [hn] at e
  exact own_bnd (own_ok_mono (own_eq_ok hy h5) (by decide)) h1 h2 h3 e (by omega) a b (by omega) (by omega)
theorem own_resB {A S : Int} {uu xe co : UInt64} {n : Int64} (L : own_Lw A S uu xe co) (hn : n.toInt = A + S) (hA : A.natAbs ≤ 524288) (hS : S.natAbs ≤ 524288) : own_res (FP.dmul (FP.dadd 0 (FP.dmul (FP.dsub co (FP.dadd 0 (FP.dmul 4607182418800017408 xe))) 4607182418800017408)) uu) n := by
  obtain ⟨U, h1, h2, h3, h4, h5, ⟨k1, k2, a, b, c, d, m1, m2⟩, ⟨l1, l2, a', b', c', d', n1, n2⟩⟩ := L
  obtain ⟨p1, p2⟩ := own_P1 h4
  have p3 : own_ok 1 (FP.dadd 0 (FP.dmul 4607182418800017408 xe)) := ⟨p1, by rw [p2]; exact h4.2.1, by rw [p2]; exact h4.2.2⟩
  have s0 := own_ok_sub h5 p3 (by decide)
  obtain ⟨t1, t2⟩ := own_z_mulR s0.1
  obtain ⟨u1, u2⟩ := own_z_add0 own_zz t1
  obtain ⟨V, v1, v2⟩ := own_v45 (k1 - l2) (by omega)
  obtain ⟨W, w1, w2⟩ := own_v45 (k2 - l1) (by omega)
  rw [Int.sub_mul] at v2 w2
  have q1 := (own_subS h5.1 p1 v1).1 (by rw [p2]; omega)
  have q2 := (own_subS h5.1 p1 w1).2.1 (by rw [p2]; omega)
  have e := own_zv_D (own_d_l2d (x := n) (by rw [hn]; omega))
  rw [hn] at e
  have z := u2.trans t2
  refine own_bnd (k1 := k1 - l2) (k2 := k2 - l1) ⟨u1, by rw [z]; exact s0.2.1, by rw [z]; exact s0.2.2⟩ h1 h2 h3 e (by omega) ?_ ?_ ?_ ?_
  · rw [z, Int.sub_mul, ← v2]; omega
  · rw [z, Int.sub_mul, ← w2]; omega
  · rw [Int.sub_mul]; omega
  · rw [Int.sub_mul]; omega
theorem own_y1 {n : Nat} {co a : UInt64} (hc : own_ok n co) (ha : own_sz a) : own_eq (FP.dadd 0 (FP.dmul (FP.dsub co a) 4607182418800017408)) co := by
  obtain ⟨a1, a2⟩ := own_z_subZ hc.1 ha
  obtain ⟨b1, b2⟩ := own_z_mulR a1
  obtain ⟨c1, c2⟩ := own_z_add0 own_zz b1
  exact ⟨c1, by rw [c2, b2, a2]⟩
theorem own_m20 (a : Int32) : -524288 ≤ ((a &&& (1048575 : Int32)) - (524288 : Int32)).toInt ∧ ((a &&& (1048575 : Int32)) - (524288 : Int32)).toInt ≤ 524287 := by
  have h := c_and a 1048575 (by decide)
  rw [show (1048575 : Int32).toInt = 1048575 by decide] at h
  have hc := c_isub (a &&& 1048575) 524288
  rw [show (524288 : Int32).toInt = 524288 by decide] at hc
  have r := rng32 ((a &&& 1048575) - 524288)
  omega
theorem own_m1 (x : Int32) : (x &&& (1 : Int32)) = 0 ∨ (x &&& (1 : Int32)) = 1 := by
  have h := c_and x 1 (by decide)
  rw [show (1 : Int32).toInt = 1 by decide] at h
  generalize x &&& (1 : Int32) = u at *
  have : u.toInt = 0 ∨ u.toInt = 1 := by omega
  rcases this with r | r
  · exact Or.inl (Int32.toInt_inj.mp r)
  · exact Or.inr (Int32.toInt_inj.mp r)
theorem own_de {args : Array Value} {s : State} {t : Term} (h6 : (Jvm.Cond.arrayOf t (.object "java/lang/Object")).before args s = true) (h8 : (Jvm.Cond.eq (.length t) (.int 0)).before args s = true) : ∃ de k, t.eval args s none [] s = some (.ref de) ∧ Arv s s.heap de k (.object "java/lang/Object") 0 [] .null := by
  obtain ⟨de, ev⟩ := arr_v (Cond.before_iff.mp h6)
  obtain ⟨c, A⟩ := Arr.start ev (Cond.before_iff.mp h6)
  have h := Cond.before_iff.mp h8
  have hs : c.slots.size = 0 := by
    have hh : ∃ v, (Term.length t).eval args s none [] s = some v := by
      cases q : (Term.length t).eval args s none [] s with
      | none => simp [Cond.value, q] at h
      | some v => exact ⟨v, rfl⟩
    obtain ⟨v, hv⟩ := hh
    obtain ⟨x, cl, e1, e2, e3⟩ := Term.length_spec hv
    subst e3
    cases Option.some.inj (ev.symm.trans e1)
    have e0 := gotT (Cond.eq_ints hv (Term.int_eval (0))) h
    have ec : cl = c := by
      have := A.1
      simp only [State.arrayAt?, this, Option.bind_eq_bind, Option.bind_eq_some_iff] at e2
      obtain ⟨c1, q1, k1, -, q3⟩ := e2
      cases q1
      split at q3
      · cases q3
      · split at q3
        · exact (Option.some.inj q3).symm
        · cases q3
    subst ec
    have hlt : cl.slots.size < 2 ^ 31 := by
      simp only [Term.eval, e1, e2, Option.bind_eq_bind, Option.bind_some] at hv
      split at hv
      · assumption
      · cases hv
    have e4 := congrArg Int32.toNatClampNeg e0
    simp only [Int32.toNatClampNeg, len_toInt hlt] at e4
    exact e4
  exact ⟨de, c.cls, ev, c, A, rfl, hs, by decide, fun i hi => absurd (hs ▸ hi) (Nat.not_lt_zero i), fun i hi => absurd (hs ▸ hi) (Nat.not_lt_zero i)⟩
end OwnLaw
def own_maxI (a b : Int32) : Int32 := if a < b then b else a
abbrev vr (a : Addr) : Slot := .val (.ref a)
abbrev vi (n : Int32) : Slot := .val (.int n)
abbrev vd (n : UInt64) : Slot := .val (.double n)
abbrev un : Slot := .unset
set_option maxRecDepth 65536
set_option maxHeartbeats 40000000
variable {a0 : Array Value} {Z : State}
abbrev own_Hw (a0 : Array Value) (Z : State) : Prop := ∀ d ∈ tables_1, d.before a0 Z = true
theorem own_w {a0 : Array Value} {Z : State} (hw : own_Hw a0 Z) (i : Nat) {d : Jvm.Cond} (h : tables_1[i]? = some d) : d.before a0 Z = true := hw d (List.mem_of_getElem? h)
abbrev sC : String := "com/example/bidfold/bidfold/solve/CuttingPlaneMaster"
abbrev sD : String := "com/example/bidfold/bidfold/solve/CuttingPlaneMaster$Dense"
abbrev sR : String := "com/example/bidfold/bidfold/solve/CuttingPlaneMaster$Direction"
abbrev sB : String := "com/example/bidfold/bidfold/solve/BasisInverse"
abbrev sA : String := "java/util/ArrayList"
abbrev sI : String := "java/util/ArrayList$Itr"
abbrev sO : String := "[Ljava/lang/Object;"
abbrev own_mn0 : MethodName := ⟨"java/util/AbstractCollection", "<init>", "()V"⟩
abbrev own_mn1 : MethodName := ⟨"java/util/AbstractList", "<init>", "()V"⟩
abbrev own_mn2 : MethodName := ⟨sA, "<init>", "()V"⟩
abbrev own_mn3 : MethodName := ⟨"java/lang/Math", "max", "(II)I"⟩
abbrev own_mn4 : MethodName := ⟨sA, "grow", "(I)[Ljava/lang/Object;"⟩
abbrev own_mn5 : MethodName := ⟨sA, "grow", "()[Ljava/lang/Object;"⟩
abbrev own_mn6 : MethodName := ⟨sA, "add", "(Ljava/lang/Object;[Ljava/lang/Object;I)V"⟩
abbrev own_mn7 : MethodName := ⟨sA, "add", "(Ljava/lang/Object;)Z"⟩
abbrev own_mn8 : MethodName := ⟨sA, "size", "()I"⟩
abbrev own_mn9 : MethodName := ⟨"jdk/internal/util/Preconditions", "checkIndex", "(IILjava/util/function/BiFunction;)I"⟩
abbrev own_mn10 : MethodName := ⟨"java/util/Objects", "checkIndex", "(II)I"⟩
abbrev own_mn11 : MethodName := ⟨sA, "elementData", "(I)Ljava/lang/Object;"⟩
abbrev own_mn12 : MethodName := ⟨sA, "get", "(I)Ljava/lang/Object;"⟩
abbrev own_mn13 : MethodName := ⟨sI, "<init>", "(Ljava/util/ArrayList;)V"⟩
abbrev own_mn14 : MethodName := ⟨sA, "iterator", "()Ljava/util/Iterator;"⟩
abbrev own_mn15 : MethodName := ⟨sI, "hasNext", "()Z"⟩
abbrev own_mn16 : MethodName := ⟨sI, "checkForComodification", "()V"⟩
abbrev own_mn17 : MethodName := ⟨sI, "next", "()Ljava/lang/Object;"⟩
abbrev own_mn18 : MethodName := ⟨sD, "<init>", "([DD)V"⟩
abbrev own_mn19 : MethodName := ⟨sC, "<init>", "(II)V"⟩
abbrev own_mn20 : MethodName := ⟨sD, "countAtOne", "(II)V"⟩
abbrev own_mn21 : MethodName := ⟨sC, "countAtOneAfresh", "(Lcom/example/bidfold/bidfold/solve/CuttingPlaneMaster$Dense;)V"⟩
abbrev own_mn22 : MethodName := ⟨sC, "setSide", "(II)V"⟩
abbrev own_mn23 : MethodName := ⟨sC, "kernelIndexOf", "(I)I"⟩
abbrev own_mn24 : MethodName := ⟨sC, "carriedBy", "([D)[D"⟩
abbrev own_mn25 : MethodName := ⟨sB, "swap", "([[DII)V"⟩
abbrev own_mn26 : MethodName := ⟨sB, "of", "([[D)[[D"⟩
abbrev own_mn27 : MethodName := ⟨sC, "invert", "()V"⟩
abbrev own_mn28 : MethodName := ⟨sC, "addCut", "(D[D)Z"⟩
abbrev own_mn29 : MethodName := ⟨sC, "isBound", "(I)Z"⟩
abbrev own_mn30 : MethodName := ⟨sC, "coordinateOf", "(I)I"⟩
abbrev own_mn31 : MethodName := ⟨sC, "sideOf", "(I)I"⟩
abbrev own_mn32 : MethodName := ⟨sC, "denseOf", "(I)I"⟩
abbrev own_mn33 : MethodName := ⟨sC, "isBasic", "(I)Z"⟩
abbrev own_mn34 : MethodName := ⟨sC, "reducedCost", "(I)D"⟩
abbrev own_mn35 : MethodName := ⟨sC, "entering", "(Z)I"⟩
abbrev own_mn36 : MethodName := ⟨sC, "duals", "()[D"⟩
abbrev own_mn37 : MethodName := ⟨"java/lang/Record", "<init>", "()V"⟩
abbrev own_mn38 : MethodName := ⟨sR, "<init>", "([D[D)V"⟩
abbrev own_mn39 : MethodName := ⟨sR, "at", "(I)D"⟩
abbrev own_mn40 : MethodName := ⟨sR, "kernel", "()[D"⟩
abbrev own_mn41 : MethodName := ⟨sR, "bounds", "()[D"⟩
abbrev own_mn42 : MethodName := ⟨sC, "direction", "(I)Lcom/example/bidfold/bidfold/solve/CuttingPlaneMaster$Direction;"⟩
abbrev own_mn43 : MethodName := ⟨sC, "valueAt", "(I)D"⟩
abbrev own_mn44 : MethodName := ⟨sC, "timesInverse", "(I)[D"⟩
abbrev own_mn45 : MethodName := ⟨sC, "append", "([II)[I"⟩
abbrev own_mn46 : MethodName := ⟨sC, "growKernel", "(II[DDD)V"⟩
abbrev own_mn47 : MethodName := ⟨sC, "pivot", "(IILcom/example/bidfold/bidfold/solve/CuttingPlaneMaster$Direction;D)V"⟩
abbrev own_mn48 : MethodName := ⟨sC, "enter", "(IZ)D"⟩
abbrev own_mn49 : MethodName := ⟨sC, "bound", "()D"⟩
abbrev own_mn50 : MethodName := ⟨sC, "solve", "()V"⟩
abbrev own_mn51 : MethodName := ⟨"com/example/bidfold/bidfold/solve/CuttingPlaneMasterBoundPinLaw", "law", "(III)Z"⟩
abbrev own_mn52 : MethodName := ⟨"java/lang/Object", "<init>", "()V"⟩
abbrev own_mn53 : MethodName := ⟨"java/util/List", "add", "(Ljava/lang/Object;)Z"⟩
abbrev own_mn54 : MethodName := ⟨"java/lang/Math", "abs", "(D)D"⟩
abbrev own_mn55 : MethodName := ⟨"java/lang/Math", "max", "(DD)D"⟩
abbrev own_mn56 : MethodName := ⟨"java/util/List", "size", "()I"⟩
abbrev own_mn57 : MethodName := ⟨"java/util/List", "get", "(I)Ljava/lang/Object;"⟩
abbrev own_mn58 : MethodName := ⟨"[D", "clone", "()Ljava/lang/Object;"⟩
abbrev own_mn59 : MethodName := ⟨"java/lang/Object", "clone", "()Ljava/lang/Object;"⟩
abbrev own_mn60 : MethodName := ⟨"java/util/List", "iterator", "()Ljava/util/Iterator;"⟩
abbrev own_mn61 : MethodName := ⟨"java/util/Iterator", "hasNext", "()Z"⟩
abbrev own_mn62 : MethodName := ⟨"java/util/Iterator", "next", "()Ljava/lang/Object;"⟩
abbrev own_mn63 : MethodName := ⟨"java/lang/System", "arraycopy", "(Ljava/lang/Object;ILjava/lang/Object;II)V"⟩
theorem own_q0 : own_maxI (10 : Int32) (1 : Int32) = (10 : Int32) := by decide
theorem own_q1 : (FP.i2d (1 : Int32)) = (4607182418800017408 : UInt64) := by decide +kernel
theorem own_okc_4607182418800017408 : own_ok 1 (4607182418800017408 : UInt64) := ⟨⟨false, 4503599627370496, -52, by decide +kernel⟩, by decide +kernel, by decide +kernel⟩
theorem own_q2 : (FP.i2d (-1 : Int32)) = (13830554455654793216 : UInt64) := by decide +kernel
theorem own_okc_13830554455654793216 : own_ok 1 (13830554455654793216 : UInt64) := ⟨⟨true, 4503599627370496, -52, by decide +kernel⟩, by decide +kernel, by decide +kernel⟩
theorem own_okc_0 : own_ok 0 (0 : UInt64) := ⟨⟨false, 0, -1074, by decide +kernel⟩, by decide +kernel, by decide +kernel⟩
theorem own_q3 : (FP.dadd (0 : UInt64) (FP.dmul (4607182418800017408 : UInt64) (4607182418800017408 : UInt64))) = (4607182418800017408 : UInt64) := by decide +kernel
theorem own_q4 : (FP.dadd (0 : UInt64) (FP.dmul (4607182418800017408 : UInt64) ((4607182418800017408 : UInt64) &&& (9223372036854775807 : UInt64)))) = (4607182418800017408 : UInt64) := by decide +kernel
theorem own_q5 : ¬ (1 : Int32) = -1 := by decide
theorem own_q6 : (FP.dadd (4607182418800017408 : UInt64) (FP.dmul (13830554455654793216 : UInt64) (4607182418800017408 : UInt64))) = (0 : UInt64) := by decide +kernel
theorem own_q7 : (FP.dadd (4607182418800017408 : UInt64) (FP.dmul (13830554455654793216 : UInt64) ((4607182418800017408 : UInt64) &&& (9223372036854775807 : UInt64)))) = (0 : UInt64) := by decide +kernel
theorem own_q8 : (cmpValue (FP.dcmp (4607182418800017408 : UInt64) (0 : UInt64)) .l) = (1 : Int32) := by decide +kernel
theorem own_q9 : (cmpValue (FP.dcmp (0 : UInt64) (0 : UInt64)) .l) = (0 : Int32) := by decide +kernel
theorem own_q10 : (FP.ddiv (4607182418800017408 : UInt64) (4607182418800017408 : UInt64)) = (4607182418800017408 : UInt64) := by decide +kernel
theorem own_q11 : ((4607182418800017408 : UInt64) &&& (9223372036854775807 : UInt64)) = (4607182418800017408 : UInt64) := by decide +kernel
theorem own_q12 : (FP.ddiv (0 : UInt64) (4607182418800017408 : UInt64)) = (0 : UInt64) := by decide +kernel
theorem own_u0 {z : UInt64} (h : own_sz z) : FP.dsub (4607182418800017408 : UInt64) z = (4607182418800017408 : UInt64) := by rcases h with h | h <;> subst h <;> decide +kernel
theorem own_q13 : (Native.java_lang_Math.nans.pick64 true (0 : UInt64) (4607182418800017408 : UInt64)) = (4607182418800017408 : UInt64) := by decide +kernel
theorem own_q14 : ((0 : UInt64) &&& (9223372036854775807 : UInt64)) = (0 : UInt64) := by decide +kernel
theorem own_u1 {z : UInt64} (h : own_sz z) : FP.dadd (4607182418800017408 : UInt64) z = (4607182418800017408 : UInt64) := by rcases h with h | h <;> subst h <;> decide +kernel
theorem own_u2 {z : UInt64} (h : own_sz z) : (z &&& (9223372036854775807 : UInt64)) = (0 : UInt64) := by rcases h with h | h <;> subst h <;> decide +kernel
theorem own_q15 : (Native.java_lang_Math.nans.pick64 true (4607182418800017408 : UInt64) (0 : UInt64)) = (4607182418800017408 : UInt64) := by decide +kernel
theorem own_q16 : (FP.dsub (0 : UInt64) (4607182418800017408 : UInt64)) = (13830554455654793216 : UInt64) := by decide +kernel
theorem own_okc_13650858631089744401 : own_ok 1 (13650858631089744401 : UInt64) := ⟨⟨true, 4951760157141521, -92, by decide +kernel⟩, by decide +kernel, by decide +kernel⟩
theorem own_q17 : (FP.dmul (13650858631089744401 : UInt64) (4607182418800017408 : UInt64)) = (13650858631089744401 : UInt64) := by decide +kernel
theorem own_q18 : (cmpValue (FP.dcmp (13830554455654793216 : UInt64) (13650858631089744401 : UInt64)) .g) = (-1 : Int32) := by decide +kernel
theorem own_q19 : (FP.dmul (4607182418800017408 : UInt64) (0 : UInt64)) = (0 : UInt64) := by decide +kernel
theorem own_q20 : (FP.dsub (4607182418800017408 : UInt64) (0 : UInt64)) = (4607182418800017408 : UInt64) := by decide +kernel
theorem own_q21 : (cmpValue (FP.dcmp (4607182418800017408 : UInt64) (13650858631089744401 : UInt64)) .g) = (1 : Int32) := by decide +kernel
theorem own_okc_9223372036854775808 : own_ok 0 (9223372036854775808 : UInt64) := ⟨⟨true, 0, -1074, by decide +kernel⟩, by decide +kernel, by decide +kernel⟩
theorem own_q22 : (FP.dmul (13830554455654793216 : UInt64) (0 : UInt64)) = (9223372036854775808 : UInt64) := by decide +kernel
theorem own_q23 : ((9223372036854775808 : UInt64) &&& (9223372036854775807 : UInt64)) = (0 : UInt64) := by decide +kernel
theorem own_q24 : (FP.dsub (0 : UInt64) (9223372036854775808 : UInt64)) = (0 : UInt64) := by decide +kernel
theorem own_q25 : (cmpValue (FP.dcmp (0 : UInt64) (13650858631089744401 : UInt64)) .g) = (1 : Int32) := by decide +kernel
theorem own_q26 : (FP.dmul (13830554455654793216 : UInt64) (4607182418800017408 : UInt64)) = (13830554455654793216 : UInt64) := by decide +kernel
theorem own_q27 : ((13830554455654793216 : UInt64) &&& (9223372036854775807 : UInt64)) = (4607182418800017408 : UInt64) := by decide +kernel
theorem own_q28 : (Native.java_lang_Math.nans.pick64 true (4607182418800017408 : UInt64) (4607182418800017408 : UInt64)) = (4607182418800017408 : UInt64) := by decide +kernel
theorem own_q29 : (FP.dsub (0 : UInt64) (13830554455654793216 : UInt64)) = (4607182418800017408 : UInt64) := by decide +kernel
theorem own_q30 : (cmpValue (FP.dcmp (0 : UInt64) (0 : UInt64)) .g) = (0 : Int32) := by decide +kernel
theorem own_q31 : (cmpValue (FP.dcmp (13830554455654793216 : UInt64) (0 : UInt64)) .g) = (-1 : Int32) := by decide +kernel
theorem own_q32 : (cmpValue (FP.dcmp (0 : UInt64) (13830554455654793216 : UInt64)) .g) = (1 : Int32) := by decide +kernel
theorem own_u3 {z : UInt64} (h : own_sz z) : FP.dadd (0 : UInt64) z = (0 : UInt64) := by rcases h with h | h <;> subst h <;> decide +kernel
theorem own_q33 : (FP.dsub (0 : UInt64) (0 : UInt64)) = (0 : UInt64) := by decide +kernel
theorem own_q34 : (FP.dmul (0 : UInt64) (4607182418800017408 : UInt64)) = (0 : UInt64) := by decide +kernel
theorem own_q35 : (FP.dadd (0 : UInt64) (0 : UInt64)) = (0 : UInt64) := by decide +kernel
theorem own_q36 : (FP.dmul (4607182418800017408 : UInt64) (4607182418800017408 : UInt64)) = (4607182418800017408 : UInt64) := by decide +kernel
theorem own_q37 : (FP.dneg (0 : UInt64)) = (9223372036854775808 : UInt64) := by decide +kernel
theorem own_q38 : (FP.ddiv (9223372036854775808 : UInt64) (4607182418800017408 : UInt64)) = (9223372036854775808 : UInt64) := by decide +kernel
theorem own_q39 : (Native.java_lang_Math.nans.pick64 true (0 : UInt64) (0 : UInt64)) = (0 : UInt64) := by decide +kernel
theorem own_okc_4472406533629990549 : own_ok 1 (4472406533629990549 : UInt64) := ⟨⟨false, 4835703278458517, -82, by decide +kernel⟩, by decide +kernel, by decide +kernel⟩
theorem own_q40 : (FP.dmul (4472406533629990549 : UInt64) (4607182418800017408 : UInt64)) = (4472406533629990549 : UInt64) := by decide +kernel
theorem own_q41 : (cmpValue (FP.dcmp (0 : UInt64) (4472406533629990549 : UInt64)) .l) = (-1 : Int32) := by decide +kernel
theorem own_q42 : (cmpValue (FP.dcmp (4607182418800017408 : UInt64) (4472406533629990549 : UInt64)) .l) = (1 : Int32) := by decide +kernel
def own_t0 : Nat → Option Instr := fun pc => bif Nat.blt pc 17 then own_lk pc [(0, .iload_n 0), (1, .ldc 7), (3, .iand), (4, .ldc 8), (6, .isub), (7, .istore_n 3), (8, .iload_n 1), (9, .ldc 7), (11, .iand), (12, .ldc 8), (14, .isub), (15, .istore 4)] else bif Nat.blt pc 37 then own_lk pc [(17, .iload_n 2), (18, .iconst 1), (19, .iand), (20, .istore 5), (22, .new 9), (25, .dup), (26, .iconst 1), (27, .iload 5), (29, .invokespecial 11), (32, .astore 6), (34, .iconst 1), (35, .newarray .double)] else bif Nat.blt pc 57 then own_lk pc [(37, .astore 7), (39, .aload 7), (41, .iconst 0), (42, .iload 4), (44, .i2d), (45, .dastore), (46, .aload 6), (48, .iload_n 3), (49, .i2d), (50, .aload 7), (52, .invokevirtual 14), (55, .istore 8)] else bif Nat.blt pc 80 then own_lk pc [(57, .aload 6), (59, .invokevirtual 18), (62, .aload 6), (64, .invokevirtual 21), (67, .dstore 9), (69, .iload_n 3), (70, .i2l), (71, .iload 5), (73, .iconst 1), (74, .if_icmp .ne 13), (77, .iconst 0), (78, .iload 4)] else bif Nat.blt pc 101 then own_lk pc [(80, .invokestatic 25), (83, .i2l), (84, .goto 4), (87, .lconst 0), (88, .ladd), (89, .lstore 11), (91, .dload 9), (93, .lload 11), (95, .l2d), (96, .dsub), (97, .dstore 13), (99, .iload 8)] else own_lk pc [(101, .ifCond .eq 25), (104, .dload 13), (106, .ldc2_w 31), (109, .dcmp .g), (110, .ifCond .gt 16), (113, .dload 13), (115, .ldc2_w 33), (118, .dcmp .l), (119, .ifCond .lt 7), (122, .iconst 1), (123, .goto 4), (127, .ireturn)]
theorem oT0 : own_Tab code own_t0 := (own_tb (own_tl (by decide +kernel)) (own_tb (own_tl (by decide +kernel)) (own_tb (own_tl (by decide +kernel)) (own_tb (own_tl (by decide +kernel)) (own_tb (own_tl (by decide +kernel)) (own_tl (by decide +kernel)))))))
def own_t1 : Nat → Option Instr := fun pc => bif Nat.blt pc 23 then own_lk pc [(0, .aload_n 0), (1, .invokespecial 1), (4, .aload_n 0), (5, .new 7), (8, .dup), (9, .invokespecial 9), (12, .putfield 10), (15, .aload_n 0), (16, .iconst 0), (17, .newarray .int), (19, .putfield 16), (22, .aload_n 0)] else bif Nat.blt pc 43 then own_lk pc [(23, .iconst 0), (24, .newarray .int), (26, .putfield 20), (29, .aload_n 0), (30, .iconst 0), (31, .newarray .double), (33, .putfield 23), (36, .aload_n 0), (37, .iload_n 1), (38, .putfield 27), (41, .aload_n 0), (42, .iload_n 1)] else bif Nat.blt pc 64 then own_lk pc [(43, .iconst 1), (44, .iadd), (45, .putfield 31), (48, .aload_n 0), (49, .sipush 1000), (52, .aload_n 0), (53, .getfield 31), (56, .imul), (57, .putfield 34), (60, .aload_n 0), (61, .iload_n 1), (62, .newarray .int)] else bif Nat.blt pc 86 then own_lk pc [(64, .putfield 37), (67, .aload_n 0), (68, .iload_n 1), (69, .newarray .double), (71, .putfield 40), (74, .aload_n 0), (75, .getfield 31), (78, .newarray .double), (80, .astore_n 3), (81, .iconst 0), (82, .istore 4), (84, .iload 4)] else bif Nat.blt pc 107 then own_lk pc [(86, .iload_n 1), (87, .if_icmp .ge 16), (90, .aload_n 3), (91, .iload 4), (93, .iconst 1), (94, .iadd), (95, .dconst 1), (96, .dastore), (97, .iinc 4 1), (100, .goto (-16)), (103, .aload_n 0), (104, .getfield 10)] else own_lk pc [(107, .new 43), (110, .dup), (111, .aload_n 3), (112, .iload_n 2), (113, .i2d), (114, .invokespecial 45), (117, .invokeinterface 48 2), (122, .pop), (123, .return_)]
theorem oT1 : own_Tab prog_26_method_1_code own_t1 := (own_tb (own_tl (by decide +kernel)) (own_tb (own_tl (by decide +kernel)) (own_tb (own_tl (by decide +kernel)) (own_tb (own_tl (by decide +kernel)) (own_tb (own_tl (by decide +kernel)) (own_tl (by decide +kernel)))))))
def own_t3 : Nat → Option Instr := fun pc => own_lk pc [(0, .aload_n 0), (1, .invokespecial 1), (4, .aload_n 0), (5, .getstatic 39), (8, .putfield 9), (11, .return_)]
theorem oT3 : own_Tab jdk_38_method_2_code own_t3 := (own_tl (by decide +kernel))
def own_t4 : Nat → Option Instr := fun pc => own_lk pc [(0, .aload_n 0), (1, .invokespecial 1), (4, .aload_n 0), (5, .iconst 0), (6, .putfield 7), (9, .return_)]
theorem oT4 : own_Tab jdk_39_method_1_code own_t4 := (own_tl (by decide +kernel))
def own_t5 : Nat → Option Instr := fun pc => own_lk pc [(0, .aload_n 0), (1, .invokespecial 1), (4, .return_)]
theorem oT5 : own_Tab jdk_22_method_1_code own_t5 := (own_tl (by decide +kernel))
def own_t6 : Nat → Option Instr := fun pc => own_lk pc [(0, .aload_n 0), (1, .invokespecial 1), (4, .aload_n 0), (5, .aload_n 1), (6, .putfield 7), (9, .aload_n 0), (10, .dload_n 2), (11, .putfield 13), (14, .return_)]
theorem oT6 : own_Tab prog_27_method_1_code own_t6 := (own_tl (by decide +kernel))
def own_t7 : Nat → Option Instr := fun pc => bif Nat.blt pc 20 then own_lk pc [(0, .aload_n 0), (1, .dup), (2, .getfield 63), (5, .iconst 1), (6, .iadd), (7, .putfield 63), (10, .aload_n 0), (11, .aload_n 1), (12, .aload_n 0), (13, .getfield 9), (16, .aload_n 0), (17, .getfield 48)] else own_lk pc [(20, .invokevirtual 131), (23, .iconst 1), (24, .ireturn)]
theorem oT7 : own_Tab jdk_38_method_25_code own_t7 := (own_tb (own_tl (by decide +kernel)) (own_tl (by decide +kernel)))
def own_t8 : Nat → Option Instr := fun pc => bif Nat.blt pc 16 then own_lk pc [(0, .iload_n 3), (1, .aload_n 2), (2, .arraylength), (3, .if_icmp .ne 8), (6, .aload_n 0), (7, .invokevirtual 129), (10, .astore_n 2), (11, .aload_n 2), (12, .iload_n 3), (13, .aload_n 1), (14, .aastore), (15, .aload_n 0)] else own_lk pc [(16, .iload_n 3), (17, .iconst 1), (18, .iadd), (19, .putfield 48), (22, .return_)]
theorem oT8 : own_Tab jdk_38_method_24_code own_t8 := (own_tb (own_tl (by decide +kernel)) (own_tl (by decide +kernel)))
def own_t9 : Nat → Option Instr := fun pc => own_lk pc [(0, .aload_n 0), (1, .aload_n 0), (2, .getfield 48), (5, .iconst 1), (6, .iadd), (7, .invokevirtual 69), (10, .areturn)]
theorem oT9 : own_Tab jdk_38_method_7_code own_t9 := (own_tl (by decide +kernel))
def own_t10 : Nat → Option Instr := fun pc => bif Nat.blt pc 48 then own_lk pc [(0, .aload_n 0), (1, .getfield 9), (4, .arraylength), (5, .istore_n 2), (6, .iload_n 2), (7, .ifCond .gt 13), (10, .aload_n 0), (11, .getfield 9), (14, .getstatic 39), (17, .if_acmp .eq 28), (45, .aload_n 0), (46, .bipush 10)] else own_lk pc [(48, .iload_n 1), (49, .invokestatic 79), (52, .anewarray 7), (55, .dup_x1), (56, .putfield 9), (59, .areturn)]
theorem oT10 : own_Tab jdk_38_method_6_code own_t10 := (own_tb (own_tl (by decide +kernel)) (own_tl (by decide +kernel)))
def own_t11 : Nat → Option Instr := fun pc => own_lk pc [(0, .iload_n 0), (1, .iload_n 1), (2, .if_icmp .lt 7), (5, .iload_n 0), (6, .goto 4), (9, .iload_n 1), (10, .ireturn)]
theorem oT11 : own_Tab jdk_29_method_65_code own_t11 := (own_tl (by decide +kernel))
def own_t12 : Nat → Option Instr := fun pc => bif Nat.blt pc 22 then own_lk pc [(0, .aload_n 0), (1, .getfield 54), (4, .ifnonnull 60), (7, .dload_n 1), (8, .invokestatic 58), (11, .dstore 4), (13, .aload_n 3), (14, .astore 6), (16, .aload 6), (18, .arraylength), (19, .istore 7), (21, .iconst 0)] else bif Nat.blt pc 46 then own_lk pc [(22, .istore 8), (24, .iload 8), (26, .iload 7), (28, .if_icmp .ge 26), (31, .aload 6), (33, .iload 8), (35, .daload), (36, .dstore 9), (38, .dload 4), (40, .dload 9), (42, .invokestatic 58), (45, .dadd)] else bif Nat.blt pc 72 then own_lk pc [(46, .dstore 4), (48, .iinc 8 1), (51, .goto (-27)), (54, .aload_n 0), (55, .dconst 1), (56, .dload 4), (58, .invokestatic 64), (61, .putfield 68), (64, .aload_n 0), (65, .getfield 31), (68, .newarray .double), (70, .astore 4)] else bif Nat.blt pc 91 then own_lk pc [(72, .aload 4), (74, .iconst 0), (75, .dconst 1), (76, .dastore), (77, .iconst 0), (78, .istore 5), (80, .iload 5), (82, .aload_n 3), (83, .arraylength), (84, .if_icmp .ge 26), (87, .aload 4), (89, .iload 5)] else bif Nat.blt pc 110 then own_lk pc [(91, .iconst 1), (92, .iadd), (93, .aload_n 3), (94, .iload 5), (96, .daload), (97, .dneg), (98, .aload_n 0), (99, .getfield 68), (102, .ddiv), (103, .dastore), (104, .iinc 5 1), (107, .goto (-27))] else bif Nat.blt pc 133 then own_lk pc [(110, .new 43), (113, .dup), (114, .aload 4), (116, .dload_n 1), (117, .aload_n 0), (118, .getfield 68), (121, .ddiv), (122, .invokespecial 45), (125, .astore 5), (127, .aload_n 0), (128, .aload 5), (130, .invokevirtual 72)] else bif Nat.blt pc 157 then own_lk pc [(133, .aload_n 0), (134, .getfield 10), (137, .aload 5), (139, .invokeinterface 48 2), (144, .pop), (145, .aload_n 0), (146, .getfield 54), (149, .ifnonnull 81), (152, .aload_n 0), (153, .iconst 1), (154, .newarray .int), (156, .dup)] else bif Nat.blt pc 178 then own_lk pc [(157, .iconst 0), (158, .iconst 0), (159, .iastore), (160, .putfield 16), (163, .aload_n 0), (164, .iconst 1), (165, .newarray .int), (167, .dup), (168, .iconst 0), (169, .aload_n 0), (170, .getfield 10), (173, .invokeinterface 76 1)] else bif Nat.blt pc 197 then own_lk pc [(178, .iconst 1), (179, .isub), (180, .iastore), (181, .putfield 20), (184, .aload 5), (186, .iconst 1), (187, .putfield 80), (190, .iconst 0), (191, .istore 6), (193, .iload 6), (195, .aload_n 3), (196, .arraylength)] else bif Nat.blt pc 217 then own_lk pc [(197, .if_icmp .ge 29), (200, .aload_n 0), (201, .iload 6), (203, .aload_n 3), (204, .iload 6), (206, .daload), (207, .dconst 0), (208, .dcmp .l), (209, .ifCond .lt 7), (212, .iconst 1), (213, .goto 4), (216, .iconst (-1))] else own_lk pc [(217, .invokevirtual 84), (220, .iinc 6 1), (223, .goto (-30)), (226, .aload_n 0), (227, .invokevirtual 88), (230, .aload_n 0), (231, .getfield 23), (234, .arraylength), (235, .ifCond .eq 27), (262, .iconst 1), (263, .goto 4), (267, .ireturn)]
theorem oT12 : own_Tab prog_26_method_2_code own_t12 := (own_tb (own_tl (by decide +kernel)) (own_tb (own_tl (by decide +kernel)) (own_tb (own_tl (by decide +kernel)) (own_tb (own_tl (by decide +kernel)) (own_tb (own_tl (by decide +kernel)) (own_tb (own_tl (by decide +kernel)) (own_tb (own_tl (by decide +kernel)) (own_tb (own_tl (by decide +kernel)) (own_tb (own_tl (by decide +kernel)) (own_tb (own_tl (by decide +kernel)) (own_tl (by decide +kernel))))))))))))
def own_t15 : Nat → Option Instr := fun pc => bif Nat.blt pc 20 then own_lk pc [(0, .aload_n 1), (1, .dconst 0), (2, .putfield 182), (5, .aload_n 1), (6, .dconst 0), (7, .putfield 185), (10, .iconst 0), (11, .istore_n 2), (12, .iload_n 2), (13, .aload_n 0), (14, .getfield 27), (17, .if_icmp .ge 27)] else bif Nat.blt pc 38 then own_lk pc [(20, .aload_n 0), (21, .getfield 37), (24, .iload_n 2), (25, .iaload), (26, .iconst 1), (27, .if_icmp .ne 11), (30, .aload_n 1), (31, .iload_n 2), (32, .iconst 1), (33, .iadd), (34, .iconst 1), (35, .invokevirtual 262)] else own_lk pc [(38, .iinc 2 1), (41, .goto (-29)), (44, .return_)]
theorem oT15 : own_Tab prog_26_method_30_code own_t15 := (own_tb (own_tl (by decide +kernel)) (own_tb (own_tl (by decide +kernel)) (own_tl (by decide +kernel))))
def own_t16 : Nat → Option Instr := fun pc => own_lk pc [(0, .aload_n 0), (1, .getfield 48), (4, .ireturn)]
theorem oT16 : own_Tab jdk_38_method_8_code own_t16 := (own_tl (by decide +kernel))
def own_t17 : Nat → Option Instr := fun pc => bif Nat.blt pc 18 then own_lk pc [(0, .aload_n 0), (1, .getfield 37), (4, .iload_n 1), (5, .iaload), (6, .istore_n 3), (7, .iload_n 3), (8, .iload_n 2), (9, .if_icmp .eq 71), (12, .iload_n 3), (13, .iconst 1), (14, .if_icmp .eq 8), (17, .iload_n 2)] else bif Nat.blt pc 43 then own_lk pc [(18, .iconst 1), (19, .if_icmp .ne 61), (22, .iload_n 2), (23, .iconst 1), (24, .if_icmp .ne 7), (27, .iconst 1), (28, .goto 4), (31, .iconst (-1)), (32, .istore 4), (34, .aload_n 0), (35, .getfield 10), (38, .invokeinterface 248 1)] else bif Nat.blt pc 72 then own_lk pc [(43, .astore 5), (45, .aload 5), (47, .invokeinterface 252 1), (52, .ifCond .eq 28), (55, .aload 5), (57, .invokeinterface 258 1), (62, .checkcast 43), (65, .astore 6), (67, .aload 6), (69, .iload_n 1), (70, .iconst 1), (71, .iadd)] else own_lk pc [(72, .iload 4), (74, .invokevirtual 262), (77, .goto (-32)), (80, .aload_n 0), (81, .getfield 37), (84, .iload_n 1), (85, .iload_n 2), (86, .iastore), (87, .return_)]
theorem oT17 : own_Tab prog_26_method_28_code own_t17 := (own_tb (own_tl (by decide +kernel)) (own_tb (own_tl (by decide +kernel)) (own_tb (own_tl (by decide +kernel)) (own_tl (by decide +kernel)))))
def own_t18 : Nat → Option Instr := fun pc => bif Nat.blt pc 17 then own_lk pc [(0, .aload_n 0), (1, .getfield 16), (4, .arraylength), (5, .istore_n 1), (6, .iload_n 1), (7, .iload_n 1), (8, .multianewarray 234 2), (12, .astore_n 2), (13, .iconst 0), (14, .istore_n 3), (15, .iload_n 3), (16, .iload_n 1)] else bif Nat.blt pc 38 then own_lk pc [(17, .if_icmp .ge 59), (20, .iconst 0), (21, .istore 4), (23, .iload 4), (25, .iload_n 1), (26, .if_icmp .ge 44), (29, .aload_n 2), (30, .iload_n 3), (31, .aaload), (32, .iload 4), (34, .aload_n 0), (35, .getfield 10)] else bif Nat.blt pc 63 then own_lk pc [(38, .aload_n 0), (39, .getfield 20), (42, .iload 4), (44, .iaload), (45, .invokeinterface 169 2), (50, .checkcast 43), (53, .getfield 188), (56, .aload_n 0), (57, .getfield 16), (60, .iload_n 3), (61, .iaload), (62, .daload)] else bif Nat.blt pc 89 then own_lk pc [(63, .dastore), (64, .iinc 4 1), (67, .goto (-44)), (70, .iinc 3 1), (73, .goto (-58)), (76, .aload_n 0), (77, .aload_n 2), (78, .invokestatic 265), (81, .putfield 54), (84, .aload_n 0), (85, .iconst 0), (86, .invokevirtual 193)] else bif Nat.blt pc 110 then own_lk pc [(89, .istore_n 3), (90, .aload_n 0), (91, .iload_n 1), (92, .newarray .double), (94, .putfield 173), (97, .iconst 0), (98, .istore 4), (100, .iload 4), (102, .iload_n 1), (103, .if_icmp .ge 25), (106, .aload_n 0), (107, .getfield 173)] else bif Nat.blt pc 130 then own_lk pc [(110, .iload 4), (112, .aload_n 0), (113, .getfield 54), (116, .iload 4), (118, .aaload), (119, .iload_n 3), (120, .daload), (121, .dastore), (122, .iinc 4 1), (125, .goto (-25)), (128, .aload_n 0), (129, .aload_n 0)] else bif Nat.blt pc 156 then own_lk pc [(130, .getfield 173), (133, .invokevirtual 196), (136, .astore 4), (138, .iconst 0), (139, .istore 5), (141, .iload 5), (143, .aload_n 0), (144, .getfield 27), (147, .if_icmp .ge 51), (150, .aload_n 0), (151, .getfield 40), (154, .iload 5)] else bif Nat.blt pc 178 then own_lk pc [(156, .aload_n 0), (157, .getfield 37), (160, .iload 5), (162, .iaload), (163, .ifCond .ne 7), (166, .dconst 0), (167, .goto 24), (170, .dconst 0), (171, .aload_n 0), (172, .getfield 37), (175, .iload 5), (177, .iaload)] else bif Nat.blt pc 198 then own_lk pc [(178, .ineg), (179, .i2d), (180, .aload 4), (182, .iload 5), (184, .iconst 1), (185, .iadd), (186, .daload), (187, .dmul), (188, .invokestatic 64), (191, .dastore), (192, .iinc 5 1), (195, .goto (-54))] else bif Nat.blt pc 220 then own_lk pc [(198, .iconst 0), (199, .istore 5), (201, .iload 5), (203, .iload_n 1), (204, .if_icmp .ge 27), (207, .aload_n 0), (208, .getfield 173), (211, .iload 5), (213, .dconst 0), (214, .aload_n 0), (215, .getfield 173), (218, .iload 5)] else bif Nat.blt pc 252 then own_lk pc [(220, .daload), (221, .invokestatic 64), (224, .dastore), (225, .iinc 5 1), (228, .goto (-27)), (231, .aload_n 0), (232, .getfield 10), (235, .invokeinterface 248 1), (240, .astore 5), (242, .aload 5), (244, .invokeinterface 252 1), (249, .ifCond .eq 24)] else own_lk pc [(252, .aload 5), (254, .invokeinterface 258 1), (259, .checkcast 43), (262, .astore 6), (264, .aload_n 0), (265, .aload 6), (267, .invokevirtual 72), (270, .goto (-28)), (273, .aload_n 0), (274, .iconst 0), (275, .putfield 106), (278, .return_)]
theorem oT18 : own_Tab prog_26_method_29_code own_t18 := (own_tb (own_tl (by decide +kernel)) (own_tb (own_tl (by decide +kernel)) (own_tb (own_tl (by decide +kernel)) (own_tb (own_tl (by decide +kernel)) (own_tb (own_tl (by decide +kernel)) (own_tb (own_tl (by decide +kernel)) (own_tb (own_tl (by decide +kernel)) (own_tb (own_tl (by decide +kernel)) (own_tb (own_tl (by decide +kernel)) (own_tb (own_tl (by decide +kernel)) (own_tb (own_tl (by decide +kernel)) (own_tl (by decide +kernel)))))))))))))
def own_t19 : Nat → Option Instr := fun pc => own_lk pc [(0, .iload_n 1), (1, .aload_n 0), (2, .getfield 48), (5, .invokestatic 118), (8, .pop), (9, .aload_n 0), (10, .iload_n 1), (11, .invokevirtual 123), (14, .areturn)]
theorem oT19 : own_Tab jdk_38_method_20_code own_t19 := (own_tl (by decide +kernel))
def own_t20 : Nat → Option Instr := fun pc => own_lk pc [(0, .iload_n 0), (1, .iload_n 1), (2, .aconst_null), (3, .invokestatic 105), (6, .ireturn)]
theorem oT20 : own_Tab jdk_31_method_17_code own_t20 := (own_tl (by decide +kernel))
def own_t21 : Nat → Option Instr := fun pc => own_lk pc [(0, .iload_n 0), (1, .ifCond .lt 8), (4, .iload_n 0), (5, .iload_n 1), (6, .if_icmp .lt 10), (16, .iload_n 0), (17, .ireturn)]
theorem oT21 : own_Tab jdk_41_method_11_code own_t21 := (own_tl (by decide +kernel))
def own_t22 : Nat → Option Instr := fun pc => own_lk pc [(0, .aload_n 0), (1, .getfield 9), (4, .iload_n 1), (5, .aaload), (6, .areturn)]
theorem oT22 : own_Tab jdk_38_method_18_code own_t22 := (own_tl (by decide +kernel))
def own_t23 : Nat → Option Instr := fun pc => bif Nat.blt pc 18 then own_lk pc [(0, .aload_n 0), (1, .arraylength), (2, .istore_n 1), (3, .iload_n 1), (4, .anewarray 7), (7, .astore_n 2), (8, .iload_n 1), (9, .iload_n 1), (10, .multianewarray 9 2), (14, .astore_n 3), (15, .iconst 0), (16, .istore 4)] else bif Nat.blt pc 39 then own_lk pc [(18, .iload 4), (20, .iload_n 1), (21, .if_icmp .ge 31), (24, .aload_n 2), (25, .iload 4), (27, .aload_n 0), (28, .iload 4), (30, .aaload), (31, .invokevirtual 11), (34, .checkcast 7), (37, .aastore), (38, .aload_n 3)] else bif Nat.blt pc 61 then own_lk pc [(39, .iload 4), (41, .aaload), (42, .iload 4), (44, .dconst 1), (45, .dastore), (46, .iinc 4 1), (49, .goto (-31)), (52, .iconst 0), (53, .istore 4), (55, .iload 4), (57, .iload_n 1), (58, .if_icmp .ge 238)] else bif Nat.blt pc 81 then own_lk pc [(61, .iload 4), (63, .istore 5), (65, .iload 4), (67, .iconst 1), (68, .iadd), (69, .istore 6), (71, .iload 6), (73, .iload_n 1), (74, .if_icmp .ge 37), (77, .aload_n 2), (78, .iload 6), (80, .aaload)] else bif Nat.blt pc 108 then own_lk pc [(81, .iload 4), (83, .daload), (84, .invokestatic 15), (87, .aload_n 2), (88, .iload 5), (90, .aaload), (91, .iload 4), (93, .daload), (94, .invokestatic 15), (97, .dcmp .l), (98, .ifCond .le 7), (105, .iinc 6 1)] else bif Nat.blt pc 138 then own_lk pc [(108, .goto (-37)), (111, .aload_n 2), (112, .iload 5), (114, .aaload), (115, .iload 4), (117, .daload), (118, .dconst 0), (119, .dcmp .l), (120, .ifCond .ne 13), (133, .aload_n 2), (134, .iload 4), (136, .iload 5)] else bif Nat.blt pc 159 then own_lk pc [(138, .invokestatic 28), (141, .aload_n 3), (142, .iload 4), (144, .iload 5), (146, .invokestatic 28), (149, .aload_n 2), (150, .iload 4), (152, .aaload), (153, .iload 4), (155, .daload), (156, .dstore 6), (158, .iconst 0)] else bif Nat.blt pc 178 then own_lk pc [(159, .istore 8), (161, .iload 8), (163, .iload_n 1), (164, .if_icmp .ge 33), (167, .aload_n 2), (168, .iload 4), (170, .aaload), (171, .iload 8), (173, .dup2), (174, .daload), (175, .dload 6), (177, .ddiv)] else bif Nat.blt pc 197 then own_lk pc [(178, .dastore), (179, .aload_n 3), (180, .iload 4), (182, .aaload), (183, .iload 8), (185, .dup2), (186, .daload), (187, .dload 6), (189, .ddiv), (190, .dastore), (191, .iinc 8 1), (194, .goto (-33))] else bif Nat.blt pc 217 then own_lk pc [(197, .iconst 0), (198, .istore 8), (200, .iload 8), (202, .iload_n 1), (203, .if_icmp .ge 87), (206, .aload_n 2), (207, .iload 8), (209, .aaload), (210, .iload 4), (212, .daload), (213, .dstore 9), (215, .iload 8)] else bif Nat.blt pc 239 then own_lk pc [(217, .iload 4), (219, .if_icmp .eq 65), (222, .dload 9), (224, .dconst 0), (225, .dcmp .l), (226, .ifCond .eq 58), (229, .iconst 0), (230, .istore 11), (232, .iload 11), (234, .iload_n 1), (235, .if_icmp .ge 49), (238, .aload_n 2)] else bif Nat.blt pc 256 then own_lk pc [(239, .iload 8), (241, .aaload), (242, .iload 11), (244, .dup2), (245, .daload), (246, .dload 9), (248, .aload_n 2), (249, .iload 4), (251, .aaload), (252, .iload 11), (254, .daload), (255, .dmul)] else bif Nat.blt pc 272 then own_lk pc [(256, .dsub), (257, .dastore), (258, .aload_n 3), (259, .iload 8), (261, .aaload), (262, .iload 11), (264, .dup2), (265, .daload), (266, .dload 9), (268, .aload_n 3), (269, .iload 4), (271, .aaload)] else bif Nat.blt pc 297 then own_lk pc [(272, .iload 11), (274, .daload), (275, .dmul), (276, .dsub), (277, .dastore), (278, .iinc 11 1), (281, .goto (-49)), (284, .iinc 8 1), (287, .goto (-87)), (290, .iinc 4 1), (293, .goto (-238)), (296, .aload_n 3)] else own_lk pc [(297, .areturn)]
theorem oT23 : own_Tab prog_21_method_2_code own_t23 := (own_tb (own_tl (by decide +kernel)) (own_tb (own_tl (by decide +kernel)) (own_tb (own_tl (by decide +kernel)) (own_tb (own_tl (by decide +kernel)) (own_tb (own_tl (by decide +kernel)) (own_tb (own_tl (by decide +kernel)) (own_tb (own_tl (by decide +kernel)) (own_tb (own_tl (by decide +kernel)) (own_tb (own_tl (by decide +kernel)) (own_tb (own_tl (by decide +kernel)) (own_tb (own_tl (by decide +kernel)) (own_tb (own_tl (by decide +kernel)) (own_tb (own_tl (by decide +kernel)) (own_tb (own_tl (by decide +kernel)) (own_tl (by decide +kernel))))))))))))))))
def own_t24 : Nat → Option Instr := fun pc => bif Nat.blt pc 12 then own_lk pc [(0, .aload_n 0), (1, .iload_n 1), (2, .aaload), (3, .astore_n 3), (4, .aload_n 0), (5, .iload_n 1), (6, .aload_n 0), (7, .iload_n 2), (8, .aaload), (9, .aastore), (10, .aload_n 0), (11, .iload_n 2)] else own_lk pc [(12, .aload_n 3), (13, .aastore), (14, .return_)]
theorem oT24 : own_Tab prog_21_method_4_code own_t24 := (own_tb (own_tl (by decide +kernel)) (own_tl (by decide +kernel)))
def own_t25 : Nat → Option Instr := fun pc => bif Nat.blt pc 18 then own_lk pc [(0, .iconst (-1)), (1, .istore_n 2), (2, .iconst 0), (3, .istore_n 3), (4, .iload_n 3), (5, .aload_n 0), (6, .getfield 16), (9, .arraylength), (10, .if_icmp .ge 25), (13, .iload_n 2), (14, .ifCond .ge 21), (17, .aload_n 0)] else bif Nat.blt pc 54 then own_lk pc [(18, .getfield 16), (21, .iload_n 3), (22, .iaload), (23, .iload_n 1), (24, .if_icmp .ne 5), (27, .iload_n 3), (28, .istore_n 2), (29, .iinc 3 1), (32, .goto (-28)), (35, .iload_n 2), (36, .ifCond .ge 17), (53, .iload_n 2)] else own_lk pc [(54, .ireturn)]
theorem oT25 : own_Tab prog_26_method_21_code own_t25 := (own_tb (own_tl (by decide +kernel)) (own_tb (own_tl (by decide +kernel)) (own_tl (by decide +kernel))))
def own_t26 : Nat → Option Instr := fun pc => bif Nat.blt pc 17 then own_lk pc [(0, .aload_n 0), (1, .getfield 31), (4, .newarray .double), (6, .astore_n 2), (7, .iconst 0), (8, .istore_n 3), (9, .iload_n 3), (10, .aload_n 1), (11, .arraylength), (12, .if_icmp .ge 77), (15, .aload_n 1), (16, .iload_n 3)] else bif Nat.blt pc 37 then own_lk pc [(17, .daload), (18, .dstore 4), (20, .dload 4), (22, .dconst 0), (23, .dcmp .l), (24, .ifCond .eq 59), (27, .aload_n 0), (28, .getfield 10), (31, .aload_n 0), (32, .getfield 20), (35, .iload_n 3), (36, .iaload)] else bif Nat.blt pc 65 then own_lk pc [(37, .invokeinterface 169 2), (42, .checkcast 43), (45, .getfield 188), (48, .astore 6), (50, .iconst 1), (51, .istore 7), (53, .iload 7), (55, .aload_n 0), (56, .getfield 31), (59, .if_icmp .ge 24), (62, .aload_n 2), (63, .iload 7)] else bif Nat.blt pc 86 then own_lk pc [(65, .dup2), (66, .daload), (67, .dload 4), (69, .aload 6), (71, .iload 7), (73, .daload), (74, .dmul), (75, .dadd), (76, .dastore), (77, .iinc 7 1), (80, .goto (-27)), (83, .iinc 3 1)] else own_lk pc [(86, .goto (-77)), (89, .aload_n 2), (90, .areturn)]
theorem oT26 : own_Tab prog_26_method_20_code own_t26 := (own_tb (own_tl (by decide +kernel)) (own_tb (own_tl (by decide +kernel)) (own_tb (own_tl (by decide +kernel)) (own_tb (own_tl (by decide +kernel)) (own_tl (by decide +kernel))))))
def own_t27 : Nat → Option Instr := fun pc => own_lk pc [(0, .new 267), (3, .dup), (4, .aload_n 0), (5, .invokespecial 269), (8, .areturn)]
theorem oT27 : own_Tab jdk_38_method_55_code own_t27 := (own_tl (by decide +kernel))
def own_t28 : Nat → Option Instr := fun pc => bif Nat.blt pc 22 then own_lk pc [(0, .aload_n 0), (1, .aload_n 1), (2, .putfield 1), (5, .aload_n 0), (6, .invokespecial 7), (9, .aload_n 0), (10, .iconst (-1)), (11, .putfield 13), (14, .aload_n 0), (15, .aload_n 0), (16, .getfield 1), (19, .getfield 17)] else own_lk pc [(22, .putfield 22), (25, .return_)]
theorem oT28 : own_Tab jdk_49_method_1_code own_t28 := (own_tb (own_tl (by decide +kernel)) (own_tl (by decide +kernel)))
def own_t29 : Nat → Option Instr := fun pc => own_lk pc [(0, .aload_n 0), (1, .getfield 25), (4, .aload_n 0), (5, .getfield 1), (8, .getfield 28), (11, .if_icmp .eq 7), (14, .iconst 1), (15, .goto 4), (18, .iconst 0), (19, .ireturn)]
theorem oT29 : own_Tab jdk_49_method_2_code own_t29 := (own_tl (by decide +kernel))
def own_t30 : Nat → Option Instr := fun pc => bif Nat.blt pc 32 then own_lk pc [(0, .aload_n 0), (1, .invokevirtual 31), (4, .aload_n 0), (5, .getfield 25), (8, .istore_n 1), (9, .iload_n 1), (10, .aload_n 0), (11, .getfield 1), (14, .getfield 28), (17, .if_icmp .lt 11), (28, .aload_n 0), (29, .getfield 1)] else bif Nat.blt pc 58 then own_lk pc [(32, .getfield 37), (35, .astore_n 2), (36, .iload_n 1), (37, .aload_n 2), (38, .arraylength), (39, .if_icmp .lt 11), (50, .aload_n 0), (51, .iload_n 1), (52, .iconst 1), (53, .iadd), (54, .putfield 25), (57, .aload_n 2)] else own_lk pc [(58, .aload_n 0), (59, .iload_n 1), (60, .dup_x1), (61, .putfield 13), (64, .aaload), (65, .areturn)]
theorem oT30 : own_Tab jdk_49_method_3_code own_t30 := (own_tb (own_tl (by decide +kernel)) (own_tb (own_tl (by decide +kernel)) (own_tl (by decide +kernel))))
def own_t31 : Nat → Option Instr := fun pc => own_lk pc [(0, .aload_n 0), (1, .getfield 1), (4, .getfield 17), (7, .aload_n 0), (8, .getfield 22), (11, .if_icmp .eq 11), (22, .return_)]
theorem oT31 : own_Tab jdk_49_method_6_code own_t31 := (own_tl (by decide +kernel))
def own_t32 : Nat → Option Instr := fun pc => bif Nat.blt pc 16 then own_lk pc [(0, .iconst 0), (1, .istore_n 1), (2, .iconst 0), (3, .istore_n 2), (4, .iconst 0), (5, .istore_n 3), (6, .iload_n 3), (7, .aload_n 0), (8, .getfield 34), (11, .if_icmp .gt 98), (14, .aload_n 0), (15, .aload_n 0)] else bif Nat.blt pc 42 then own_lk pc [(16, .invokevirtual 99), (19, .putfield 23), (22, .iload_n 1), (23, .iconst 2), (24, .aload_n 0), (25, .getfield 31), (28, .imul), (29, .if_icmp .le 7), (36, .iconst 0), (37, .istore 4), (39, .aload_n 0), (40, .iload 4)] else bif Nat.blt pc 69 then own_lk pc [(42, .invokevirtual 102), (45, .istore 5), (47, .iload 5), (49, .ifCond .ge 15), (52, .iload_n 2), (53, .ifCond .ne 10), (56, .aload_n 0), (57, .getfield 106), (60, .ifCond .ne 4), (63, .return_), (64, .iload 5), (66, .ifCond .ge 12)] else bif Nat.blt pc 91 then own_lk pc [(69, .aload_n 0), (70, .invokevirtual 88), (73, .iconst 1), (74, .istore_n 2), (75, .goto 28), (78, .aload_n 0), (79, .iload 5), (81, .iload 4), (83, .invokevirtual 109), (86, .dstore 6), (88, .dload 6), (90, .dconst 0)] else own_lk pc [(91, .dcmp .l), (92, .ifCond .le 7), (95, .iconst 0), (96, .goto 6), (99, .iload_n 1), (100, .iconst 1), (101, .iadd), (102, .istore_n 1), (103, .iinc 3 1), (106, .goto (-100))]
theorem oT32 : own_Tab prog_26_method_3_code own_t32 := (own_tb (own_tl (by decide +kernel)) (own_tb (own_tl (by decide +kernel)) (own_tb (own_tl (by decide +kernel)) (own_tb (own_tl (by decide +kernel)) (own_tl (by decide +kernel))))))
def own_t33 : Nat → Option Instr := fun pc => bif Nat.blt pc 19 then own_lk pc [(0, .aload_n 0), (1, .getfield 31), (4, .newarray .double), (6, .astore_n 1), (7, .iconst 0), (8, .istore_n 2), (9, .iload_n 2), (10, .aload_n 0), (11, .getfield 27), (14, .if_icmp .ge 29), (17, .aload_n 1), (18, .iload_n 2)] else bif Nat.blt pc 37 then own_lk pc [(19, .iconst 1), (20, .iadd), (21, .aload_n 0), (22, .getfield 37), (25, .iload_n 2), (26, .iaload), (27, .iconst 1), (28, .if_icmp .ne 7), (31, .dconst 1), (32, .goto 4), (35, .dconst 0), (36, .dastore)] else bif Nat.blt pc 59 then own_lk pc [(37, .iinc 2 1), (40, .goto (-31)), (43, .iconst 0), (44, .istore_n 2), (45, .iload_n 2), (46, .aload_n 0), (47, .getfield 20), (50, .arraylength), (51, .if_icmp .ge 82), (54, .aload_n 0), (55, .getfield 10), (58, .aload_n 0)] else bif Nat.blt pc 84 then own_lk pc [(59, .getfield 20), (62, .iload_n 2), (63, .iaload), (64, .invokeinterface 169 2), (69, .checkcast 43), (72, .astore_n 3), (73, .aload_n 3), (74, .getfield 179), (77, .aload_n 3), (78, .getfield 182), (81, .dsub), (82, .dstore 4)] else bif Nat.blt pc 105 then own_lk pc [(84, .iconst 0), (85, .istore 6), (87, .iload 6), (89, .aload_n 0), (90, .getfield 16), (93, .arraylength), (94, .if_icmp .ge 33), (97, .aload_n 1), (98, .aload_n 0), (99, .getfield 16), (102, .iload 6), (104, .iaload)] else bif Nat.blt pc 121 then own_lk pc [(105, .dup2), (106, .daload), (107, .dload 4), (109, .aload_n 0), (110, .getfield 54), (113, .iload_n 2), (114, .aaload), (115, .iload 6), (117, .daload), (118, .dmul), (119, .dadd), (120, .dastore)] else own_lk pc [(121, .iinc 6 1), (124, .goto (-37)), (127, .iinc 2 1), (130, .goto (-85)), (133, .aload_n 1), (134, .areturn)]
theorem oT33 : own_Tab prog_26_method_18_code own_t33 := (own_tb (own_tl (by decide +kernel)) (own_tb (own_tl (by decide +kernel)) (own_tb (own_tl (by decide +kernel)) (own_tb (own_tl (by decide +kernel)) (own_tb (own_tl (by decide +kernel)) (own_tb (own_tl (by decide +kernel)) (own_tl (by decide +kernel))))))))
def own_t34 : Nat → Option Instr := fun pc => bif Nat.blt pc 20 then own_lk pc [(0, .iconst (-1)), (1, .istore_n 2), (2, .dconst 0), (3, .dstore_n 3), (4, .iconst 2), (5, .aload_n 0), (6, .getfield 27), (9, .imul), (10, .aload_n 0), (11, .getfield 10), (14, .invokeinterface 76 1), (19, .iadd)] else bif Nat.blt pc 49 then own_lk pc [(20, .istore 5), (22, .iconst 0), (23, .istore 6), (25, .iload 6), (27, .iload 5), (29, .if_icmp .ge 47), (32, .iload_n 1), (33, .ifCond .eq 7), (40, .aload_n 0), (41, .iload 6), (43, .invokevirtual 125), (46, .ifCond .ne 24)] else bif Nat.blt pc 70 then own_lk pc [(49, .aload_n 0), (50, .iload 6), (52, .invokevirtual 95), (55, .dstore 7), (57, .dload 7), (59, .dload_n 3), (60, .dcmp .g), (61, .ifCond .ge 9), (64, .iload 6), (66, .istore_n 2), (67, .dload 7), (69, .dstore_n 3)] else own_lk pc [(70, .iinc 6 1), (73, .goto (-48)), (76, .iload_n 2), (77, .ireturn)]
theorem oT34 : own_Tab prog_26_method_6_code own_t34 := (own_tb (own_tl (by decide +kernel)) (own_tb (own_tl (by decide +kernel)) (own_tb (own_tl (by decide +kernel)) (own_tl (by decide +kernel)))))
def own_t35 : Nat → Option Instr := fun pc => bif Nat.blt pc 20 then own_lk pc [(0, .aload_n 0), (1, .iload_n 1), (2, .invokevirtual 157), (5, .ifCond .eq 29), (8, .aload_n 0), (9, .getfield 37), (12, .aload_n 0), (13, .iload_n 1), (14, .invokevirtual 160), (17, .iaload), (18, .aload_n 0), (19, .iload_n 1)] else bif Nat.blt pc 48 then own_lk pc [(20, .invokevirtual 163), (23, .if_icmp .ne 7), (26, .iconst 1), (27, .goto 27), (30, .iconst 0), (31, .goto 23), (34, .aload_n 0), (35, .getfield 10), (38, .aload_n 0), (39, .iload_n 1), (40, .invokevirtual 166), (43, .invokeinterface 169 2)] else own_lk pc [(48, .checkcast 43), (51, .getfield 80), (54, .ireturn)]
theorem oT35 : own_Tab prog_26_method_13_code own_t35 := (own_tb (own_tl (by decide +kernel)) (own_tb (own_tl (by decide +kernel)) (own_tl (by decide +kernel))))
def own_t36 : Nat → Option Instr := fun pc => bif Nat.blt pc 20 then own_lk pc [(0, .iload_n 1), (1, .iconst 1), (2, .if_icmp .lt 17), (5, .iload_n 1), (6, .iconst 2), (7, .aload_n 0), (8, .getfield 27), (11, .imul), (12, .if_icmp .gt 7), (15, .iconst 1), (16, .goto 4), (19, .iconst 0)] else own_lk pc [(20, .ireturn)]
theorem oT36 : own_Tab prog_26_method_8_code own_t36 := (own_tb (own_tl (by decide +kernel)) (own_tl (by decide +kernel)))
def own_t37 : Nat → Option Instr := fun pc => own_lk pc [(0, .iload_n 1), (1, .ifCond .ne 7), (4, .iconst 0), (5, .goto 11), (8, .iload_n 1), (9, .iconst 2), (10, .aload_n 0), (11, .getfield 27), (14, .imul), (15, .isub), (16, .ireturn)]
theorem oT37 : own_Tab prog_26_method_11_code own_t37 := (own_tl (by decide +kernel))
def own_t38 : Nat → Option Instr := fun pc => bif Nat.blt pc 22 then own_lk pc [(0, .aload_n 0), (1, .iload_n 1), (2, .invokevirtual 157), (5, .ifCond .eq 53), (8, .aload_n 0), (9, .iload_n 1), (10, .invokevirtual 163), (13, .iconst 1), (14, .if_icmp .ne 7), (17, .dconst 1), (18, .goto 4), (21, .dconst 0)] else bif Nat.blt pc 40 then own_lk pc [(22, .dstore_n 2), (23, .aload_n 0), (24, .iload_n 1), (25, .invokevirtual 163), (28, .i2d), (29, .aload_n 0), (30, .getfield 23), (33, .aload_n 0), (34, .iload_n 1), (35, .invokevirtual 160), (38, .iconst 1), (39, .iadd)] else bif Nat.blt pc 63 then own_lk pc [(40, .daload), (41, .dmul), (42, .dstore 4), (44, .dconst 1), (45, .dload 4), (47, .invokestatic 58), (50, .invokestatic 64), (53, .dstore 6), (55, .goto 120), (58, .aload_n 0), (59, .getfield 10), (62, .aload_n 0)] else bif Nat.blt pc 91 then own_lk pc [(63, .iload_n 1), (64, .invokevirtual 166), (67, .invokeinterface 169 2), (72, .checkcast 43), (75, .astore 8), (77, .aload 8), (79, .getfield 179), (82, .dstore_n 2), (83, .aload 8), (85, .getfield 182), (88, .dstore 4), (90, .dload_n 2)] else bif Nat.blt pc 116 then own_lk pc [(91, .invokestatic 58), (94, .aload 8), (96, .getfield 185), (99, .invokestatic 64), (102, .dstore 6), (104, .aload_n 0), (105, .getfield 16), (108, .astore 9), (110, .aload 9), (112, .arraylength), (113, .istore 10), (115, .iconst 0)] else bif Nat.blt pc 139 then own_lk pc [(116, .istore 11), (118, .iload 11), (120, .iload 10), (122, .if_icmp .ge 53), (125, .aload 9), (127, .iload 11), (129, .iaload), (130, .istore 12), (132, .aload_n 0), (133, .getfield 23), (136, .iload 12), (138, .daload)] else bif Nat.blt pc 161 then own_lk pc [(139, .aload 8), (141, .getfield 188), (144, .iload 12), (146, .daload), (147, .dmul), (148, .dstore 13), (150, .dload 4), (152, .dload 13), (154, .dadd), (155, .dstore 4), (157, .dload 6), (159, .dload 13)] else bif Nat.blt pc 188 then own_lk pc [(161, .invokestatic 58), (164, .invokestatic 64), (167, .dstore 6), (169, .iinc 11 1), (172, .goto (-54)), (175, .dload_n 2), (176, .dload 4), (178, .dsub), (179, .dstore 8), (181, .dload 8), (183, .ldc2_w 191), (186, .dload 6)] else own_lk pc [(188, .dmul), (189, .dcmp .g), (190, .ifCond .ge 8), (193, .dload 8), (195, .goto 4), (198, .dconst 0), (199, .dreturn)]
theorem oT38 : own_Tab prog_26_method_17_code own_t38 := (own_tb (own_tl (by decide +kernel)) (own_tb (own_tl (by decide +kernel)) (own_tb (own_tl (by decide +kernel)) (own_tb (own_tl (by decide +kernel)) (own_tb (own_tl (by decide +kernel)) (own_tb (own_tl (by decide +kernel)) (own_tb (own_tl (by decide +kernel)) (own_tb (own_tl (by decide +kernel)) (own_tl (by decide +kernel))))))))))
def own_t39 : Nat → Option Instr := fun pc => bif Nat.blt pc 20 then own_lk pc [(0, .iload_n 1), (1, .aload_n 0), (2, .getfield 27), (5, .if_icmp .gt 9), (8, .iload_n 1), (9, .iconst 1), (10, .isub), (11, .goto 11), (14, .iload_n 1), (15, .aload_n 0), (16, .getfield 27), (19, .isub)] else own_lk pc [(20, .iconst 1), (21, .isub), (22, .ireturn)]
theorem oT39 : own_Tab prog_26_method_9_code own_t39 := (own_tb (own_tl (by decide +kernel)) (own_tl (by decide +kernel)))
def own_t40 : Nat → Option Instr := fun pc => own_lk pc [(0, .iload_n 1), (1, .aload_n 0), (2, .getfield 27), (5, .if_icmp .gt 7), (8, .iconst 1), (9, .goto 4), (12, .iconst (-1)), (13, .ireturn)]
theorem oT40 : own_Tab prog_26_method_10_code own_t40 := (own_tl (by decide +kernel))
def own_t41 : Nat → Option Instr := fun pc => own_lk pc [(0, .aload_n 0), (1, .getfield 23), (4, .iconst 0), (5, .daload), (6, .aload_n 0), (7, .getfield 68), (10, .dmul), (11, .dreturn)]
theorem oT41 : own_Tab prog_26_method_4_code own_t41 := (own_tl (by decide +kernel))
def own_t42 : Nat → Option Instr := fun pc => bif Nat.blt pc 18 then own_lk pc [(0, .aload_n 0), (1, .dup), (2, .getfield 17), (5, .iload_n 2), (6, .i2d), (7, .aload_n 0), (8, .getfield 7), (11, .iload_n 1), (12, .daload), (13, .dmul), (14, .dadd), (15, .putfield 17)] else bif Nat.blt pc 36 then own_lk pc [(18, .aload_n 0), (19, .dup), (20, .getfield 20), (23, .iload_n 2), (24, .i2d), (25, .aload_n 0), (26, .getfield 7), (29, .iload_n 1), (30, .daload), (31, .invokestatic 23), (34, .dmul), (35, .dadd)] else own_lk pc [(36, .putfield 20), (39, .return_)]
theorem oT42 : own_Tab prog_27_method_2_code own_t42 := (own_tb (own_tl (by decide +kernel)) (own_tb (own_tl (by decide +kernel)) (own_tl (by decide +kernel))))
def own_t43 : Nat → Option Instr := fun pc => bif Nat.blt pc 19 then own_lk pc [(0, .aload_n 0), (1, .iload_n 1), (2, .invokevirtual 129), (5, .astore_n 3), (6, .aload_n 0), (7, .getfield 20), (10, .arraylength), (11, .aload_n 0), (12, .getfield 27), (15, .iadd), (16, .istore 4), (18, .dconst 0)] else bif Nat.blt pc 45 then own_lk pc [(19, .dstore 5), (21, .iconst 0), (22, .istore 7), (24, .iload 7), (26, .iload 4), (28, .if_icmp .ge 25), (31, .dload 5), (33, .aload_n 3), (34, .iload 7), (36, .invokevirtual 133), (39, .invokestatic 58), (42, .invokestatic 64)] else bif Nat.blt pc 71 then own_lk pc [(45, .dstore 5), (47, .iinc 7 1), (50, .goto (-26)), (53, .iconst (-1)), (54, .istore 7), (56, .ldc2_w 140), (59, .dstore 8), (61, .iconst 0), (62, .istore 10), (64, .iload 10), (66, .iload 4), (68, .if_icmp .ge 82)] else bif Nat.blt pc 94 then own_lk pc [(71, .aload_n 3), (72, .iload 10), (74, .invokevirtual 133), (77, .ldc2_w 142), (80, .dload 5), (82, .dmul), (83, .dcmp .l), (84, .ifCond .le 60), (87, .aload_n 0), (88, .iload 10), (90, .invokevirtual 144), (93, .aload_n 3)] else bif Nat.blt pc 150 then own_lk pc [(94, .iload 10), (96, .invokevirtual 133), (99, .ddiv), (100, .dstore 11), (102, .iload 7), (104, .ifCond .lt 32), (136, .iload 10), (138, .istore 7), (140, .dload 11), (142, .dstore 8), (144, .iinc 10 1), (147, .goto (-83))] else own_lk pc [(150, .iload 7), (152, .ifCond .ge 13), (165, .aload_n 0), (166, .iload_n 1), (167, .iload 7), (169, .aload_n 3), (170, .dload 8), (172, .dconst 0), (173, .invokestatic 64), (176, .invokevirtual 153), (179, .dload 8), (181, .dreturn)]
theorem oT43 : own_Tab prog_26_method_7_code own_t43 := (own_tb (own_tl (by decide +kernel)) (own_tb (own_tl (by decide +kernel)) (own_tb (own_tl (by decide +kernel)) (own_tb (own_tl (by decide +kernel)) (own_tb (own_tl (by decide +kernel)) (own_tl (by decide +kernel)))))))
def own_t44 : Nat → Option Instr := fun pc => bif Nat.blt pc 74 then own_lk pc [(0, .aload_n 0), (1, .getfield 20), (4, .arraylength), (5, .istore_n 2), (6, .iload_n 2), (7, .newarray .double), (9, .astore_n 3), (10, .aload_n 0), (11, .iload_n 1), (12, .invokevirtual 157), (15, .ifCond .eq 58), (73, .aload_n 0)] else bif Nat.blt pc 101 then own_lk pc [(74, .getfield 10), (77, .aload_n 0), (78, .iload_n 1), (79, .invokevirtual 166), (82, .invokeinterface 169 2), (87, .checkcast 43), (90, .getfield 188), (93, .astore 4), (95, .iconst 0), (96, .istore 5), (98, .iload 5), (100, .iload_n 2)] else bif Nat.blt pc 123 then own_lk pc [(101, .if_icmp .ge 63), (104, .dconst 0), (105, .dstore 6), (107, .iconst 0), (108, .istore 8), (110, .iload 8), (112, .aload_n 0), (113, .getfield 16), (116, .arraylength), (117, .if_icmp .ge 35), (120, .dload 6), (122, .aload_n 0)] else bif Nat.blt pc 143 then own_lk pc [(123, .getfield 54), (126, .iload 5), (128, .aaload), (129, .iload 8), (131, .daload), (132, .aload 4), (134, .aload_n 0), (135, .getfield 16), (138, .iload 8), (140, .iaload), (141, .daload), (142, .dmul)] else bif Nat.blt pc 166 then own_lk pc [(143, .dadd), (144, .dstore 6), (146, .iinc 8 1), (149, .goto (-39)), (152, .aload_n 3), (153, .iload 5), (155, .dload 6), (157, .dastore), (158, .iinc 5 1), (161, .goto (-63)), (164, .aload_n 0), (165, .aload_n 3)] else bif Nat.blt pc 191 then own_lk pc [(166, .invokevirtual 196), (169, .astore 5), (171, .aload_n 0), (172, .getfield 27), (175, .newarray .double), (177, .astore 6), (179, .iconst 0), (180, .istore 7), (182, .iload 7), (184, .aload_n 0), (185, .getfield 27), (188, .if_icmp .ge 61)] else bif Nat.blt pc 217 then own_lk pc [(191, .aload_n 0), (192, .getfield 37), (195, .iload 7), (197, .iaload), (198, .ifCond .eq 45), (201, .aload 4), (203, .ifnonnull 7), (210, .aload 4), (212, .iload 7), (214, .iconst 1), (215, .iadd), (216, .daload)] else bif Nat.blt pc 238 then own_lk pc [(217, .dstore 8), (219, .aload 6), (221, .iload 7), (223, .aload_n 0), (224, .getfield 37), (227, .iload 7), (229, .iaload), (230, .i2d), (231, .dload 8), (233, .aload 5), (235, .iload 7), (237, .iconst 1)] else bif Nat.blt pc 259 then own_lk pc [(238, .iadd), (239, .daload), (240, .dsub), (241, .dmul), (242, .dastore), (243, .iinc 7 1), (246, .goto (-64)), (249, .new 134), (252, .dup), (253, .aload_n 3), (254, .aload 6), (256, .invokespecial 200)] else own_lk pc [(259, .areturn)]
theorem oT44 : own_Tab prog_26_method_19_code own_t44 := (own_tb (own_tl (by decide +kernel)) (own_tb (own_tl (by decide +kernel)) (own_tb (own_tl (by decide +kernel)) (own_tb (own_tl (by decide +kernel)) (own_tb (own_tl (by decide +kernel)) (own_tb (own_tl (by decide +kernel)) (own_tb (own_tl (by decide +kernel)) (own_tb (own_tl (by decide +kernel)) (own_tb (own_tl (by decide +kernel)) (own_tl (by decide +kernel)))))))))))
def own_t45 : Nat → Option Instr := fun pc => own_lk pc [(0, .aload_n 0), (1, .invokespecial 1), (4, .aload_n 0), (5, .aload_n 1), (6, .putfield 7), (9, .aload_n 0), (10, .aload_n 2), (11, .putfield 13), (14, .return_)]
theorem oT45 : own_Tab prog_28_method_1_code own_t45 := (own_tl (by decide +kernel))
def own_t46 : Nat → Option Instr := fun pc => own_lk pc [(0, .aload_n 0), (1, .invokespecial 1), (4, .return_)]
theorem oT46 : own_Tab jdk_30_method_1_code own_t46 := (own_tl (by decide +kernel))
def own_t47 : Nat → Option Instr := fun pc => bif Nat.blt pc 22 then own_lk pc [(0, .iload_n 1), (1, .aload_n 0), (2, .getfield 7), (5, .arraylength), (6, .if_icmp .ge 12), (9, .aload_n 0), (10, .getfield 7), (13, .iload_n 1), (14, .daload), (15, .goto 15), (18, .aload_n 0), (19, .getfield 13)] else own_lk pc [(22, .iload_n 1), (23, .aload_n 0), (24, .getfield 7), (27, .arraylength), (28, .isub), (29, .daload), (30, .dreturn)]
theorem oT47 : own_Tab prog_28_method_2_code own_t47 := (own_tb (own_tl (by decide +kernel)) (own_tl (by decide +kernel)))
def own_t48 : Nat → Option Instr := fun pc => bif Nat.blt pc 27 then own_lk pc [(0, .aload_n 0), (1, .getfield 20), (4, .arraylength), (5, .istore_n 2), (6, .iload_n 1), (7, .iload_n 2), (8, .if_icmp .ge 12), (20, .aload_n 0), (21, .getfield 40), (24, .iload_n 1), (25, .iload_n 2), (26, .isub)] else own_lk pc [(27, .daload), (28, .dreturn)]
theorem oT48 : own_Tab prog_26_method_15_code own_t48 := (own_tb (own_tl (by decide +kernel)) (own_tl (by decide +kernel)))
def own_t49 : Nat → Option Instr := fun pc => bif Nat.blt pc 23 then own_lk pc [(0, .aload_n 0), (1, .getfield 20), (4, .arraylength), (5, .istore 6), (7, .iconst 0), (8, .istore 7), (10, .iload 7), (12, .iload 6), (14, .if_icmp .ge 29), (17, .aload_n 0), (18, .getfield 173), (21, .iload 7)] else bif Nat.blt pc 43 then own_lk pc [(23, .dup2), (24, .daload), (25, .dload 4), (27, .aload_n 3), (28, .invokevirtual 204), (31, .iload 7), (33, .daload), (34, .dmul), (35, .dsub), (36, .dastore), (37, .iinc 7 1), (40, .goto (-30))] else bif Nat.blt pc 66 then own_lk pc [(43, .iconst 0), (44, .istore 7), (46, .iload 7), (48, .aload_n 0), (49, .getfield 27), (52, .if_icmp .ge 39), (55, .aload_n 0), (56, .getfield 37), (59, .iload 7), (61, .iaload), (62, .ifCond .eq 23), (65, .aload_n 0)] else bif Nat.blt pc 85 then own_lk pc [(66, .getfield 40), (69, .iload 7), (71, .dup2), (72, .daload), (73, .dload 4), (75, .aload_n 3), (76, .invokevirtual 207), (79, .iload 7), (81, .daload), (82, .dmul), (83, .dsub), (84, .dastore)] else bif Nat.blt pc 114 then own_lk pc [(85, .iinc 7 1), (88, .goto (-42)), (91, .iload_n 2), (92, .iload 6), (94, .if_icmp .ge 7), (101, .iconst 0), (102, .istore 7), (104, .aload_n 0), (105, .iload_n 1), (106, .invokevirtual 157), (109, .ifCond .ne 23), (112, .iload 7)] else bif Nat.blt pc 152 then own_lk pc [(114, .ifCond .eq 18), (132, .aload_n 0), (133, .iload_n 1), (134, .invokevirtual 157), (137, .ifCond .ne 54), (140, .iload_n 2), (141, .iload 6), (143, .isub), (144, .istore 8), (146, .aload_n 0), (147, .getfield 37), (150, .iload 8)] else bif Nat.blt pc 171 then own_lk pc [(152, .iaload), (153, .i2d), (154, .aload_n 3), (155, .invokevirtual 207), (158, .iload 8), (160, .daload), (161, .dmul), (162, .dstore 9), (164, .aload_n 0), (165, .iload 8), (167, .iconst 0), (168, .invokevirtual 84)] else bif Nat.blt pc 296 then own_lk pc [(171, .aload_n 0), (172, .iload 8), (174, .iconst 1), (175, .iadd), (176, .iload_n 1), (177, .aload_n 3), (178, .invokevirtual 204), (181, .dload 9), (183, .dload 4), (185, .invokevirtual 214), (188, .goto 107), (295, .aload_n 0)] else own_lk pc [(296, .dup), (297, .getfield 106), (300, .iconst 1), (301, .iadd), (302, .putfield 106), (305, .aload_n 0), (306, .getfield 106), (309, .bipush 64), (311, .if_icmp .lt 7), (318, .return_)]
theorem oT49 : own_Tab prog_26_method_22_code own_t49 := (own_tb (own_tl (by decide +kernel)) (own_tb (own_tl (by decide +kernel)) (own_tb (own_tl (by decide +kernel)) (own_tb (own_tl (by decide +kernel)) (own_tb (own_tl (by decide +kernel)) (own_tb (own_tl (by decide +kernel)) (own_tb (own_tl (by decide +kernel)) (own_tb (own_tl (by decide +kernel)) (own_tl (by decide +kernel))))))))))
def own_t50 : Nat → Option Instr := fun pc => own_lk pc [(0, .aload_n 0), (1, .getfield 7), (4, .areturn)]
theorem oT50 : own_Tab prog_28_method_6_code own_t50 := (own_tl (by decide +kernel))
def own_t51 : Nat → Option Instr := fun pc => own_lk pc [(0, .aload_n 0), (1, .getfield 13), (4, .areturn)]
theorem oT51 : own_Tab prog_28_method_7_code own_t51 := (own_tl (by decide +kernel))
def own_t52 : Nat → Option Instr := fun pc => bif Nat.blt pc 20 then own_lk pc [(0, .aload_n 0), (1, .getfield 16), (4, .arraylength), (5, .istore 8), (7, .aload_n 0), (8, .iload_n 1), (9, .invokevirtual 230), (12, .astore 9), (14, .iload 8), (16, .iconst 1), (17, .iadd), (18, .iload 8)] else bif Nat.blt pc 43 then own_lk pc [(20, .iconst 1), (21, .iadd), (22, .multianewarray 234 2), (26, .astore 10), (28, .iconst 0), (29, .istore 11), (31, .iload 11), (33, .iload 8), (35, .if_icmp .ge 73), (38, .iconst 0), (39, .istore 12), (41, .iload 12)] else bif Nat.blt pc 65 then own_lk pc [(43, .iload 8), (45, .if_icmp .ge 41), (48, .aload 10), (50, .iload 11), (52, .aaload), (53, .iload 12), (55, .aload_n 0), (56, .getfield 54), (59, .iload 11), (61, .aaload), (62, .iload 12), (64, .daload)] else bif Nat.blt pc 83 then own_lk pc [(65, .aload_n 3), (66, .iload 11), (68, .daload), (69, .aload 9), (71, .iload 12), (73, .daload), (74, .dmul), (75, .dload 4), (77, .ddiv), (78, .dadd), (79, .dastore), (80, .iinc 12 1)] else bif Nat.blt pc 102 then own_lk pc [(83, .goto (-42)), (86, .aload 10), (88, .iload 11), (90, .aaload), (91, .iload 8), (93, .aload_n 3), (94, .iload 11), (96, .daload), (97, .dneg), (98, .dload 4), (100, .ddiv), (101, .dastore)] else bif Nat.blt pc 127 then own_lk pc [(102, .iinc 11 1), (105, .goto (-74)), (108, .iconst 0), (109, .istore 11), (111, .iload 11), (113, .iload 8), (115, .if_icmp .ge 26), (118, .aload 10), (120, .iload 8), (122, .aaload), (123, .iload 11), (125, .aload 9)] else bif Nat.blt pc 148 then own_lk pc [(127, .iload 11), (129, .daload), (130, .dneg), (131, .dload 4), (133, .ddiv), (134, .dastore), (135, .iinc 11 1), (138, .goto (-27)), (141, .aload 10), (143, .iload 8), (145, .aaload), (146, .iload 8)] else bif Nat.blt pc 168 then own_lk pc [(148, .dconst 1), (149, .dload 4), (151, .ddiv), (152, .dastore), (153, .aload_n 0), (154, .aload 10), (156, .putfield 54), (159, .aload_n 0), (160, .aload_n 0), (161, .getfield 16), (164, .iload_n 1), (165, .invokestatic 235)] else bif Nat.blt pc 192 then own_lk pc [(168, .putfield 16), (171, .aload_n 0), (172, .aload_n 0), (173, .getfield 20), (176, .aload_n 0), (177, .iload_n 2), (178, .invokevirtual 166), (181, .invokestatic 235), (184, .putfield 20), (187, .aload_n 0), (188, .getfield 10), (191, .aload_n 0)] else bif Nat.blt pc 217 then own_lk pc [(192, .iload_n 2), (193, .invokevirtual 166), (196, .invokeinterface 169 2), (201, .checkcast 43), (204, .iconst 1), (205, .putfield 80), (208, .iload 8), (210, .iconst 1), (211, .iadd), (212, .newarray .double), (214, .astore 11), (216, .aload_n 0)] else bif Nat.blt pc 239 then own_lk pc [(217, .getfield 173), (220, .iconst 0), (221, .aload 11), (223, .iconst 0), (224, .iload 8), (226, .invokestatic 239), (229, .aload 11), (231, .iload 8), (233, .dload 6), (235, .dastore), (236, .aload_n 0), (237, .aload 11)] else own_lk pc [(239, .putfield 173), (242, .return_)]
theorem oT52 : own_Tab prog_26_method_24_code own_t52 := (own_tb (own_tl (by decide +kernel)) (own_tb (own_tl (by decide +kernel)) (own_tb (own_tl (by decide +kernel)) (own_tb (own_tl (by decide +kernel)) (own_tb (own_tl (by decide +kernel)) (own_tb (own_tl (by decide +kernel)) (own_tb (own_tl (by decide +kernel)) (own_tb (own_tl (by decide +kernel)) (own_tb (own_tl (by decide +kernel)) (own_tb (own_tl (by decide +kernel)) (own_tb (own_tl (by decide +kernel)) (own_tl (by decide +kernel)))))))))))))
def own_t53 : Nat → Option Instr := fun pc => bif Nat.blt pc 19 then own_lk pc [(0, .aload_n 0), (1, .getfield 16), (4, .arraylength), (5, .istore_n 2), (6, .iload_n 2), (7, .newarray .double), (9, .astore_n 3), (10, .iconst 0), (11, .istore 4), (13, .iload 4), (15, .iload_n 2), (16, .if_icmp .ge 77)] else bif Nat.blt pc 45 then own_lk pc [(19, .aload_n 0), (20, .getfield 10), (23, .aload_n 0), (24, .getfield 20), (27, .iload 4), (29, .iaload), (30, .invokeinterface 169 2), (35, .checkcast 43), (38, .getfield 188), (41, .iload_n 1), (42, .daload), (43, .dstore 5)] else bif Nat.blt pc 65 then own_lk pc [(45, .dload 5), (47, .dconst 0), (48, .dcmp .l), (49, .ifCond .eq 38), (52, .iconst 0), (53, .istore 7), (55, .iload 7), (57, .iload_n 2), (58, .if_icmp .ge 29), (61, .aload_n 3), (62, .iload 7), (64, .dup2)] else bif Nat.blt pc 84 then own_lk pc [(65, .daload), (66, .dload 5), (68, .aload_n 0), (69, .getfield 54), (72, .iload 4), (74, .aaload), (75, .iload 7), (77, .daload), (78, .dmul), (79, .dadd), (80, .dastore), (81, .iinc 7 1)] else own_lk pc [(84, .goto (-29)), (87, .iinc 4 1), (90, .goto (-77)), (93, .aload_n 3), (94, .areturn)]
theorem oT53 : own_Tab prog_26_method_27_code own_t53 := (own_tb (own_tl (by decide +kernel)) (own_tb (own_tl (by decide +kernel)) (own_tb (own_tl (by decide +kernel)) (own_tb (own_tl (by decide +kernel)) (own_tl (by decide +kernel))))))
def own_t54 : Nat → Option Instr := fun pc => bif Nat.blt pc 13 then own_lk pc [(0, .aload_n 0), (1, .arraylength), (2, .iconst 1), (3, .iadd), (4, .newarray .int), (6, .astore_n 2), (7, .aload_n 0), (8, .iconst 0), (9, .aload_n 2), (10, .iconst 0), (11, .aload_n 0), (12, .arraylength)] else own_lk pc [(13, .invokestatic 239), (16, .aload_n 2), (17, .aload_n 0), (18, .arraylength), (19, .iload_n 1), (20, .iastore), (21, .aload_n 2), (22, .areturn)]
theorem oT54 : own_Tab prog_26_method_31_code own_t54 := (own_tb (own_tl (by decide +kernel)) (own_tl (by decide +kernel)))
def w0 (hw : own_Hw a0 Z) := own_w hw 0 rfl
def w1 (hw : own_Hw a0 Z) := own_w hw 1 rfl
def w2 (hw : own_Hw a0 Z) := own_w hw 2 rfl
def w3 (hw : own_Hw a0 Z) := own_w hw 3 rfl
def w4 (hw : own_Hw a0 Z) := own_w hw 4 rfl
def w5 (hw : own_Hw a0 Z) := own_w hw 5 rfl
def w6 (hw : own_Hw a0 Z) := own_w hw 6 rfl
def w7 (hw : own_Hw a0 Z) := own_w hw 7 rfl
def w8 (hw : own_Hw a0 Z) := own_w hw 8 rfl
def w9 (hw : own_Hw a0 Z) := own_w hw 9 rfl
def w10 (hw : own_Hw a0 Z) := own_w hw 10 rfl
def w11 (hw : own_Hw a0 Z) := own_w hw 11 rfl
def w12 (hw : own_Hw a0 Z) := own_w hw 12 rfl
def w13 (hw : own_Hw a0 Z) := own_w hw 13 rfl
def w14 (hw : own_Hw a0 Z) := own_w hw 14 rfl
def w15 (hw : own_Hw a0 Z) := own_w hw 15 rfl
def w16 (hw : own_Hw a0 Z) := own_w hw 16 rfl
def w17 (hw : own_Hw a0 Z) := own_w hw 17 rfl
def w18 (hw : own_Hw a0 Z) := own_w hw 18 rfl
def w21 (hw : own_Hw a0 Z) := own_w hw 21 rfl
def w22 (hw : own_Hw a0 Z) := own_w hw 22 rfl
def w23 (hw : own_Hw a0 Z) := own_w hw 23 rfl
def w24 (hw : own_Hw a0 Z) := own_w hw 24 rfl
def w27 (hw : own_Hw a0 Z) := own_w hw 27 rfl
def w28 (hw : own_Hw a0 Z) := own_w hw 28 rfl
def w29 (hw : own_Hw a0 Z) := own_w hw 29 rfl
def w30 (hw : own_Hw a0 Z) := own_w hw 30 rfl
def w31 (hw : own_Hw a0 Z) := own_w hw 31 rfl
def w32 (hw : own_Hw a0 Z) := own_w hw 32 rfl
def w33 (hw : own_Hw a0 Z) := own_w hw 33 rfl
def w34 (hw : own_Hw a0 Z) := own_w hw 34 rfl
def w35 (hw : own_Hw a0 Z) := own_w hw 35 rfl
def w36 (hw : own_Hw a0 Z) := own_w hw 36 rfl
def w37 (hw : own_Hw a0 Z) := own_w hw 37 rfl
def w38 (hw : own_Hw a0 Z) := own_w hw 38 rfl
def w39 (hw : own_Hw a0 Z) := own_w hw 39 rfl
def w40 (hw : own_Hw a0 Z) := own_w hw 40 rfl
def w41 (hw : own_Hw a0 Z) := own_w hw 41 rfl
def w42 (hw : own_Hw a0 Z) := own_w hw 42 rfl
def w43 (hw : own_Hw a0 Z) := own_w hw 43 rfl
def w44 (hw : own_Hw a0 Z) := own_w hw 44 rfl
def w45 (hw : own_Hw a0 Z) := own_w hw 45 rfl
def w46 (hw : own_Hw a0 Z) := own_w hw 46 rfl
def w47 (hw : own_Hw a0 Z) := own_w hw 47 rfl
def w48 (hw : own_Hw a0 Z) := own_w hw 48 rfl
def w49 (hw : own_Hw a0 Z) := own_w hw 49 rfl
def w50 (hw : own_Hw a0 Z) := own_w hw 50 rfl
def w51 (hw : own_Hw a0 Z) := own_w hw 51 rfl
def w52 (hw : own_Hw a0 Z) := own_w hw 52 rfl
def w53 (hw : own_Hw a0 Z) := own_w hw 53 rfl
def w54 (hw : own_Hw a0 Z) := own_w hw 54 rfl
def w55 (hw : own_Hw a0 Z) := own_w hw 55 rfl
def w56 (hw : own_Hw a0 Z) := own_w hw 56 rfl
def w57 (hw : own_Hw a0 Z) := own_w hw 57 rfl
def w58 (hw : own_Hw a0 Z) := own_w hw 58 rfl
def w59 (hw : own_Hw a0 Z) := own_w hw 59 rfl
def w60 (hw : own_Hw a0 Z) := own_w hw 60 rfl
def w61 (hw : own_Hw a0 Z) := own_w hw 61 rfl
def w62 (hw : own_Hw a0 Z) := own_w hw 62 rfl
def w63 (hw : own_Hw a0 Z) := own_w hw 63 rfl
def w64 (hw : own_Hw a0 Z) := own_w hw 64 rfl
def w65 (hw : own_Hw a0 Z) := own_w hw 65 rfl
def w66 (hw : own_Hw a0 Z) := own_w hw 66 rfl
def w67 (hw : own_Hw a0 Z) := own_w hw 67 rfl
def w68 (hw : own_Hw a0 Z) := own_w hw 68 rfl
def w69 (hw : own_Hw a0 Z) := own_w hw 69 rfl
def w70 (hw : own_Hw a0 Z) := own_w hw 70 rfl
def w71 (hw : own_Hw a0 Z) := own_w hw 71 rfl
def w72 (hw : own_Hw a0 Z) := own_w hw 72 rfl
def w73 (hw : own_Hw a0 Z) := own_w hw 73 rfl
def w74 (hw : own_Hw a0 Z) := own_w hw 74 rfl
def w75 (hw : own_Hw a0 Z) := own_w hw 75 rfl
def w76 (hw : own_Hw a0 Z) := own_w hw 76 rfl
def w77 (hw : own_Hw a0 Z) := own_w hw 77 rfl
def w78 (hw : own_Hw a0 Z) := own_w hw 78 rfl
def w79 (hw : own_Hw a0 Z) := own_w hw 79 rfl
def w80 (hw : own_Hw a0 Z) := own_w hw 80 rfl
def w81 (hw : own_Hw a0 Z) := own_w hw 81 rfl
def w82 (hw : own_Hw a0 Z) := own_w hw 82 rfl
def w83 (hw : own_Hw a0 Z) := own_w hw 83 rfl
def w84 (hw : own_Hw a0 Z) := own_w hw 84 rfl
def w85 (hw : own_Hw a0 Z) := own_w hw 85 rfl
def w86 (hw : own_Hw a0 Z) := own_w hw 86 rfl
def w87 (hw : own_Hw a0 Z) := own_w hw 87 rfl
def w88 (hw : own_Hw a0 Z) := own_w hw 88 rfl
def w89 (hw : own_Hw a0 Z) := own_w hw 89 rfl
def w90 (hw : own_Hw a0 Z) := own_w hw 90 rfl
def w91 (hw : own_Hw a0 Z) := own_w hw 91 rfl
def w92 (hw : own_Hw a0 Z) := own_w hw 92 rfl
def w93 (hw : own_Hw a0 Z) := own_w hw 93 rfl
def w94 (hw : own_Hw a0 Z) := own_w hw 94 rfl
def w95 (hw : own_Hw a0 Z) := own_w hw 95 rfl
def w96 (hw : own_Hw a0 Z) := own_w hw 96 rfl
def w97 (hw : own_Hw a0 Z) := own_w hw 97 rfl
def w98 (hw : own_Hw a0 Z) := own_w hw 98 rfl
def w99 (hw : own_Hw a0 Z) := own_w hw 99 rfl
def w100 (hw : own_Hw a0 Z) := own_w hw 100 rfl
def w101 (hw : own_Hw a0 Z) := own_w hw 101 rfl
def w102 (hw : own_Hw a0 Z) := own_w hw 102 rfl
def w103 (hw : own_Hw a0 Z) := own_w hw 103 rfl
def w104 (hw : own_Hw a0 Z) := own_w hw 104 rfl
def w105 (hw : own_Hw a0 Z) := own_w hw 105 rfl
def w106 (hw : own_Hw a0 Z) := own_w hw 106 rfl
def w107 (hw : own_Hw a0 Z) := own_w hw 107 rfl
def w108 (hw : own_Hw a0 Z) := own_w hw 108 rfl
def w109 (hw : own_Hw a0 Z) := own_w hw 109 rfl
def w110 (hw : own_Hw a0 Z) := own_w hw 110 rfl
def w111 (hw : own_Hw a0 Z) := own_w hw 111 rfl
def w112 (hw : own_Hw a0 Z) := own_w hw 112 rfl
def w113 (hw : own_Hw a0 Z) := own_w hw 113 rfl
def w114 (hw : own_Hw a0 Z) := own_w hw 114 rfl
def w115 (hw : own_Hw a0 Z) := own_w hw 115 rfl
def w116 (hw : own_Hw a0 Z) := own_w hw 116 rfl
def w117 (hw : own_Hw a0 Z) := own_w hw 117 rfl
def w118 (hw : own_Hw a0 Z) := own_w hw 118 rfl
def w119 (hw : own_Hw a0 Z) := own_w hw 119 rfl
def w120 (hw : own_Hw a0 Z) := own_w hw 120 rfl
def w121 (hw : own_Hw a0 Z) := own_w hw 121 rfl
def w122 (hw : own_Hw a0 Z) := own_w hw 122 rfl
def w123 (hw : own_Hw a0 Z) := own_w hw 123 rfl
def w124 (hw : own_Hw a0 Z) := own_w hw 124 rfl
def w125 (hw : own_Hw a0 Z) := own_w hw 125 rfl
def w126 (hw : own_Hw a0 Z) := own_w hw 126 rfl
def w127 (hw : own_Hw a0 Z) := own_w hw 127 rfl
def w128 (hw : own_Hw a0 Z) := own_w hw 128 rfl
def w129 (hw : own_Hw a0 Z) := own_w hw 129 rfl
def w130 (hw : own_Hw a0 Z) := own_w hw 130 rfl
def w131 (hw : own_Hw a0 Z) := own_w hw 131 rfl
def w132 (hw : own_Hw a0 Z) := own_w hw 132 rfl
def w133 (hw : own_Hw a0 Z) := own_w hw 133 rfl
def w134 (hw : own_Hw a0 Z) := own_w hw 134 rfl
def w135 (hw : own_Hw a0 Z) := own_w hw 135 rfl
def w136 (hw : own_Hw a0 Z) := own_w hw 136 rfl
def w137 (hw : own_Hw a0 Z) := own_w hw 137 rfl
def w138 (hw : own_Hw a0 Z) := own_w hw 138 rfl
def w139 (hw : own_Hw a0 Z) := own_w hw 139 rfl
def w140 (hw : own_Hw a0 Z) := own_w hw 140 rfl
def w141 (hw : own_Hw a0 Z) := own_w hw 141 rfl
def w142 (hw : own_Hw a0 Z) := own_w hw 142 rfl
def w143 (hw : own_Hw a0 Z) := own_w hw 143 rfl
def w144 (hw : own_Hw a0 Z) := own_w hw 144 rfl
def w145 (hw : own_Hw a0 Z) := own_w hw 145 rfl
def w146 (hw : own_Hw a0 Z) := own_w hw 146 rfl
def w147 (hw : own_Hw a0 Z) := own_w hw 147 rfl
def w148 (hw : own_Hw a0 Z) := own_w hw 148 rfl
def w149 (hw : own_Hw a0 Z) := own_w hw 149 rfl
def w150 (hw : own_Hw a0 Z) := own_w hw 150 rfl
def w151 (hw : own_Hw a0 Z) := own_w hw 151 rfl
def w152 (hw : own_Hw a0 Z) := own_w hw 152 rfl
def w153 (hw : own_Hw a0 Z) := own_w hw 153 rfl
def w154 (hw : own_Hw a0 Z) := own_w hw 154 rfl
def w155 (hw : own_Hw a0 Z) := own_w hw 155 rfl
def w156 (hw : own_Hw a0 Z) := own_w hw 156 rfl
def w157 (hw : own_Hw a0 Z) := own_w hw 157 rfl
def w158 (hw : own_Hw a0 Z) := own_w hw 158 rfl
def w159 (hw : own_Hw a0 Z) := own_w hw 159 rfl
def w160 (hw : own_Hw a0 Z) := own_w hw 160 rfl
def w161 (hw : own_Hw a0 Z) := own_w hw 161 rfl
def w162 (hw : own_Hw a0 Z) := own_w hw 162 rfl
def w163 (hw : own_Hw a0 Z) := own_w hw 163 rfl
def w164 (hw : own_Hw a0 Z) := own_w hw 164 rfl
def w166 (hw : own_Hw a0 Z) := own_w hw 166 rfl
def w167 (hw : own_Hw a0 Z) := own_w hw 167 rfl
def w168 (hw : own_Hw a0 Z) := own_w hw 168 rfl
def w169 (hw : own_Hw a0 Z) := own_w hw 169 rfl
def w170 (hw : own_Hw a0 Z) := own_w hw 170 rfl
def w171 (hw : own_Hw a0 Z) := own_w hw 171 rfl
def w172 (hw : own_Hw a0 Z) := own_w hw 172 rfl
def w173 (hw : own_Hw a0 Z) := own_w hw 173 rfl
def w174 (hw : own_Hw a0 Z) := own_w hw 174 rfl
def w176 (hw : own_Hw a0 Z) := own_w hw 176 rfl
def w177 (hw : own_Hw a0 Z) := own_w hw 177 rfl
def w178 (hw : own_Hw a0 Z) := own_w hw 178 rfl
def w179 (hw : own_Hw a0 Z) := own_w hw 179 rfl
def w181 (hw : own_Hw a0 Z) := own_w hw 181 rfl
def w182 (hw : own_Hw a0 Z) := own_w hw 182 rfl
def w183 (hw : own_Hw a0 Z) := own_w hw 183 rfl
def w184 (hw : own_Hw a0 Z) := own_w hw 184 rfl
def w185 (hw : own_Hw a0 Z) := own_w hw 185 rfl
def w186 (hw : own_Hw a0 Z) := own_w hw 186 rfl
def w187 (hw : own_Hw a0 Z) := own_w hw 187 rfl
def w188 (hw : own_Hw a0 Z) := own_w hw 188 rfl
def w189 (hw : own_Hw a0 Z) := own_w hw 189 rfl
def w190 (hw : own_Hw a0 Z) := own_w hw 190 rfl
def w191 (hw : own_Hw a0 Z) := own_w hw 191 rfl
def w192 (hw : own_Hw a0 Z) := own_w hw 192 rfl
def w193 (hw : own_Hw a0 Z) := own_w hw 193 rfl
def w194 (hw : own_Hw a0 Z) := own_w hw 194 rfl
def w195 (hw : own_Hw a0 Z) := own_w hw 195 rfl
def w196 (hw : own_Hw a0 Z) := own_w hw 196 rfl
def w197 (hw : own_Hw a0 Z) := own_w hw 197 rfl
def w198 (hw : own_Hw a0 Z) := own_w hw 198 rfl
def w199 (hw : own_Hw a0 Z) := own_w hw 199 rfl
def w200 (hw : own_Hw a0 Z) := own_w hw 200 rfl
def w201 (hw : own_Hw a0 Z) := own_w hw 201 rfl
def w202 (hw : own_Hw a0 Z) := own_w hw 202 rfl
def w203 (hw : own_Hw a0 Z) := own_w hw 203 rfl
def w204 (hw : own_Hw a0 Z) := own_w hw 204 rfl
def w205 (hw : own_Hw a0 Z) := own_w hw 205 rfl
def w206 (hw : own_Hw a0 Z) := own_w hw 206 rfl
def w208 (hw : own_Hw a0 Z) := own_w hw 208 rfl
def w209 (hw : own_Hw a0 Z) := own_w hw 209 rfl
def w210 (hw : own_Hw a0 Z) := own_w hw 210 rfl
def w211 (hw : own_Hw a0 Z) := own_w hw 211 rfl
def w212 (hw : own_Hw a0 Z) := own_w hw 212 rfl
def w213 (hw : own_Hw a0 Z) := own_w hw 213 rfl
def w214 (hw : own_Hw a0 Z) := own_w hw 214 rfl
def w215 (hw : own_Hw a0 Z) := own_w hw 215 rfl
def w216 (hw : own_Hw a0 Z) := own_w hw 216 rfl
def w217 (hw : own_Hw a0 Z) := own_w hw 217 rfl
def w218 (hw : own_Hw a0 Z) := own_w hw 218 rfl
def w219 (hw : own_Hw a0 Z) := own_w hw 219 rfl
def w220 (hw : own_Hw a0 Z) := own_w hw 220 rfl
def w221 (hw : own_Hw a0 Z) := own_w hw 221 rfl
def w222 (hw : own_Hw a0 Z) := own_w hw 222 rfl
def w223 (hw : own_Hw a0 Z) := own_w hw 223 rfl
def w224 (hw : own_Hw a0 Z) := own_w hw 224 rfl
def w225 (hw : own_Hw a0 Z) := own_w hw 225 rfl
def w226 (hw : own_Hw a0 Z) := own_w hw 226 rfl
def w227 (hw : own_Hw a0 Z) := own_w hw 227 rfl
def w228 (hw : own_Hw a0 Z) := own_w hw 228 rfl
def w229 (hw : own_Hw a0 Z) := own_w hw 229 rfl
def w230 (hw : own_Hw a0 Z) := own_w hw 230 rfl
def w231 (hw : own_Hw a0 Z) := own_w hw 231 rfl
def w232 (hw : own_Hw a0 Z) := own_w hw 232 rfl
def w233 (hw : own_Hw a0 Z) := own_w hw 233 rfl
def w234 (hw : own_Hw a0 Z) := own_w hw 234 rfl
def w235 (hw : own_Hw a0 Z) := own_w hw 235 rfl
def w236 (hw : own_Hw a0 Z) := own_w hw 236 rfl
def w237 (hw : own_Hw a0 Z) := own_w hw 237 rfl
def w238 (hw : own_Hw a0 Z) := own_w hw 238 rfl
def w239 (hw : own_Hw a0 Z) := own_w hw 239 rfl
def w240 (hw : own_Hw a0 Z) := own_w hw 240 rfl
def w241 (hw : own_Hw a0 Z) := own_w hw 241 rfl
def w242 (hw : own_Hw a0 Z) := own_w hw 242 rfl
def w243 (hw : own_Hw a0 Z) := own_w hw 243 rfl
def w244 (hw : own_Hw a0 Z) := own_w hw 244 rfl
def w245 (hw : own_Hw a0 Z) := own_w hw 245 rfl
def w246 (hw : own_Hw a0 Z) := own_w hw 246 rfl
def w247 (hw : own_Hw a0 Z) := own_w hw 247 rfl
def w248 (hw : own_Hw a0 Z) := own_w hw 248 rfl
def w249 (hw : own_Hw a0 Z) := own_w hw 249 rfl
def w250 (hw : own_Hw a0 Z) := own_w hw 250 rfl
def w251 (hw : own_Hw a0 Z) := own_w hw 251 rfl
def w252 (hw : own_Hw a0 Z) := own_w hw 252 rfl
def w253 (hw : own_Hw a0 Z) := own_w hw 253 rfl
def w254 (hw : own_Hw a0 Z) := own_w hw 254 rfl
def w255 (hw : own_Hw a0 Z) := own_w hw 255 rfl
def w256 (hw : own_Hw a0 Z) := own_w hw 256 rfl
def w257 (hw : own_Hw a0 Z) := own_w hw 257 rfl
def w258 (hw : own_Hw a0 Z) := own_w hw 258 rfl
def w259 (hw : own_Hw a0 Z) := own_w hw 259 rfl
def w260 (hw : own_Hw a0 Z) := own_w hw 260 rfl
def w261 (hw : own_Hw a0 Z) := own_w hw 261 rfl
def w262 (hw : own_Hw a0 Z) := own_w hw 262 rfl
def w263 (hw : own_Hw a0 Z) := own_w hw 263 rfl
def w264 (hw : own_Hw a0 Z) := own_w hw 264 rfl
def w265 (hw : own_Hw a0 Z) := own_w hw 265 rfl
def w266 (hw : own_Hw a0 Z) := own_w hw 266 rfl
def w267 (hw : own_Hw a0 Z) := own_w hw 267 rfl
def w268 (hw : own_Hw a0 Z) := own_w hw 268 rfl
def w269 (hw : own_Hw a0 Z) := own_w hw 269 rfl
def w270 (hw : own_Hw a0 Z) := own_w hw 270 rfl
def w271 (hw : own_Hw a0 Z) := own_w hw 271 rfl
def w272 (hw : own_Hw a0 Z) := own_w hw 272 rfl
def w273 (hw : own_Hw a0 Z) := own_w hw 273 rfl
def w274 (hw : own_Hw a0 Z) := own_w hw 274 rfl
def w275 (hw : own_Hw a0 Z) := own_w hw 275 rfl
def w276 (hw : own_Hw a0 Z) := own_w hw 276 rfl
def w277 (hw : own_Hw a0 Z) := own_w hw 277 rfl
def w278 (hw : own_Hw a0 Z) := own_w hw 278 rfl
def w279 (hw : own_Hw a0 Z) := own_w hw 279 rfl
def w280 (hw : own_Hw a0 Z) := own_w hw 280 rfl
def w281 (hw : own_Hw a0 Z) := own_w hw 281 rfl
def w282 (hw : own_Hw a0 Z) := own_w hw 282 rfl
def w283 (hw : own_Hw a0 Z) := own_w hw 283 rfl
def w284 (hw : own_Hw a0 Z) := own_w hw 284 rfl
def w285 (hw : own_Hw a0 Z) := own_w hw 285 rfl
def w286 (hw : own_Hw a0 Z) := own_w hw 286 rfl
def w287 (hw : own_Hw a0 Z) := own_w hw 287 rfl
def w288 (hw : own_Hw a0 Z) := own_w hw 288 rfl
def w289 (hw : own_Hw a0 Z) := own_w hw 289 rfl
def w290 (hw : own_Hw a0 Z) := own_w hw 290 rfl
def w291 (hw : own_Hw a0 Z) := own_w hw 291 rfl
def w292 (hw : own_Hw a0 Z) := own_w hw 292 rfl
def w293 (hw : own_Hw a0 Z) := own_w hw 293 rfl
def w294 (hw : own_Hw a0 Z) := own_w hw 294 rfl
def w295 (hw : own_Hw a0 Z) := own_w hw 295 rfl
def w296 (hw : own_Hw a0 Z) := own_w hw 296 rfl
def w297 (hw : own_Hw a0 Z) := own_w hw 297 rfl
def w298 (hw : own_Hw a0 Z) := own_w hw 298 rfl
def w299 (hw : own_Hw a0 Z) := own_w hw 299 rfl
def w300 (hw : own_Hw a0 Z) := own_w hw 300 rfl
def w301 (hw : own_Hw a0 Z) := own_w hw 301 rfl
def w302 (hw : own_Hw a0 Z) := own_w hw 302 rfl
def w303 (hw : own_Hw a0 Z) := own_w hw 303 rfl
def w304 (hw : own_Hw a0 Z) := own_w hw 304 rfl
def w305 (hw : own_Hw a0 Z) := own_w hw 305 rfl
def w306 (hw : own_Hw a0 Z) := own_w hw 306 rfl
def w307 (hw : own_Hw a0 Z) := own_w hw 307 rfl
def w308 (hw : own_Hw a0 Z) := own_w hw 308 rfl
def w309 (hw : own_Hw a0 Z) := own_w hw 309 rfl
def w310 (hw : own_Hw a0 Z) := own_w hw 310 rfl
def w311 (hw : own_Hw a0 Z) := own_w hw 311 rfl
def w312 (hw : own_Hw a0 Z) := own_w hw 312 rfl
def w313 (hw : own_Hw a0 Z) := own_w hw 313 rfl
def w314 (hw : own_Hw a0 Z) := own_w hw 314 rfl
def w316 (hw : own_Hw a0 Z) := own_w hw 316 rfl
def w317 (hw : own_Hw a0 Z) := own_w hw 317 rfl
def w318 (hw : own_Hw a0 Z) := own_w hw 318 rfl
def w319 (hw : own_Hw a0 Z) := own_w hw 319 rfl
def w320 (hw : own_Hw a0 Z) := own_w hw 320 rfl
def w321 (hw : own_Hw a0 Z) := own_w hw 321 rfl
def w322 (hw : own_Hw a0 Z) := own_w hw 322 rfl
def w323 (hw : own_Hw a0 Z) := own_w hw 323 rfl
def w324 (hw : own_Hw a0 Z) := own_w hw 324 rfl
def w325 (hw : own_Hw a0 Z) := own_w hw 325 rfl
def w326 (hw : own_Hw a0 Z) := own_w hw 326 rfl
def w327 (hw : own_Hw a0 Z) := own_w hw 327 rfl
def w328 (hw : own_Hw a0 Z) := own_w hw 328 rfl
def w329 (hw : own_Hw a0 Z) := own_w hw 329 rfl
def w330 (hw : own_Hw a0 Z) := own_w hw 330 rfl
def w331 (hw : own_Hw a0 Z) := own_w hw 331 rfl
def w332 (hw : own_Hw a0 Z) := own_w hw 332 rfl
def w333 (hw : own_Hw a0 Z) := own_w hw 333 rfl
def w334 (hw : own_Hw a0 Z) := own_w hw 334 rfl
def w335 (hw : own_Hw a0 Z) := own_w hw 335 rfl
def w336 (hw : own_Hw a0 Z) := own_w hw 336 rfl
def w337 (hw : own_Hw a0 Z) := own_w hw 337 rfl
def w338 (hw : own_Hw a0 Z) := own_w hw 338 rfl
def w339 (hw : own_Hw a0 Z) := own_w hw 339 rfl
def w340 (hw : own_Hw a0 Z) := own_w hw 340 rfl
def w341 (hw : own_Hw a0 Z) := own_w hw 341 rfl
def w342 (hw : own_Hw a0 Z) := own_w hw 342 rfl
def w343 (hw : own_Hw a0 Z) := own_w hw 343 rfl
def w344 (hw : own_Hw a0 Z) := own_w hw 344 rfl
def w345 (hw : own_Hw a0 Z) := own_w hw 345 rfl
def w346 (hw : own_Hw a0 Z) := own_w hw 346 rfl
def w347 (hw : own_Hw a0 Z) := own_w hw 347 rfl
def w348 (hw : own_Hw a0 Z) := own_w hw 348 rfl
def w349 (hw : own_Hw a0 Z) := own_w hw 349 rfl
def w350 (hw : own_Hw a0 Z) := own_w hw 350 rfl
def w351 (hw : own_Hw a0 Z) := own_w hw 351 rfl
def w352 (hw : own_Hw a0 Z) := own_w hw 352 rfl
def w353 (hw : own_Hw a0 Z) := own_w hw 353 rfl
def w354 (hw : own_Hw a0 Z) := own_w hw 354 rfl
def w355 (hw : own_Hw a0 Z) := own_w hw 355 rfl
def w356 (hw : own_Hw a0 Z) := own_w hw 356 rfl
def w357 (hw : own_Hw a0 Z) := own_w hw 357 rfl
def w358 (hw : own_Hw a0 Z) := own_w hw 358 rfl
def w359 (hw : own_Hw a0 Z) := own_w hw 359 rfl
def w360 (hw : own_Hw a0 Z) := own_w hw 360 rfl
def w361 (hw : own_Hw a0 Z) := own_w hw 361 rfl
def w362 (hw : own_Hw a0 Z) := own_w hw 362 rfl
def w363 (hw : own_Hw a0 Z) := own_w hw 363 rfl
def own_BA (Z : State) (h : Heap) (a : Addr) (v0 v1 v2 : Value) : Prop := Exa Z h a sA ∧ Fld Z h a sA "elementData" sO v0 ∧ Fld Z h a sA "size" "I" v1 ∧ Fld Z h a "java/util/AbstractList" "modCount" "I" v2
theorem own_BA.e {Z : State} {h : Heap} {a : Addr} {v0 v1 v2 : Value} (B : own_BA Z h a v0 v1 v2) : Exa Z h a sA := B.1
theorem own_BA.f0 {Z : State} {h : Heap} {a : Addr} {v0 v1 v2 : Value} (B : own_BA Z h a v0 v1 v2) : Fld Z h a sA "elementData" sO v0 := B.2.1
theorem own_BA.f1 {Z : State} {h : Heap} {a : Addr} {v0 v1 v2 : Value} (B : own_BA Z h a v0 v1 v2) : Fld Z h a sA "size" "I" v1 := B.2.2.1
theorem own_BA.f2 {Z : State} {h : Heap} {a : Addr} {v0 v1 v2 : Value} (B : own_BA Z h a v0 v1 v2) : Fld Z h a "java/util/AbstractList" "modCount" "I" v2 := B.2.2.2
theorem own_BA.ext {Z : State} {h h' : Heap} {a : Addr} {v0 v1 v2 : Value} (B : own_BA Z h a v0 v1 v2) (E : Ext h h') : own_BA Z h' a v0 v1 v2 := ⟨B.e.ext E, B.f0.ext E, B.f1.ext E, B.f2.ext E⟩
theorem own_BA.keep {Z : State} {h h' : Heap} {a : Addr} {v0 v1 v2 : Value} (B : own_BA Z h a v0 v1 v2) {ws : List Addr} (K : Keep h h' ws) (q : a ∉ ws) : own_BA Z h' a v0 v1 v2 := ⟨B.e.keep K, B.f0.keep K q, B.f1.keep K q, B.f2.keep K q⟩
theorem own_BA.other {Z : State} {h h' : Heap} {a : Addr} {v0 v1 v2 : Value} (B : own_BA Z h a v0 v1 v2) {b : Addr} {sl : Nat} {v : Value} (W : Wr h h' b sl v) (q : a ≠ b) : own_BA Z h' a v0 v1 v2 := ⟨B.e.wr W, B.f0.other W (Or.inl q), B.f1.other W (Or.inl q), B.f2.other W (Or.inl q)⟩
theorem own_BA.p2 {a0 : Array Value} {Z : State} {h h' : Heap} {a : Addr} {v0 v1 v2 v : Value} (B : own_BA Z h a v0 v1 v2) (hw : own_Hw a0 Z) (W : Wr h h' a (Jvm.RoadKit.slotOf Z "java/util/AbstractList" "modCount" "I") v) : own_BA Z h' a v0 v1 v := ⟨B.e.wr W, own_fo (Or.inl (w34 hw)) (Or.inl (w31 hw)) W B.f0, own_fo (Or.inl (w78 hw)) (Or.inl (w31 hw)) W B.f1, Fld.same W B.f2⟩
theorem own_BA.p0 {a0 : Array Value} {Z : State} {h h' : Heap} {a : Addr} {v0 v1 v2 v : Value} (B : own_BA Z h a v0 v1 v2) (hw : own_Hw a0 Z) (W : Wr h h' a (Jvm.RoadKit.slotOf Z sA "elementData" sO) v) : own_BA Z h' a v v1 v2 := ⟨B.e.wr W, Fld.same W B.f0, own_fo (Or.inl (w78 hw)) (Or.inl (w34 hw)) W B.f1, own_fo (Or.inl (w31 hw)) (Or.inl (w34 hw)) W B.f2⟩
theorem own_BA.p1 {a0 : Array Value} {Z : State} {h h' : Heap} {a : Addr} {v0 v1 v2 v : Value} (B : own_BA Z h a v0 v1 v2) (hw : own_Hw a0 Z) (W : Wr h h' a (Jvm.RoadKit.slotOf Z sA "size" "I") v) : own_BA Z h' a v0 v v2 := ⟨B.e.wr W, own_fo (Or.inl (w34 hw)) (Or.inl (w78 hw)) W B.f0, Fld.same W B.f1, own_fo (Or.inl (w31 hw)) (Or.inl (w78 hw)) W B.f2⟩
def own_BT (Z : State) (h : Heap) (a : Addr) (v0 v1 v2 v3 : Value) : Prop := Exa Z h a sI ∧ Fld Z h a sI "this$0" "Ljava/util/ArrayList;" v0 ∧ Fld Z h a sI "cursor" "I" v1 ∧ Fld Z h a sI "lastRet" "I" v2 ∧ Fld Z h a sI "expectedModCount" "I" v3
theorem own_BT.e {Z : State} {h : Heap} {a : Addr} {v0 v1 v2 v3 : Value} (B : own_BT Z h a v0 v1 v2 v3) : Exa Z h a sI := B.1
theorem own_BT.f0 {Z : State} {h : Heap} {a : Addr} {v0 v1 v2 v3 : Value} (B : own_BT Z h a v0 v1 v2 v3) : Fld Z h a sI "this$0" "Ljava/util/ArrayList;" v0 := B.2.1
theorem own_BT.f1 {Z : State} {h : Heap} {a : Addr} {v0 v1 v2 v3 : Value} (B : own_BT Z h a v0 v1 v2 v3) : Fld Z h a sI "cursor" "I" v1 := B.2.2.1
theorem own_BT.f2 {Z : State} {h : Heap} {a : Addr} {v0 v1 v2 v3 : Value} (B : own_BT Z h a v0 v1 v2 v3) : Fld Z h a sI "lastRet" "I" v2 := B.2.2.2.1
theorem own_BT.f3 {Z : State} {h : Heap} {a : Addr} {v0 v1 v2 v3 : Value} (B : own_BT Z h a v0 v1 v2 v3) : Fld Z h a sI "expectedModCount" "I" v3 := B.2.2.2.2
theorem own_BT.ext {Z : State} {h h' : Heap} {a : Addr} {v0 v1 v2 v3 : Value} (B : own_BT Z h a v0 v1 v2 v3) (E : Ext h h') : own_BT Z h' a v0 v1 v2 v3 := ⟨B.e.ext E, B.f0.ext E, B.f1.ext E, B.f2.ext E, B.f3.ext E⟩
theorem own_BT.keep {Z : State} {h h' : Heap} {a : Addr} {v0 v1 v2 v3 : Value} (B : own_BT Z h a v0 v1 v2 v3) {ws : List Addr} (K : Keep h h' ws) (q : a ∉ ws) : own_BT Z h' a v0 v1 v2 v3 := ⟨B.e.keep K, B.f0.keep K q, B.f1.keep K q, B.f2.keep K q, B.f3.keep K q⟩
theorem own_BT.other {Z : State} {h h' : Heap} {a : Addr} {v0 v1 v2 v3 : Value} (B : own_BT Z h a v0 v1 v2 v3) {b : Addr} {sl : Nat} {v : Value} (W : Wr h h' b sl v) (q : a ≠ b) : own_BT Z h' a v0 v1 v2 v3 := ⟨B.e.wr W, B.f0.other W (Or.inl q), B.f1.other W (Or.inl q), B.f2.other W (Or.inl q), B.f3.other W (Or.inl q)⟩
theorem own_BT.p0 {a0 : Array Value} {Z : State} {h h' : Heap} {a : Addr} {v0 v1 v2 v3 v : Value} (B : own_BT Z h a v0 v1 v2 v3) (hw : own_Hw a0 Z) (W : Wr h h' a (Jvm.RoadKit.slotOf Z sI "this$0" "Ljava/util/ArrayList;") v) : own_BT Z h' a v v1 v2 v3 := ⟨B.e.wr W, Fld.same W B.f0, own_fo (Or.inl (w227 hw)) (Or.inr (w210 hw)) W B.f1, own_fo (Or.inl (w213 hw)) (Or.inr (w210 hw)) W B.f2, own_fo (Or.inl (w216 hw)) (Or.inr (w210 hw)) W B.f3⟩
theorem own_BT.p2 {a0 : Array Value} {Z : State} {h h' : Heap} {a : Addr} {v0 v1 v2 v3 v : Value} (B : own_BT Z h a v0 v1 v2 v3) (hw : own_Hw a0 Z) (W : Wr h h' a (Jvm.RoadKit.slotOf Z sI "lastRet" "I") v) : own_BT Z h' a v0 v1 v v3 := ⟨B.e.wr W, own_fo (Or.inr (w210 hw)) (Or.inl (w213 hw)) W B.f0, own_fo (Or.inl (w227 hw)) (Or.inl (w213 hw)) W B.f1, Fld.same W B.f2, own_fo (Or.inl (w216 hw)) (Or.inl (w213 hw)) W B.f3⟩
theorem own_BT.p3 {a0 : Array Value} {Z : State} {h h' : Heap} {a : Addr} {v0 v1 v2 v3 v : Value} (B : own_BT Z h a v0 v1 v2 v3) (hw : own_Hw a0 Z) (W : Wr h h' a (Jvm.RoadKit.slotOf Z sI "expectedModCount" "I") v) : own_BT Z h' a v0 v1 v2 v := ⟨B.e.wr W, own_fo (Or.inr (w210 hw)) (Or.inl (w216 hw)) W B.f0, own_fo (Or.inl (w227 hw)) (Or.inl (w216 hw)) W B.f1, own_fo (Or.inl (w213 hw)) (Or.inl (w216 hw)) W B.f2, Fld.same W B.f3⟩
theorem own_BT.p1 {a0 : Array Value} {Z : State} {h h' : Heap} {a : Addr} {v0 v1 v2 v3 v : Value} (B : own_BT Z h a v0 v1 v2 v3) (hw : own_Hw a0 Z) (W : Wr h h' a (Jvm.RoadKit.slotOf Z sI "cursor" "I") v) : own_BT Z h' a v0 v v2 v3 := ⟨B.e.wr W, own_fo (Or.inr (w210 hw)) (Or.inl (w227 hw)) W B.f0, Fld.same W B.f1, own_fo (Or.inl (w213 hw)) (Or.inl (w227 hw)) W B.f2, own_fo (Or.inl (w216 hw)) (Or.inl (w227 hw)) W B.f3⟩
def own_BD (Z : State) (h : Heap) (a : Addr) (v0 v1 v2 v3 v4 : Value) : Prop := Exa Z h a sD ∧ Fld Z h a sD "entries" "[D" v0 ∧ Fld Z h a sD "cost" "D" v1 ∧ Fld Z h a sD "atOne" "D" v2 ∧ Fld Z h a sD "sizeAtOne" "D" v3 ∧ Fld Z h a sD "basic" "Z" v4
theorem own_BD.e {Z : State} {h : Heap} {a : Addr} {v0 v1 v2 v3 v4 : Value} (B : own_BD Z h a v0 v1 v2 v3 v4) : Exa Z h a sD := B.1
theorem own_BD.f0 {Z : State} {h : Heap} {a : Addr} {v0 v1 v2 v3 v4 : Value} (B : own_BD Z h a v0 v1 v2 v3 v4) : Fld Z h a sD "entries" "[D" v0 := B.2.1
theorem own_BD.f1 {Z : State} {h : Heap} {a : Addr} {v0 v1 v2 v3 v4 : Value} (B : own_BD Z h a v0 v1 v2 v3 v4) : Fld Z h a sD "cost" "D" v1 := B.2.2.1
theorem own_BD.f2 {Z : State} {h : Heap} {a : Addr} {v0 v1 v2 v3 v4 : Value} (B : own_BD Z h a v0 v1 v2 v3 v4) : Fld Z h a sD "atOne" "D" v2 := B.2.2.2.1
theorem own_BD.f3 {Z : State} {h : Heap} {a : Addr} {v0 v1 v2 v3 v4 : Value} (B : own_BD Z h a v0 v1 v2 v3 v4) : Fld Z h a sD "sizeAtOne" "D" v3 := B.2.2.2.2.1
theorem own_BD.f4 {Z : State} {h : Heap} {a : Addr} {v0 v1 v2 v3 v4 : Value} (B : own_BD Z h a v0 v1 v2 v3 v4) : Fld Z h a sD "basic" "Z" v4 := B.2.2.2.2.2
theorem own_BD.ext {Z : State} {h h' : Heap} {a : Addr} {v0 v1 v2 v3 v4 : Value} (B : own_BD Z h a v0 v1 v2 v3 v4) (E : Ext h h') : own_BD Z h' a v0 v1 v2 v3 v4 := ⟨B.e.ext E, B.f0.ext E, B.f1.ext E, B.f2.ext E, B.f3.ext E, B.f4.ext E⟩
theorem own_BD.keep {Z : State} {h h' : Heap} {a : Addr} {v0 v1 v2 v3 v4 : Value} (B : own_BD Z h a v0 v1 v2 v3 v4) {ws : List Addr} (K : Keep h h' ws) (q : a ∉ ws) : own_BD Z h' a v0 v1 v2 v3 v4 := ⟨B.e.keep K, B.f0.keep K q, B.f1.keep K q, B.f2.keep K q, B.f3.keep K q, B.f4.keep K q⟩
theorem own_BD.other {Z : State} {h h' : Heap} {a : Addr} {v0 v1 v2 v3 v4 : Value} (B : own_BD Z h a v0 v1 v2 v3 v4) {b : Addr} {sl : Nat} {v : Value} (W : Wr h h' b sl v) (q : a ≠ b) : own_BD Z h' a v0 v1 v2 v3 v4 := ⟨B.e.wr W, B.f0.other W (Or.inl q), B.f1.other W (Or.inl q), B.f2.other W (Or.inl q), B.f3.other W (Or.inl q), B.f4.other W (Or.inl q)⟩
theorem own_BD.p0 {a0 : Array Value} {Z : State} {h h' : Heap} {a : Addr} {v0 v1 v2 v3 v4 v : Value} (B : own_BD Z h a v0 v1 v2 v3 v4) (hw : own_Hw a0 Z) (W : Wr h h' a (Jvm.RoadKit.slotOf Z sD "entries" "[D") v) : own_BD Z h' a v v1 v2 v3 v4 := ⟨B.e.wr W, Fld.same W B.f0, own_fo (Or.inr (w65 hw)) (Or.inr (w63 hw)) W B.f1, own_fo (Or.inl (w121 hw)) (Or.inr (w63 hw)) W B.f2, own_fo (Or.inl (w123 hw)) (Or.inr (w63 hw)) W B.f3, own_fo (Or.inl (w133 hw)) (Or.inr (w63 hw)) W B.f4⟩
theorem own_BD.p1 {a0 : Array Value} {Z : State} {h h' : Heap} {a : Addr} {v0 v1 v2 v3 v4 v : Value} (B : own_BD Z h a v0 v1 v2 v3 v4) (hw : own_Hw a0 Z) (W : Wr h h' a (Jvm.RoadKit.slotOf Z sD "cost" "D") v) : own_BD Z h' a v0 v v2 v3 v4 := ⟨B.e.wr W, own_fo (Or.inr (w63 hw)) (Or.inr (w65 hw)) W B.f0, Fld.same W B.f1, own_fo (Or.inl (w121 hw)) (Or.inr (w65 hw)) W B.f2, own_fo (Or.inl (w123 hw)) (Or.inr (w65 hw)) W B.f3, own_fo (Or.inl (w133 hw)) (Or.inr (w65 hw)) W B.f4⟩
def own_BC (Z : State) (h : Heap) (a : Addr) (v0 v1 v2 v3 v4 v5 v6 v7 v8 v9 v10 v11 v12 : Value) : Prop := Exa Z h a sC ∧ Fld Z h a sC "dimension" "I" v0 ∧ Fld Z h a sC "rows" "I" v1 ∧ Fld Z h a sC "mostPivots" "I" v2 ∧ Fld Z h a sC "dense" "Ljava/util/List;" v3 ∧ Fld Z h a sC "side" "[I" v4 ∧ Fld Z h a sC "boundValues" "[D" v5 ∧ Fld Z h a sC "kernelRows" "[I" v6 ∧ Fld Z h a sC "kernelColumns" "[I" v7 ∧ Fld Z h a sC "inverse" "[[D" v8 ∧ Fld Z h a sC "kernelValues" "[D" v9 ∧ Fld Z h a sC "unit" "D" v10 ∧ Fld Z h a sC "duals" "[D" v11 ∧ Fld Z h a sC "pivotsSinceInversion" "I" v12
theorem own_BC.e {Z : State} {h : Heap} {a : Addr} {v0 v1 v2 v3 v4 v5 v6 v7 v8 v9 v10 v11 v12 : Value} (B : own_BC Z h a v0 v1 v2 v3 v4 v5 v6 v7 v8 v9 v10 v11 v12) : Exa Z h a sC := B.1
theorem own_BC.f0 {Z : State} {h : Heap} {a : Addr} {v0 v1 v2 v3 v4 v5 v6 v7 v8 v9 v10 v11 v12 : Value} (B : own_BC Z h a v0 v1 v2 v3 v4 v5 v6 v7 v8 v9 v10 v11 v12) : Fld Z h a sC "dimension" "I" v0 := B.2.1
theorem own_BC.f1 {Z : State} {h : Heap} {a : Addr} {v0 v1 v2 v3 v4 v5 v6 v7 v8 v9 v10 v11 v12 : Value} (B : own_BC Z h a v0 v1 v2 v3 v4 v5 v6 v7 v8 v9 v10 v11 v12) : Fld Z h a sC "rows" "I" v1 := B.2.2.1
theorem own_BC.f2 {Z : State} {h : Heap} {a : Addr} {v0 v1 v2 v3 v4 v5 v6 v7 v8 v9 v10 v11 v12 : Value} (B : own_BC Z h a v0 v1 v2 v3 v4 v5 v6 v7 v8 v9 v10 v11 v12) : Fld Z h a sC "mostPivots" "I" v2 := B.2.2.2.1
theorem own_BC.f3 {Z : State} {h : Heap} {a : Addr} {v0 v1 v2 v3 v4 v5 v6 v7 v8 v9 v10 v11 v12 : Value} (B : own_BC Z h a v0 v1 v2 v3 v4 v5 v6 v7 v8 v9 v10 v11 v12) : Fld Z h a sC "dense" "Ljava/util/List;" v3 := B.2.2.2.2.1
theorem own_BC.f4 {Z : State} {h : Heap} {a : Addr} {v0 v1 v2 v3 v4 v5 v6 v7 v8 v9 v10 v11 v12 : Value} (B : own_BC Z h a v0 v1 v2 v3 v4 v5 v6 v7 v8 v9 v10 v11 v12) : Fld Z h a sC "side" "[I" v4 := B.2.2.2.2.2.1
theorem own_BC.f5 {Z : State} {h : Heap} {a : Addr} {v0 v1 v2 v3 v4 v5 v6 v7 v8 v9 v10 v11 v12 : Value} (B : own_BC Z h a v0 v1 v2 v3 v4 v5 v6 v7 v8 v9 v10 v11 v12) : Fld Z h a sC "boundValues" "[D" v5 := B.2.2.2.2.2.2.1
theorem own_BC.f6 {Z : State} {h : Heap} {a : Addr} {v0 v1 v2 v3 v4 v5 v6 v7 v8 v9 v10 v11 v12 : Value} (B : own_BC Z h a v0 v1 v2 v3 v4 v5 v6 v7 v8 v9 v10 v11 v12) : Fld Z h a sC "kernelRows" "[I" v6 := B.2.2.2.2.2.2.2.1
theorem own_BC.f7 {Z : State} {h : Heap} {a : Addr} {v0 v1 v2 v3 v4 v5 v6 v7 v8 v9 v10 v11 v12 : Value} (B : own_BC Z h a v0 v1 v2 v3 v4 v5 v6 v7 v8 v9 v10 v11 v12) : Fld Z h a sC "kernelColumns" "[I" v7 := B.2.2.2.2.2.2.2.2.1
theorem own_BC.f8 {Z : State} {h : Heap} {a : Addr} {v0 v1 v2 v3 v4 v5 v6 v7 v8 v9 v10 v11 v12 : Value} (B : own_BC Z h a v0 v1 v2 v3 v4 v5 v6 v7 v8 v9 v10 v11 v12) : Fld Z h a sC "inverse" "[[D" v8 := B.2.2.2.2.2.2.2.2.2.1
theorem own_BC.f9 {Z : State} {h : Heap} {a : Addr} {v0 v1 v2 v3 v4 v5 v6 v7 v8 v9 v10 v11 v12 : Value} (B : own_BC Z h a v0 v1 v2 v3 v4 v5 v6 v7 v8 v9 v10 v11 v12) : Fld Z h a sC "kernelValues" "[D" v9 := B.2.2.2.2.2.2.2.2.2.2.1
theorem own_BC.f10 {Z : State} {h : Heap} {a : Addr} {v0 v1 v2 v3 v4 v5 v6 v7 v8 v9 v10 v11 v12 : Value} (B : own_BC Z h a v0 v1 v2 v3 v4 v5 v6 v7 v8 v9 v10 v11 v12) : Fld Z h a sC "unit" "D" v10 := B.2.2.2.2.2.2.2.2.2.2.2.1
theorem own_BC.f11 {Z : State} {h : Heap} {a : Addr} {v0 v1 v2 v3 v4 v5 v6 v7 v8 v9 v10 v11 v12 : Value} (B : own_BC Z h a v0 v1 v2 v3 v4 v5 v6 v7 v8 v9 v10 v11 v12) : Fld Z h a sC "duals" "[D" v11 := B.2.2.2.2.2.2.2.2.2.2.2.2.1
theorem own_BC.f12 {Z : State} {h : Heap} {a : Addr} {v0 v1 v2 v3 v4 v5 v6 v7 v8 v9 v10 v11 v12 : Value} (B : own_BC Z h a v0 v1 v2 v3 v4 v5 v6 v7 v8 v9 v10 v11 v12) : Fld Z h a sC "pivotsSinceInversion" "I" v12 := B.2.2.2.2.2.2.2.2.2.2.2.2.2
theorem own_BC.ext {Z : State} {h h' : Heap} {a : Addr} {v0 v1 v2 v3 v4 v5 v6 v7 v8 v9 v10 v11 v12 : Value} (B : own_BC Z h a v0 v1 v2 v3 v4 v5 v6 v7 v8 v9 v10 v11 v12) (E : Ext h h') : own_BC Z h' a v0 v1 v2 v3 v4 v5 v6 v7 v8 v9 v10 v11 v12 := ⟨B.e.ext E, B.f0.ext E, B.f1.ext E, B.f2.ext E, B.f3.ext E, B.f4.ext E, B.f5.ext E, B.f6.ext E, B.f7.ext E, B.f8.ext E, B.f9.ext E, B.f10.ext E, B.f11.ext E, B.f12.ext E⟩
theorem own_BC.keep {Z : State} {h h' : Heap} {a : Addr} {v0 v1 v2 v3 v4 v5 v6 v7 v8 v9 v10 v11 v12 : Value} (B : own_BC Z h a v0 v1 v2 v3 v4 v5 v6 v7 v8 v9 v10 v11 v12) {ws : List Addr} (K : Keep h h' ws) (q : a ∉ ws) : own_BC Z h' a v0 v1 v2 v3 v4 v5 v6 v7 v8 v9 v10 v11 v12 := ⟨B.e.keep K, B.f0.keep K q, B.f1.keep K q, B.f2.keep K q, B.f3.keep K q, B.f4.keep K q, B.f5.keep K q, B.f6.keep K q, B.f7.keep K q, B.f8.keep K q, B.f9.keep K q, B.f10.keep K q, B.f11.keep K q, B.f12.keep K q⟩
theorem own_BC.other {Z : State} {h h' : Heap} {a : Addr} {v0 v1 v2 v3 v4 v5 v6 v7 v8 v9 v10 v11 v12 : Value} (B : own_BC Z h a v0 v1 v2 v3 v4 v5 v6 v7 v8 v9 v10 v11 v12) {b : Addr} {sl : Nat} {v : Value} (W : Wr h h' b sl v) (q : a ≠ b) : own_BC Z h' a v0 v1 v2 v3 v4 v5 v6 v7 v8 v9 v10 v11 v12 := ⟨B.e.wr W, B.f0.other W (Or.inl q), B.f1.other W (Or.inl q), B.f2.other W (Or.inl q), B.f3.other W (Or.inl q), B.f4.other W (Or.inl q), B.f5.other W (Or.inl q), B.f6.other W (Or.inl q), B.f7.other W (Or.inl q), B.f8.other W (Or.inl q), B.f9.other W (Or.inl q), B.f10.other W (Or.inl q), B.f11.other W (Or.inl q), B.f12.other W (Or.inl q)⟩
theorem own_BC.p3 {a0 : Array Value} {Z : State} {h h' : Heap} {a : Addr} {v0 v1 v2 v3 v4 v5 v6 v7 v8 v9 v10 v11 v12 v : Value} (B : own_BC Z h a v0 v1 v2 v3 v4 v5 v6 v7 v8 v9 v10 v11 v12) (hw : own_Hw a0 Z) (W : Wr h h' a (Jvm.RoadKit.slotOf Z sC "dense" "Ljava/util/List;") v) : own_BC Z h' a v0 v1 v2 v v4 v5 v6 v7 v8 v9 v10 v11 v12 := ⟨B.e.wr W, own_fo (Or.inr (w46 hw)) (Or.inr (w36 hw)) W B.f0, own_fo (Or.inr (w48 hw)) (Or.inr (w36 hw)) W B.f1, own_fo (Or.inr (w50 hw)) (Or.inr (w36 hw)) W B.f2, Fld.same W B.f3, own_fo (Or.inr (w52 hw)) (Or.inr (w36 hw)) W B.f4, own_fo (Or.inr (w54 hw)) (Or.inr (w36 hw)) W B.f5, own_fo (Or.inl (w39 hw)) (Or.inr (w36 hw)) W B.f6, own_fo (Or.inl (w41 hw)) (Or.inr (w36 hw)) W B.f7, own_fo (Or.inl (w107 hw)) (Or.inr (w36 hw)) W B.f8, own_fo (Or.inl (w189 hw)) (Or.inr (w36 hw)) W B.f9, own_fo (Or.inl (w115 hw)) (Or.inr (w36 hw)) W B.f10, own_fo (Or.inl (w44 hw)) (Or.inr (w36 hw)) W B.f11, own_fo (Or.inl (w244 hw)) (Or.inr (w36 hw)) W B.f12⟩
theorem own_BC.p6 {a0 : Array Value} {Z : State} {h h' : Heap} {a : Addr} {v0 v1 v2 v3 v4 v5 v6 v7 v8 v9 v10 v11 v12 v : Value} (B : own_BC Z h a v0 v1 v2 v3 v4 v5 v6 v7 v8 v9 v10 v11 v12) (hw : own_Hw a0 Z) (W : Wr h h' a (Jvm.RoadKit.slotOf Z sC "kernelRows" "[I") v) : own_BC Z h' a v0 v1 v2 v3 v4 v5 v v7 v8 v9 v10 v11 v12 := ⟨B.e.wr W, own_fo (Or.inr (w46 hw)) (Or.inl (w39 hw)) W B.f0, own_fo (Or.inr (w48 hw)) (Or.inl (w39 hw)) W B.f1, own_fo (Or.inr (w50 hw)) (Or.inl (w39 hw)) W B.f2, own_fo (Or.inr (w36 hw)) (Or.inl (w39 hw)) W B.f3, own_fo (Or.inr (w52 hw)) (Or.inl (w39 hw)) W B.f4, own_fo (Or.inr (w54 hw)) (Or.inl (w39 hw)) W B.f5, Fld.same W B.f6, own_fo (Or.inl (w41 hw)) (Or.inl (w39 hw)) W B.f7, own_fo (Or.inl (w107 hw)) (Or.inl (w39 hw)) W B.f8, own_fo (Or.inl (w189 hw)) (Or.inl (w39 hw)) W B.f9, own_fo (Or.inl (w115 hw)) (Or.inl (w39 hw)) W B.f10, own_fo (Or.inl (w44 hw)) (Or.inl (w39 hw)) W B.f11, own_fo (Or.inl (w244 hw)) (Or.inl (w39 hw)) W B.f12⟩
theorem own_BC.p7 {a0 : Array Value} {Z : State} {h h' : Heap} {a : Addr} {v0 v1 v2 v3 v4 v5 v6 v7 v8 v9 v10 v11 v12 v : Value} (B : own_BC Z h a v0 v1 v2 v3 v4 v5 v6 v7 v8 v9 v10 v11 v12) (hw : own_Hw a0 Z) (W : Wr h h' a (Jvm.RoadKit.slotOf Z sC "kernelColumns" "[I") v) : own_BC Z h' a v0 v1 v2 v3 v4 v5 v6 v v8 v9 v10 v11 v12 := ⟨B.e.wr W, own_fo (Or.inr (w46 hw)) (Or.inl (w41 hw)) W B.f0, own_fo (Or.inr (w48 hw)) (Or.inl (w41 hw)) W B.f1, own_fo (Or.inr (w50 hw)) (Or.inl (w41 hw)) W B.f2, own_fo (Or.inr (w36 hw)) (Or.inl (w41 hw)) W B.f3, own_fo (Or.inr (w52 hw)) (Or.inl (w41 hw)) W B.f4, own_fo (Or.inr (w54 hw)) (Or.inl (w41 hw)) W B.f5, own_fo (Or.inl (w39 hw)) (Or.inl (w41 hw)) W B.f6, Fld.same W B.f7, own_fo (Or.inl (w107 hw)) (Or.inl (w41 hw)) W B.f8, own_fo (Or.inl (w189 hw)) (Or.inl (w41 hw)) W B.f9, own_fo (Or.inl (w115 hw)) (Or.inl (w41 hw)) W B.f10, own_fo (Or.inl (w44 hw)) (Or.inl (w41 hw)) W B.f11, own_fo (Or.inl (w244 hw)) (Or.inl (w41 hw)) W B.f12⟩
theorem own_BC.p11 {a0 : Array Value} {Z : State} {h h' : Heap} {a : Addr} {v0 v1 v2 v3 v4 v5 v6 v7 v8 v9 v10 v11 v12 v : Value} (B : own_BC Z h a v0 v1 v2 v3 v4 v5 v6 v7 v8 v9 v10 v11 v12) (hw : own_Hw a0 Z) (W : Wr h h' a (Jvm.RoadKit.slotOf Z sC "duals" "[D") v) : own_BC Z h' a v0 v1 v2 v3 v4 v5 v6 v7 v8 v9 v10 v v12 := ⟨B.e.wr W, own_fo (Or.inr (w46 hw)) (Or.inl (w44 hw)) W B.f0, own_fo (Or.inr (w48 hw)) (Or.inl (w44 hw)) W B.f1, own_fo (Or.inr (w50 hw)) (Or.inl (w44 hw)) W B.f2, own_fo (Or.inr (w36 hw)) (Or.inl (w44 hw)) W B.f3, own_fo (Or.inr (w52 hw)) (Or.inl (w44 hw)) W B.f4, own_fo (Or.inr (w54 hw)) (Or.inl (w44 hw)) W B.f5, own_fo (Or.inl (w39 hw)) (Or.inl (w44 hw)) W B.f6, own_fo (Or.inl (w41 hw)) (Or.inl (w44 hw)) W B.f7, own_fo (Or.inl (w107 hw)) (Or.inl (w44 hw)) W B.f8, own_fo (Or.inl (w189 hw)) (Or.inl (w44 hw)) W B.f9, own_fo (Or.inl (w115 hw)) (Or.inl (w44 hw)) W B.f10, Fld.same W B.f11, own_fo (Or.inl (w244 hw)) (Or.inl (w44 hw)) W B.f12⟩
theorem own_BC.p0 {a0 : Array Value} {Z : State} {h h' : Heap} {a : Addr} {v0 v1 v2 v3 v4 v5 v6 v7 v8 v9 v10 v11 v12 v : Value} (B : own_BC Z h a v0 v1 v2 v3 v4 v5 v6 v7 v8 v9 v10 v11 v12) (hw : own_Hw a0 Z) (W : Wr h h' a (Jvm.RoadKit.slotOf Z sC "dimension" "I") v) : own_BC Z h' a v v1 v2 v3 v4 v5 v6 v7 v8 v9 v10 v11 v12 := ⟨B.e.wr W, Fld.same W B.f0, own_fo (Or.inr (w48 hw)) (Or.inr (w46 hw)) W B.f1, own_fo (Or.inr (w50 hw)) (Or.inr (w46 hw)) W B.f2, own_fo (Or.inr (w36 hw)) (Or.inr (w46 hw)) W B.f3, own_fo (Or.inr (w52 hw)) (Or.inr (w46 hw)) W B.f4, own_fo (Or.inr (w54 hw)) (Or.inr (w46 hw)) W B.f5, own_fo (Or.inl (w39 hw)) (Or.inr (w46 hw)) W B.f6, own_fo (Or.inl (w41 hw)) (Or.inr (w46 hw)) W B.f7, own_fo (Or.inl (w107 hw)) (Or.inr (w46 hw)) W B.f8, own_fo (Or.inl (w189 hw)) (Or.inr (w46 hw)) W B.f9, own_fo (Or.inl (w115 hw)) (Or.inr (w46 hw)) W B.f10, own_fo (Or.inl (w44 hw)) (Or.inr (w46 hw)) W B.f11, own_fo (Or.inl (w244 hw)) (Or.inr (w46 hw)) W B.f12⟩
theorem own_BC.p1 {a0 : Array Value} {Z : State} {h h' : Heap} {a : Addr} {v0 v1 v2 v3 v4 v5 v6 v7 v8 v9 v10 v11 v12 v : Value} (B : own_BC Z h a v0 v1 v2 v3 v4 v5 v6 v7 v8 v9 v10 v11 v12) (hw : own_Hw a0 Z) (W : Wr h h' a (Jvm.RoadKit.slotOf Z sC "rows" "I") v) : own_BC Z h' a v0 v v2 v3 v4 v5 v6 v7 v8 v9 v10 v11 v12 := ⟨B.e.wr W, own_fo (Or.inr (w46 hw)) (Or.inr (w48 hw)) W B.f0, Fld.same W B.f1, own_fo (Or.inr (w50 hw)) (Or.inr (w48 hw)) W B.f2, own_fo (Or.inr (w36 hw)) (Or.inr (w48 hw)) W B.f3, own_fo (Or.inr (w52 hw)) (Or.inr (w48 hw)) W B.f4, own_fo (Or.inr (w54 hw)) (Or.inr (w48 hw)) W B.f5, own_fo (Or.inl (w39 hw)) (Or.inr (w48 hw)) W B.f6, own_fo (Or.inl (w41 hw)) (Or.inr (w48 hw)) W B.f7, own_fo (Or.inl (w107 hw)) (Or.inr (w48 hw)) W B.f8, own_fo (Or.inl (w189 hw)) (Or.inr (w48 hw)) W B.f9, own_fo (Or.inl (w115 hw)) (Or.inr (w48 hw)) W B.f10, own_fo (Or.inl (w44 hw)) (Or.inr (w48 hw)) W B.f11, own_fo (Or.inl (w244 hw)) (Or.inr (w48 hw)) W B.f12⟩
theorem own_BC.p2 {a0 : Array Value} {Z : State} {h h' : Heap} {a : Addr} {v0 v1 v2 v3 v4 v5 v6 v7 v8 v9 v10 v11 v12 v : Value} (B : own_BC Z h a v0 v1 v2 v3 v4 v5 v6 v7 v8 v9 v10 v11 v12) (hw : own_Hw a0 Z) (W : Wr h h' a (Jvm.RoadKit.slotOf Z sC "mostPivots" "I") v) : own_BC Z h' a v0 v1 v v3 v4 v5 v6 v7 v8 v9 v10 v11 v12 := ⟨B.e.wr W, own_fo (Or.inr (w46 hw)) (Or.inr (w50 hw)) W B.f0, own_fo (Or.inr (w48 hw)) (Or.inr (w50 hw)) W B.f1, Fld.same W B.f2, own_fo (Or.inr (w36 hw)) (Or.inr (w50 hw)) W B.f3, own_fo (Or.inr (w52 hw)) (Or.inr (w50 hw)) W B.f4, own_fo (Or.inr (w54 hw)) (Or.inr (w50 hw)) W B.f5, own_fo (Or.inl (w39 hw)) (Or.inr (w50 hw)) W B.f6, own_fo (Or.inl (w41 hw)) (Or.inr (w50 hw)) W B.f7, own_fo (Or.inl (w107 hw)) (Or.inr (w50 hw)) W B.f8, own_fo (Or.inl (w189 hw)) (Or.inr (w50 hw)) W B.f9, own_fo (Or.inl (w115 hw)) (Or.inr (w50 hw)) W B.f10, own_fo (Or.inl (w44 hw)) (Or.inr (w50 hw)) W B.f11, own_fo (Or.inl (w244 hw)) (Or.inr (w50 hw)) W B.f12⟩
theorem own_BC.p4 {a0 : Array Value} {Z : State} {h h' : Heap} {a : Addr} {v0 v1 v2 v3 v4 v5 v6 v7 v8 v9 v10 v11 v12 v : Value} (B : own_BC Z h a v0 v1 v2 v3 v4 v5 v6 v7 v8 v9 v10 v11 v12) (hw : own_Hw a0 Z) (W : Wr h h' a (Jvm.RoadKit.slotOf Z sC "side" "[I") v) : own_BC Z h' a v0 v1 v2 v3 v v5 v6 v7 v8 v9 v10 v11 v12 := ⟨B.e.wr W, own_fo (Or.inr (w46 hw)) (Or.inr (w52 hw)) W B.f0, own_fo (Or.inr (w48 hw)) (Or.inr (w52 hw)) W B.f1, own_fo (Or.inr (w50 hw)) (Or.inr (w52 hw)) W B.f2, own_fo (Or.inr (w36 hw)) (Or.inr (w52 hw)) W B.f3, Fld.same W B.f4, own_fo (Or.inr (w54 hw)) (Or.inr (w52 hw)) W B.f5, own_fo (Or.inl (w39 hw)) (Or.inr (w52 hw)) W B.f6, own_fo (Or.inl (w41 hw)) (Or.inr (w52 hw)) W B.f7, own_fo (Or.inl (w107 hw)) (Or.inr (w52 hw)) W B.f8, own_fo (Or.inl (w189 hw)) (Or.inr (w52 hw)) W B.f9, own_fo (Or.inl (w115 hw)) (Or.inr (w52 hw)) W B.f10, own_fo (Or.inl (w44 hw)) (Or.inr (w52 hw)) W B.f11, own_fo (Or.inl (w244 hw)) (Or.inr (w52 hw)) W B.f12⟩
theorem own_BC.p5 {a0 : Array Value} {Z : State} {h h' : Heap} {a : Addr} {v0 v1 v2 v3 v4 v5 v6 v7 v8 v9 v10 v11 v12 v : Value} (B : own_BC Z h a v0 v1 v2 v3 v4 v5 v6 v7 v8 v9 v10 v11 v12) (hw : own_Hw a0 Z) (W : Wr h h' a (Jvm.RoadKit.slotOf Z sC "boundValues" "[D") v) : own_BC Z h' a v0 v1 v2 v3 v4 v v6 v7 v8 v9 v10 v11 v12 := ⟨B.e.wr W, own_fo (Or.inr (w46 hw)) (Or.inr (w54 hw)) W B.f0, own_fo (Or.inr (w48 hw)) (Or.inr (w54 hw)) W B.f1, own_fo (Or.inr (w50 hw)) (Or.inr (w54 hw)) W B.f2, own_fo (Or.inr (w36 hw)) (Or.inr (w54 hw)) W B.f3, own_fo (Or.inr (w52 hw)) (Or.inr (w54 hw)) W B.f4, Fld.same W B.f5, own_fo (Or.inl (w39 hw)) (Or.inr (w54 hw)) W B.f6, own_fo (Or.inl (w41 hw)) (Or.inr (w54 hw)) W B.f7, own_fo (Or.inl (w107 hw)) (Or.inr (w54 hw)) W B.f8, own_fo (Or.inl (w189 hw)) (Or.inr (w54 hw)) W B.f9, own_fo (Or.inl (w115 hw)) (Or.inr (w54 hw)) W B.f10, own_fo (Or.inl (w44 hw)) (Or.inr (w54 hw)) W B.f11, own_fo (Or.inl (w244 hw)) (Or.inr (w54 hw)) W B.f12⟩
theorem own_BD.p2 {a0 : Array Value} {Z : State} {h h' : Heap} {a : Addr} {v0 v1 v2 v3 v4 v : Value} (B : own_BD Z h a v0 v1 v2 v3 v4) (hw : own_Hw a0 Z) (W : Wr h h' a (Jvm.RoadKit.slotOf Z sD "atOne" "D") v) : own_BD Z h' a v0 v1 v v3 v4 := ⟨B.e.wr W, own_fo (Or.inr (w63 hw)) (Or.inl (w121 hw)) W B.f0, own_fo (Or.inr (w65 hw)) (Or.inl (w121 hw)) W B.f1, Fld.same W B.f2, own_fo (Or.inl (w123 hw)) (Or.inl (w121 hw)) W B.f3, own_fo (Or.inl (w133 hw)) (Or.inl (w121 hw)) W B.f4⟩
theorem own_BD.p3 {a0 : Array Value} {Z : State} {h h' : Heap} {a : Addr} {v0 v1 v2 v3 v4 v : Value} (B : own_BD Z h a v0 v1 v2 v3 v4) (hw : own_Hw a0 Z) (W : Wr h h' a (Jvm.RoadKit.slotOf Z sD "sizeAtOne" "D") v) : own_BD Z h' a v0 v1 v2 v v4 := ⟨B.e.wr W, own_fo (Or.inr (w63 hw)) (Or.inl (w123 hw)) W B.f0, own_fo (Or.inr (w65 hw)) (Or.inl (w123 hw)) W B.f1, own_fo (Or.inl (w121 hw)) (Or.inl (w123 hw)) W B.f2, Fld.same W B.f3, own_fo (Or.inl (w133 hw)) (Or.inl (w123 hw)) W B.f4⟩
theorem own_BC.p8 {a0 : Array Value} {Z : State} {h h' : Heap} {a : Addr} {v0 v1 v2 v3 v4 v5 v6 v7 v8 v9 v10 v11 v12 v : Value} (B : own_BC Z h a v0 v1 v2 v3 v4 v5 v6 v7 v8 v9 v10 v11 v12) (hw : own_Hw a0 Z) (W : Wr h h' a (Jvm.RoadKit.slotOf Z sC "inverse" "[[D") v) : own_BC Z h' a v0 v1 v2 v3 v4 v5 v6 v7 v v9 v10 v11 v12 := ⟨B.e.wr W, own_fo (Or.inr (w46 hw)) (Or.inl (w107 hw)) W B.f0, own_fo (Or.inr (w48 hw)) (Or.inl (w107 hw)) W B.f1, own_fo (Or.inr (w50 hw)) (Or.inl (w107 hw)) W B.f2, own_fo (Or.inr (w36 hw)) (Or.inl (w107 hw)) W B.f3, own_fo (Or.inr (w52 hw)) (Or.inl (w107 hw)) W B.f4, own_fo (Or.inr (w54 hw)) (Or.inl (w107 hw)) W B.f5, own_fo (Or.inl (w39 hw)) (Or.inl (w107 hw)) W B.f6, own_fo (Or.inl (w41 hw)) (Or.inl (w107 hw)) W B.f7, Fld.same W B.f8, own_fo (Or.inl (w189 hw)) (Or.inl (w107 hw)) W B.f9, own_fo (Or.inl (w115 hw)) (Or.inl (w107 hw)) W B.f10, own_fo (Or.inl (w44 hw)) (Or.inl (w107 hw)) W B.f11, own_fo (Or.inl (w244 hw)) (Or.inl (w107 hw)) W B.f12⟩
theorem own_BC.p9 {a0 : Array Value} {Z : State} {h h' : Heap} {a : Addr} {v0 v1 v2 v3 v4 v5 v6 v7 v8 v9 v10 v11 v12 v : Value} (B : own_BC Z h a v0 v1 v2 v3 v4 v5 v6 v7 v8 v9 v10 v11 v12) (hw : own_Hw a0 Z) (W : Wr h h' a (Jvm.RoadKit.slotOf Z sC "kernelValues" "[D") v) : own_BC Z h' a v0 v1 v2 v3 v4 v5 v6 v7 v8 v v10 v11 v12 := ⟨B.e.wr W, own_fo (Or.inr (w46 hw)) (Or.inl (w189 hw)) W B.f0, own_fo (Or.inr (w48 hw)) (Or.inl (w189 hw)) W B.f1, own_fo (Or.inr (w50 hw)) (Or.inl (w189 hw)) W B.f2, own_fo (Or.inr (w36 hw)) (Or.inl (w189 hw)) W B.f3, own_fo (Or.inr (w52 hw)) (Or.inl (w189 hw)) W B.f4, own_fo (Or.inr (w54 hw)) (Or.inl (w189 hw)) W B.f5, own_fo (Or.inl (w39 hw)) (Or.inl (w189 hw)) W B.f6, own_fo (Or.inl (w41 hw)) (Or.inl (w189 hw)) W B.f7, own_fo (Or.inl (w107 hw)) (Or.inl (w189 hw)) W B.f8, Fld.same W B.f9, own_fo (Or.inl (w115 hw)) (Or.inl (w189 hw)) W B.f10, own_fo (Or.inl (w44 hw)) (Or.inl (w189 hw)) W B.f11, own_fo (Or.inl (w244 hw)) (Or.inl (w189 hw)) W B.f12⟩
theorem own_BC.p12 {a0 : Array Value} {Z : State} {h h' : Heap} {a : Addr} {v0 v1 v2 v3 v4 v5 v6 v7 v8 v9 v10 v11 v12 v : Value} (B : own_BC Z h a v0 v1 v2 v3 v4 v5 v6 v7 v8 v9 v10 v11 v12) (hw : own_Hw a0 Z) (W : Wr h h' a (Jvm.RoadKit.slotOf Z sC "pivotsSinceInversion" "I") v) : own_BC Z h' a v0 v1 v2 v3 v4 v5 v6 v7 v8 v9 v10 v11 v := ⟨B.e.wr W, own_fo (Or.inr (w46 hw)) (Or.inl (w244 hw)) W B.f0, own_fo (Or.inr (w48 hw)) (Or.inl (w244 hw)) W B.f1, own_fo (Or.inr (w50 hw)) (Or.inl (w244 hw)) W B.f2, own_fo (Or.inr (w36 hw)) (Or.inl (w244 hw)) W B.f3, own_fo (Or.inr (w52 hw)) (Or.inl (w244 hw)) W B.f4, own_fo (Or.inr (w54 hw)) (Or.inl (w244 hw)) W B.f5, own_fo (Or.inl (w39 hw)) (Or.inl (w244 hw)) W B.f6, own_fo (Or.inl (w41 hw)) (Or.inl (w244 hw)) W B.f7, own_fo (Or.inl (w107 hw)) (Or.inl (w244 hw)) W B.f8, own_fo (Or.inl (w189 hw)) (Or.inl (w244 hw)) W B.f9, own_fo (Or.inl (w115 hw)) (Or.inl (w244 hw)) W B.f10, own_fo (Or.inl (w44 hw)) (Or.inl (w244 hw)) W B.f11, Fld.same W B.f12⟩
theorem own_BC.p10 {a0 : Array Value} {Z : State} {h h' : Heap} {a : Addr} {v0 v1 v2 v3 v4 v5 v6 v7 v8 v9 v10 v11 v12 v : Value} (B : own_BC Z h a v0 v1 v2 v3 v4 v5 v6 v7 v8 v9 v10 v11 v12) (hw : own_Hw a0 Z) (W : Wr h h' a (Jvm.RoadKit.slotOf Z sC "unit" "D") v) : own_BC Z h' a v0 v1 v2 v3 v4 v5 v6 v7 v8 v9 v v11 v12 := ⟨B.e.wr W, own_fo (Or.inr (w46 hw)) (Or.inl (w115 hw)) W B.f0, own_fo (Or.inr (w48 hw)) (Or.inl (w115 hw)) W B.f1, own_fo (Or.inr (w50 hw)) (Or.inl (w115 hw)) W B.f2, own_fo (Or.inr (w36 hw)) (Or.inl (w115 hw)) W B.f3, own_fo (Or.inr (w52 hw)) (Or.inl (w115 hw)) W B.f4, own_fo (Or.inr (w54 hw)) (Or.inl (w115 hw)) W B.f5, own_fo (Or.inl (w39 hw)) (Or.inl (w115 hw)) W B.f6, own_fo (Or.inl (w41 hw)) (Or.inl (w115 hw)) W B.f7, own_fo (Or.inl (w107 hw)) (Or.inl (w115 hw)) W B.f8, own_fo (Or.inl (w189 hw)) (Or.inl (w115 hw)) W B.f9, Fld.same W B.f10, own_fo (Or.inl (w44 hw)) (Or.inl (w115 hw)) W B.f11, own_fo (Or.inl (w244 hw)) (Or.inl (w115 hw)) W B.f12⟩
theorem own_BD.p4 {a0 : Array Value} {Z : State} {h h' : Heap} {a : Addr} {v0 v1 v2 v3 v4 v : Value} (B : own_BD Z h a v0 v1 v2 v3 v4) (hw : own_Hw a0 Z) (W : Wr h h' a (Jvm.RoadKit.slotOf Z sD "basic" "Z") v) : own_BD Z h' a v0 v1 v2 v3 v := ⟨B.e.wr W, own_fo (Or.inr (w63 hw)) (Or.inl (w133 hw)) W B.f0, own_fo (Or.inr (w65 hw)) (Or.inl (w133 hw)) W B.f1, own_fo (Or.inl (w121 hw)) (Or.inl (w133 hw)) W B.f2, own_fo (Or.inl (w123 hw)) (Or.inl (w133 hw)) W B.f3, Fld.same W B.f4⟩
def own_BR (Z : State) (h : Heap) (a : Addr) (v0 v1 : Value) : Prop := Exa Z h a sR ∧ Fld Z h a sR "kernel" "[D" v0 ∧ Fld Z h a sR "bounds" "[D" v1
theorem own_BR.e {Z : State} {h : Heap} {a : Addr} {v0 v1 : Value} (B : own_BR Z h a v0 v1) : Exa Z h a sR := B.1
theorem own_BR.f0 {Z : State} {h : Heap} {a : Addr} {v0 v1 : Value} (B : own_BR Z h a v0 v1) : Fld Z h a sR "kernel" "[D" v0 := B.2.1
theorem own_BR.f1 {Z : State} {h : Heap} {a : Addr} {v0 v1 : Value} (B : own_BR Z h a v0 v1) : Fld Z h a sR "bounds" "[D" v1 := B.2.2
theorem own_BR.ext {Z : State} {h h' : Heap} {a : Addr} {v0 v1 : Value} (B : own_BR Z h a v0 v1) (E : Ext h h') : own_BR Z h' a v0 v1 := ⟨B.e.ext E, B.f0.ext E, B.f1.ext E⟩
theorem own_BR.keep {Z : State} {h h' : Heap} {a : Addr} {v0 v1 : Value} (B : own_BR Z h a v0 v1) {ws : List Addr} (K : Keep h h' ws) (q : a ∉ ws) : own_BR Z h' a v0 v1 := ⟨B.e.keep K, B.f0.keep K q, B.f1.keep K q⟩
theorem own_BR.other {Z : State} {h h' : Heap} {a : Addr} {v0 v1 : Value} (B : own_BR Z h a v0 v1) {b : Addr} {sl : Nat} {v : Value} (W : Wr h h' b sl v) (q : a ≠ b) : own_BR Z h' a v0 v1 := ⟨B.e.wr W, B.f0.other W (Or.inl q), B.f1.other W (Or.inl q)⟩
theorem own_BR.p0 {a0 : Array Value} {Z : State} {h h' : Heap} {a : Addr} {v0 v1 v : Value} (B : own_BR Z h a v0 v1) (hw : own_Hw a0 Z) (W : Wr h h' a (Jvm.RoadKit.slotOf Z sR "kernel" "[D") v) : own_BR Z h' a v v1 := ⟨B.e.wr W, Fld.same W B.f0, own_fo (Or.inr (w322 hw)) (Or.inr (w320 hw)) W B.f1⟩
theorem own_BR.p1 {a0 : Array Value} {Z : State} {h h' : Heap} {a : Addr} {v0 v1 v : Value} (B : own_BR Z h a v0 v1) (hw : own_Hw a0 Z) (W : Wr h h' a (Jvm.RoadKit.slotOf Z sR "bounds" "[D") v) : own_BR Z h' a v0 v := ⟨B.e.wr W, own_fo (Or.inr (w320 hw)) (Or.inr (w322 hw)) W B.f0, Fld.same W B.f1⟩
def own_V0 (hw : own_Hw a0 Z) := own_mkS (w94 hw) (w95 hw) (w97 hw) (w96 hw) own_pd__II_I
def own_V1 (hw : own_Hw a0 Z) := own_mkS (w156 hw) (w157 hw) (w159 hw) (w158 hw) own_pd__IILjava_util_function_BiFunction__I
def own_V2 (hw : own_Hw a0 Z) := own_mkS (w152 hw) (w153 hw) (w155 hw) (w154 hw) own_pd__II_I
def own_V3 (hw : own_Hw a0 Z) := own_mkV (w160 hw) (w161 hw) (w163 hw) (w162 hw) (w164 hw) (w13 hw) own_pd__I_Ljava_lang_Object_
def own_V4 (hw : own_Hw a0 Z) := own_mkV (w237 hw) (w238 hw) (w240 hw) (w239 hw) (w241 hw) (w204 hw) own_pd___V
def own_V5 (hw : own_Hw a0 Z) := own_mkF (w66 hw) (w67 hw) (w68 hw) (w69 hw) (w70 hw) (w71 hw) (w72 hw) (w73 hw) (w74 hw) (w13 hw) own_pd__Ljava_lang_Object__Z
def own_V6 (hw : own_Hw a0 Z) := own_mkP (Or.inr (w292 hw)) (w294 hw) ⟨_, (w56 hw)⟩ (w293 hw) (w295 hw) (w57 hw) own_pd__II_V
def own_V7 (hw : own_Hw a0 Z) := own_mkF (w194 hw) (w195 hw) (w196 hw) (w197 hw) (w198 hw) (w199 hw) (w200 hw) (w73 hw) (w201 hw) (w13 hw) own_pd___Ljava_util_Iterator_
def own_V8 (hw : own_Hw a0 Z) := own_mkF (w217 hw) (w218 hw) (w219 hw) (w220 hw) (w221 hw) (w222 hw) (w223 hw) (w224 hw) (w225 hw) (w204 hw) own_pd___Z
def own_V9 (hw : own_Hw a0 Z) := own_mkF (w229 hw) (w230 hw) (w231 hw) (w232 hw) (w233 hw) (w234 hw) (w235 hw) (w224 hw) (w236 hw) (w204 hw) own_pd___Ljava_lang_Object_
def own_V10 (hw : own_Hw a0 Z) := own_mkF (w144 hw) (w145 hw) (w146 hw) (w147 hw) (w148 hw) (w149 hw) (w150 hw) (w73 hw) (w151 hw) (w13 hw) own_pd__I_Ljava_lang_Object_
def own_V11 (hw : own_Hw a0 Z) := own_mkS (w181 hw) (w182 hw) (w183 hw) (w169 hw) own_pd____DII_V
def own_V12 (hw : own_Hw a0 Z) := own_mkS (w167 hw) (w168 hw) (w170 hw) (w169 hw) own_pd____D___D
def own_V13 (hw : own_Hw a0 Z) := own_mkP (Or.inl (w184 hw)) (w186 hw) ⟨_, (w3 hw)⟩ (w185 hw) (w187 hw) (w4 hw) own_pd__I_I
def own_V14 (hw : own_Hw a0 Z) := own_mkP (Or.inl (w190 hw)) (w192 hw) ⟨_, (w3 hw)⟩ (w191 hw) (w193 hw) (w4 hw) own_pd___D__D
def own_V15 (hw : own_Hw a0 Z) := own_mkP (Or.inl (w116 hw)) (w118 hw) ⟨_, (w3 hw)⟩ (w117 hw) (w119 hw) (w4 hw) own_pd__Lcom_example_bidfold_bidfold_solve_CuttingPlaneMaster_Dense__V
def own_V16 (hw : own_Hw a0 Z) := own_mkF (w124 hw) (w125 hw) (w126 hw) (w127 hw) (w128 hw) (w129 hw) (w130 hw) (w73 hw) (w131 hw) (w13 hw) own_pd___I
def own_V17 (hw : own_Hw a0 Z) := own_mkP (Or.inl (w134 hw)) (w136 hw) ⟨_, (w3 hw)⟩ (w135 hw) (w137 hw) (w4 hw) own_pd__II_V
def own_V18 (hw : own_Hw a0 Z) := own_mkP (Or.inl (w138 hw)) (w140 hw) ⟨_, (w3 hw)⟩ (w139 hw) (w141 hw) (w4 hw) own_pd___V
def own_V19 (hw : own_Hw a0 Z) := own_mkP (Or.inl (w263 hw)) (w265 hw) ⟨_, (w3 hw)⟩ (w264 hw) (w266 hw) (w4 hw) own_pd__I_Z
def own_V20 (hw : own_Hw a0 Z) := own_mkP (Or.inl (w267 hw)) (w269 hw) ⟨_, (w3 hw)⟩ (w268 hw) (w270 hw) (w4 hw) own_pd__I_I
def own_V21 (hw : own_Hw a0 Z) := own_mkP (Or.inl (w276 hw)) (w278 hw) ⟨_, (w3 hw)⟩ (w277 hw) (w279 hw) (w4 hw) own_pd__I_I
def own_V22 (hw : own_Hw a0 Z) := own_mkP (Or.inl (w280 hw)) (w282 hw) ⟨_, (w3 hw)⟩ (w281 hw) (w283 hw) (w4 hw) own_pd__I_I
def own_V23 (hw : own_Hw a0 Z) := own_mkP (Or.inl (w259 hw)) (w261 hw) ⟨_, (w3 hw)⟩ (w260 hw) (w262 hw) (w4 hw) own_pd__I_Z
def own_V24 (hw : own_Hw a0 Z) := own_mkP (Or.inl (w271 hw)) (w273 hw) ⟨_, (w3 hw)⟩ (w272 hw) (w274 hw) (w4 hw) own_pd__I_D
def own_V25 (hw : own_Hw a0 Z) := own_mkP (Or.inl (w352 hw)) (w354 hw) ⟨_, (w3 hw)⟩ (w353 hw) (w355 hw) (w4 hw) own_pd__I__D
def own_V26 (hw : own_Hw a0 Z) := own_mkS (w356 hw) (w357 hw) (w358 hw) (w4 hw) own_pd___II__I
def own_V27 (hw : own_Hw a0 Z) := own_mkV (w338 hw) (w339 hw) (w341 hw) (w340 hw) (w342 hw) (w309 hw) own_pd____D
def own_V28 (hw : own_Hw a0 Z) := own_mkV (w343 hw) (w344 hw) (w346 hw) (w345 hw) (w347 hw) (w309 hw) own_pd____D
def own_V29 (hw : own_Hw a0 Z) := own_mkP (Or.inl (w348 hw)) (w350 hw) ⟨_, (w3 hw)⟩ (w349 hw) (w351 hw) (w4 hw) own_pd__II_DDD_V
def own_V30 (hw : own_Hw a0 Z) := own_mkP (Or.inl (w303 hw)) (w305 hw) ⟨_, (w3 hw)⟩ (w304 hw) (w306 hw) (w4 hw) own_pd__I_Lcom_example_bidfold_bidfold_solve_CuttingPlaneMaster_Direction_
def own_V31 (hw : own_Hw a0 Z) := own_mkV (w323 hw) (w324 hw) (w326 hw) (w325 hw) (w327 hw) (w309 hw) own_pd__I_D
def own_V32 (hw : own_Hw a0 Z) := own_mkP (Or.inl (w330 hw)) (w332 hw) ⟨_, (w3 hw)⟩ (w331 hw) (w333 hw) (w4 hw) own_pd__I_D
def own_V33 (hw : own_Hw a0 Z) := own_mkP (Or.inl (w334 hw)) (w336 hw) ⟨_, (w3 hw)⟩ (w335 hw) (w337 hw) (w4 hw) own_pd__IILcom_example_bidfold_bidfold_solve_CuttingPlaneMaster_Direction_D_V
def own_V34 (hw : own_Hw a0 Z) := own_mkP (Or.inl (w250 hw)) (w252 hw) ⟨_, (w3 hw)⟩ (w251 hw) (w253 hw) (w4 hw) own_pd____D
def own_V35 (hw : own_Hw a0 Z) := own_mkP (Or.inl (w255 hw)) (w257 hw) ⟨_, (w3 hw)⟩ (w256 hw) (w258 hw) (w4 hw) own_pd__Z_I
def own_V36 (hw : own_Hw a0 Z) := own_mkP (Or.inl (w299 hw)) (w301 hw) ⟨_, (w3 hw)⟩ (w300 hw) (w302 hw) (w4 hw) own_pd__IZ_D
def own_V37 (hw : own_Hw a0 Z) := own_mkV (w101 hw) (w102 hw) (w104 hw) (w103 hw) (w105 hw) (w4 hw) own_pd__D_D_Z
def own_V38 (hw : own_Hw a0 Z) := own_mkV (w245 hw) (w246 hw) (w248 hw) (w247 hw) (w249 hw) (w4 hw) own_pd___V
def own_V39 (hw : own_Hw a0 Z) := own_mkV (w284 hw) (w285 hw) (w287 hw) (w286 hw) (w288 hw) (w4 hw) own_pd___D
def own_V40 (hw : own_Hw a0 Z) := own_mkS (w291 hw) (w95 hw) (w97 hw) (w96 hw) own_pd__II_I
theorem own_dr {d : Int32} (h : d = 0 ∨ d = 1) : ¬ ((4 : Int32) < d) := by rcases h with rfl | rfl <;> decide
def Q_rmAC (Z : State) (a : Addr)  (h0 : Heap) (n0 : Nat) (v : Option Value) (h : Heap) (L : List Loc) : Prop := v = none ∧ Fr n0 L ∧ h = h0
theorem own_pn_java_util_AbstractCollection : plainName "java/util/AbstractCollection" = true := by first | (simp [plainName, overriddenIn]; done) | decide +kernel
theorem rmAC (l : Launch) (Z : State) (a0 : Array Value) (hw : own_Hw a0 Z) (ws : List Jvm.Cond) (a : Addr)  (h0 : Heap) (n0 : Nat) (Z0 : n0 ≤ h0.size)  : own_Met l Z own_mn0 jdk_22_method_1_code 1 none ws ⟨1, 0, 0, 12⟩ #[.ref a] h0 (Q_rmAC Z a h0 n0) := by
  refine own_begS "java/util/AbstractCollection" n0 [] #[vr a] oT5 (plainFor_of_name own_pn_java_util_AbstractCollection) fun p e s m below meth c s₁ hx D hml hown hnm hret hlk hZ X0 e0 PS y0 N0 KK0 => ?_
  obtain ⟨T1, X1, e1, st1⟩ := initO X0 hx hZ hown (w29 hw) (w9 hw) (w10 hw) e0 (g := (mkF m 1 #[vr a] [.ref a])) rfl hml.symm rfl (D 1 rfl) (by decide) (W := 0) (by show 2 * 0 + _ ≤ _; exact Nat.le_of_eq rfl) (by decide)
  have y2 := rP 1 1 _ [.ref a] y0 X0 hx D rfl
  have y3 := fun (τ : State) kt => y2 τ (st1 τ kt)
  exact own_retV X1 hlk y3 hx hret (D 4 rfl) (by decide) (by decide) e1 ⟨rfl, N0, rfl⟩
def Q_rmABL (Z : State) (a : Addr)  (h0 : Heap) (n0 : Nat) (v : Option Value) (h : Heap) (L : List Loc) : Prop := v = none ∧ Fr n0 L ∧ Keep h0 h [a] ∧ own_BA Z h a .null (.int 0) (.int 0)
theorem own_pn_java_util_AbstractList : plainName "java/util/AbstractList" = true := by first | (simp [plainName, overriddenIn]; done) | decide +kernel
theorem rmABL (l : Launch) (Z : State) (a0 : Array Value) (hw : own_Hw a0 Z) (ws : List Jvm.Cond) (a : Addr)  (h0 : Heap) (n0 : Nat) (Z0 : n0 ≤ h0.size) (f0_ : own_BA Z h0 a .null (.int 0) (.int 0)) (gg_a : n0 ≤ a) : own_Met l Z own_mn1 jdk_39_method_1_code 1 none ws ⟨2, 0, 0, 24⟩ #[.ref a] h0 (Q_rmABL Z a h0 n0) := by
  refine own_begS "java/util/AbstractList" n0 [a] #[vr a] oT4 (plainFor_of_name own_pn_java_util_AbstractList) fun p e s m below meth c s₁ hx D hml hown hnm hret hlk hZ X0 e0 PS y0 N0 KK0 => ?_
  obtain ⟨_, T5, L5, X5, ⟨rfl, Nq5, eq5⟩, st5⟩ := own_spec (y := own_mn0) (b := a) X0 hx hZ rfl hown (w23 hw) (w24 hw) (by decide) (rmAC l Z a0 hw [] a h0 n0 (Nat.le_trans Z0 KK0.1) ) (w28 hw) (w27 hw) 0 (by decide) (by decide) e0 (mkF m 1 #[vr a] [.ref a]) rfl hml.symm [] [] rfl (lenOf own_pd___V rfl) rfl (Nat.le_refl _) (D 1 rfl) (by decide) (by decide)
  have y6 := rP 1 1 _ [.ref a] y0 X0 hx D rfl
  have y7 := fun (τ : State) kt => y6 τ (st5 τ kt)
  have y8 := rP 2 6 _ [.int 0, .ref a] y7 X5 hx D rfl
  obtain ⟨T9, h9, X9, e9, W9, fw9, y9⟩ := own_putK y8 X5 hx hZ hown (w30 hw) Via.refl eq5 f0_.f2 f0_.e (Or.inl (w31 hw)) (w12 hw) .int (by decide) rfl rfl rfl rfl (D 6 rfl)
  have b10 := f0_.p2 hw W9
  have K11 := KK0.wr W9 (Or.inl (by simp))
  exact own_retV X9 hlk y9 hx hret (D 9 rfl) (by decide) (by decide) e9 ⟨rfl, (Fr.snoc X9 (Fr.app N0 Nq5) gg_a), K11, b10⟩
def Q_rmAL (Z : State) (a : Addr) (de : Addr) (h0 : Heap) (n0 : Nat) (v : Option Value) (h : Heap) (L : List Loc) : Prop := v = none ∧ Fr n0 L ∧ Keep h0 h [a] ∧ own_BA Z h a (.ref de) (.int 0) (.int 0)
theorem own_pn_sA : plainName sA = true := by first | (simp [plainName, overriddenIn]; done) | decide +kernel
theorem rmAL (l : Launch) (Z : State) (a0 : Array Value) (hw : own_Hw a0 Z) (ws : List Jvm.Cond) (a : Addr) (de : Addr) (h0 : Heap) (n0 : Nat) (Z0 : n0 ≤ h0.size) (f0_ : own_BA Z h0 a .null (.int 0) (.int 0)) (gg_a : n0 ≤ a) (O3 : Sta Z Z.heap sA "DEFAULTCAPACITY_EMPTY_ELEMENTDATA" sO (.ref de)) (OLD0 : Old Z n0 h0) : own_Met l Z own_mn2 jdk_38_method_2_code 1 none ws ⟨3, 0, 0, 37⟩ #[.ref a] h0 (Q_rmAL Z a de h0 n0) := by
  refine own_begS sA n0 [a] #[vr a] oT3 (plainFor_of_name own_pn_sA) fun p e s m below meth c s₁ hx D hml hown hnm hret hlk hZ X0 e0 PS y0 N0 KK0 => ?_
  obtain ⟨_, T13, L13, X13, ⟨rfl, Nq13, Kq13, p12_0⟩, st13⟩ := own_spec (y := own_mn1) (b := a) X0 hx hZ rfl hown (w17 hw) (w18 hw) (by decide) (rmABL l Z a0 hw [] a h0 n0 (Nat.le_trans Z0 KK0.1) f0_ gg_a) (w22 hw) (w21 hw) 0 (by decide) (by decide) e0 (mkF m 1 #[vr a] [.ref a]) rfl hml.symm [] [] rfl (lenOf own_pd___V rfl) rfl (Nat.le_refl _) (D 1 rfl) (by decide) (by decide)
  have y14 := rP 1 1 _ [.ref a] y0 X0 hx D rfl
  have y15 := fun (τ : State) kt => y14 τ (st13 τ kt)
  have old16 := OLD0.keep Kq13 (allS gg_a (all0))
  obtain ⟨T17, X17, e17, st17⟩ := getS2 X13 hx hZ hown (host := "") (Or.inl (w32 hw)) Via.refl rfl (O3.ext old16.2) (g := (mkF m 5 #[vr a] [.ref a])) rfl (D 5 rfl)
  have y18 := rP 1 5 _ [.ref a] y15 X13 hx D rfl
  have y19 := fun (τ : State) kt => y18 τ (st17 τ kt)
  obtain ⟨T20, h20, X20, e20, W20, fw20, y20⟩ := own_putK y19 X17 hx hZ hown (w33 hw) Via.refl e17 p12_0.f0 p12_0.e (Or.inl (w34 hw)) (w12 hw) (.array (.object "java/lang/Object")) (by decide) rfl rfl rfl rfl (D 8 rfl)
  have b21 := p12_0.p0 hw W20
  have K22 := (KK0.trans Kq13 (allS (Or.inl (by simp)) (all0))).wr W20 (Or.inl (by simp))
  exact own_retV X20 hlk y20 hx hret (D 11 rfl) (by decide) (by decide) e20 ⟨rfl, (Fr.snoc X20 (Fr.app N0 Nq13) gg_a), K22, b21⟩
def Q_rmMxI (Z : State) (ma : Int32) (mb : Int32)  (h0 : Heap) (n0 : Nat) (v : Option Value) (h : Heap) (L : List Loc) : Prop := v = some (.int (own_maxI ma mb)) ∧ Fr n0 L ∧ h = h0
theorem rmMxI (l : Launch) (Z : State) (a0 : Array Value) (hw : own_Hw a0 Z) (ws : List Jvm.Cond) (ma : Int32) (mb : Int32)  (h0 : Heap) (n0 : Nat) (Z0 : n0 ≤ h0.size)  : own_Met l Z own_mn3 jdk_29_method_65_code 2 (some .int) ws ⟨0, 0, 0, 0⟩ #[.int ma, .int mb] h0 (Q_rmMxI Z ma mb h0 n0) := by
  refine own_begS "java/lang/Math" n0 [] #[vi ma, vi mb] oT11 (Jvm.Free.JP.mathPlain rfl (by decide +kernel)) fun p e s m below meth c s₁ hx D hml hown hnm hret hlk hZ X0 e0 PS y0 N0 KK0 => ?_
  have y23 := rP 2 2 _ [.int mb, .int ma] y0 X0 hx D rfl
  by_cases q : ma < mb
  · skip
    have hr : own_maxI ma mb = mb := if_pos q
    have y24 := fun (τ : State) kt => y23 τ (XS.icmpYes X0.here hx rfl (pc0 := 2) (pc' := 9) rfl (D 2 rfl) rfl (tlt q).1 (by decide) (by decide) kt)
    have y25 := rP 1 10 _ [.int mb] y24 X0 hx D rfl
    exact own_retI X0 hlk y25 hx hret (D 10 rfl) (by decide) (by decide) e0 ⟨congrArg (fun z => some (Value.int z)) hr.symm, N0, rfl⟩
  · skip
    have hr : own_maxI ma mb = ma := if_neg q
    have y26 := fun (τ : State) kt => y23 τ (XS.icmpNo X0.here hx rfl (D 2 rfl) rfl (flt q).1 kt)
    have y27 := rP 2 10 _ [.int ma] y26 X0 hx D rfl
    exact own_retI X0 hlk y27 hx hret (D 10 rfl) (by decide) (by decide) e0 ⟨congrArg (fun z => some (Value.int z)) hr.symm, N0, rfl⟩
def Q_rmGr (Z : State) (a : Addr) (de : Addr) (k_de : ClassId)  (h0 : Heap) (n0 : Nat) (v : Option Value) (h : Heap) (L : List Loc) : Prop := ∃ (ed : Addr) (k_ed : ClassId), v = some (.ref ed) ∧ Fr n0 L ∧ Keep h0 h [a] ∧ n0 ≤ ed ∧ h0.size ≤ ed ∧ own_BA Z h a (.ref ed) (.int 0) (.int 1) ∧ Arv Z h ed k_ed (.object "java/lang/Object") (10 : Int32) [.null, .null, .null, .null, .null, .null, .null, .null, .null, .null] .null ∧ Ovr Z k_ed "java/lang/Object"
theorem rmGr (l : Launch) (Z : State) (a0 : Array Value) (hw : own_Hw a0 Z) (ws : List Jvm.Cond) (a : Addr) (de : Addr) (k_de : ClassId)  (h0 : Heap) (n0 : Nat) (Z0 : n0 ≤ h0.size) (f0_ : own_BA Z h0 a (.ref de) (.int 0) (.int 1)) (f1_ : Arv Z h0 de k_de (.object "java/lang/Object") (0 : Int32) [] .null) (gg_a : n0 ≤ a) (O3 : Sta Z Z.heap sA "DEFAULTCAPACITY_EMPTY_ELEMENTDATA" sO (.ref de)) (OLD0 : Old Z n0 h0) : own_Met l Z own_mn4 jdk_38_method_6_code 4 (some (.array (.object "java/lang/Object"))) ws ⟨1, 1, 10, 20⟩ #[.ref a, .int 1] h0 (Q_rmGr Z a de k_de h0 n0) := by
  refine own_begS sA n0 [a] #[vr a, vi 1, un, un] oT10 (plainFor_of_name own_pn_sA) fun p e s m below meth c s₁ hx D hml hown hnm hret hlk hZ X0 e0 PS y0 N0 KK0 => ?_
  have y28 := rP 1 1 _ [.ref a] y0 X0 hx D rfl
  obtain ⟨T29, X29, e29, y29⟩ := gP y28 X0 hx hZ hown (w33 hw) e0 f0_.f0 D
  have y30 := lP y29 X29 hx hZ e29 f1_ D
  have y31 := rP 4 11 [vr a, vi 1, vi 0, un] [.ref a] y30 X29 hx D rfl
  obtain ⟨T32, X32, e32, y32⟩ := gP y31 X29 hx hZ hown (w33 hw) e29 f0_.f0 D
  obtain ⟨T33, X33, e33, st33⟩ := getS2 X32 hx hZ hown (host := "") (Or.inl (w32 hw)) Via.refl e32 (O3.ext OLD0.2) (g := (mkF m 14 #[vr a, vi 1, vi 0, un] [.ref de])) rfl (D 14 rfl)
  have y34 := fun (τ : State) kt => y32 τ (st33 τ kt)
  have y37 := fun (τ : State) kt => y34 τ (Jvm.RoadKit.acmp (g := (mkF m 17 #[vr a, vi 1, vi 0, un] [.ref de, .ref de])) X33 hx rfl rfl rfl (pc0 := 17) (pc' := 45) (same := true) rfl (D 17 rfl) rfl (decide_eq_true rfl) (by decide) (by decide) kt)
  have y38 := rP 1 46 _ [.ref a] y37 X33 hx D rfl
  have y39 := fun (τ : State) kt => y38 τ (XS.bipush X33.here hx rfl (D 46 rfl) kt)
  have y40 := rP 1 49 _ [.int 1, .int 10, .ref a] y39 X33 hx D rfl
  obtain ⟨_, T36, L36, X36, ⟨rfl, Nq36, eq36⟩, y36⟩ := cS y40 X33 hx hZ hown hml.symm (own_V0 hw) (rmMxI l Z a0 hw [] (10 : Int32) (1 : Int32) h0 n0 (Nat.le_trans Z0 KK0.1) ) 1 e33 [.int 10, .int 1] [.ref a] D
  obtain ⟨T41, h41, k41, X41, e41, E41, A41, O41, st41⟩ := newR X36 hx hZ hown (w98 hw) (w99 hw) eq36 (g := (mkF m 52 #[vr a, vi 1, vi 0, un] [.int 10, .ref a])) rfl (D 52 rfl) rfl (by decide) (cap := 10) (by decide) (by decide) (by decide) (by decide)
  obtain ⟨ed, g41⟩ : ∃ z, z = h0.size := ⟨_, rfl⟩
  rw [← g41] at A41 st41
  have g_ed : n0 ≤ ed := Nat.le_trans (Nat.le_trans Z0 KK0.1) (Nat.le_of_eq g41.symm)
  have sz_ed : h0.size ≤ ed := Nat.le_trans KK0.1 (Nat.le_of_eq g41.symm)
  have V_ed : Arv Z h41 ed k41 (.object "java/lang/Object") (10 : Int32) [.null, .null, .null, .null, .null, .null, .null, .null, .null, .null] .null := (Arv.new A41 (by decide)).pad (pad_rep [] .null 10)
  have y42 := nI y36 own_q0
  have y43 := fun (τ : State) kt => y42 τ (st41 τ kt)
  have b44 := f0_.ext E41
  have y45 := fun (τ : State) kt => y43 τ (XT.dupX1 X41.here hx rfl (D 55 rfl) rfl rfl rfl kt)
  obtain ⟨T46, h46, X46, e46, W46, fw46, y46⟩ := own_putK y45 X41 hx hZ hown (w33 hw) Via.refl e41 b44.f0 b44.e (Or.inl (w34 hw)) (w12 hw) (.array (.object "java/lang/Object")) (by decide) rfl rfl rfl rfl (D 56 rfl)
  have b47 := b44.p0 hw W46
  have ne48 := own_ltn f0_.e.lt sz_ed
  have f49 := V_ed.other W46 (Ne.symm ne48)
  have K50 := (KK0.ext E41).wr W46 (Or.inl (by simp))
  exact own_retA X46 hlk y46 hx hret rfl rfl (D 59 rfl) (by decide) (by decide) e46 ⟨ed, k41, rfl, (Fr.snoc X46 (Fr.app N0 Nq36) gg_a), K50, g_ed, sz_ed, b47, f49, O41⟩
def Q_rmG0 (Z : State) (a : Addr) (de : Addr) (k_de : ClassId)  (h0 : Heap) (n0 : Nat) (v : Option Value) (h : Heap) (L : List Loc) : Prop := ∃ (ed : Addr) (k_ed : ClassId), v = some (.ref ed) ∧ Fr n0 L ∧ Keep h0 h [a] ∧ n0 ≤ ed ∧ h0.size ≤ ed ∧ own_BA Z h a (.ref ed) (.int 0) (.int 1) ∧ Arv Z h ed k_ed (.object "java/lang/Object") (10 : Int32) [.null, .null, .null, .null, .null, .null, .null, .null, .null, .null] .null ∧ Ovr Z k_ed "java/lang/Object"
theorem rmG0 (l : Launch) (Z : State) (a0 : Array Value) (hw : own_Hw a0 Z) (ws : List Jvm.Cond) (a : Addr) (de : Addr) (k_de : ClassId)  (h0 : Heap) (n0 : Nat) (Z0 : n0 ≤ h0.size) (f0_ : own_BA Z h0 a (.ref de) (.int 0) (.int 1)) (f1_ : Arv Z h0 de k_de (.object "java/lang/Object") (0 : Int32) [] .null) (gg_a : n0 ≤ a) (O3 : Sta Z Z.heap sA "DEFAULTCAPACITY_EMPTY_ELEMENTDATA" sO (.ref de)) (OLD0 : Old Z n0 h0) : own_Met l Z own_mn5 jdk_38_method_7_code 1 (some (.array (.object "java/lang/Object"))) ws ⟨2, 1, 10, 38⟩ #[.ref a] h0 (Q_rmG0 Z a de k_de h0 n0) := by
  refine own_begS sA n0 [a] #[vr a] oT9 (plainFor_of_name own_pn_sA) fun p e s m below meth c s₁ hx D hml hown hnm hret hlk hZ X0 e0 PS y0 N0 KK0 => ?_
  have y51 := rP 2 2 _ [.ref a, .ref a] y0 X0 hx D rfl
  obtain ⟨T52, X52, e52, y52⟩ := gP y51 X0 hx hZ hown (w77 hw) e0 f0_.f1 D
  obtain ⟨_, T54, L54, X54, ⟨ed, k_ed, rfl, Nq54, Kq54, g53_ed, z53_ed, p53_0, p53_1, p53_2⟩, st54⟩ := own_priv (y := own_mn4) (b := a) X52 hx hZ hown (w89 hw) (w91 hw) (w92 hw) (w90 hw) (by decide) (rmGr l Z a0 hw [] a de k_de h0 n0 (Nat.le_trans Z0 KK0.1) f0_ f1_ gg_a O3 OLD0) (w93 hw) (w13 hw) 0 (by decide) (by decide) f0_.e e52 (mkF m 7 #[vr a] [.int 1, .ref a]) rfl hml.symm [.int 1] [] rfl (lenOf own_pd__I__Ljava_lang_Object_ rfl) rfl (Nat.le_refl _) (D 7 rfl) (by decide) (by decide)
  have y55 := rP 2 7 _ [.int 1, .ref a] y52 X52 hx D rfl
  have y56 := fun (τ : State) kt => y55 τ (st54 τ kt)
  have sz_ed := Nat.le_trans KK0.1 z53_ed
  have K57 := KK0.trans Kq54 (allS (Or.inl (by simp)) (all0))
  exact own_retA X54 hlk y56 hx hret rfl rfl (D 10 rfl) (by decide) (by decide) rfl ⟨ed, k_ed, rfl, (Fr.app N0 Nq54), K57, g53_ed, sz_ed, p53_0, p53_1, p53_2⟩
def Q_rmA3a (Z : State) (a : Addr) (x1 : Addr) (de : Addr) (k_de : ClassId)  (h0 : Heap) (n0 : Nat) (v : Option Value) (h : Heap) (L : List Loc) : Prop := ∃ (ed : Addr) (k_ed : ClassId), v = none ∧ Fr n0 L ∧ Keep h0 h [a] ∧ n0 ≤ ed ∧ h0.size ≤ ed ∧ own_BA Z h a (.ref ed) (.int 1) (.int 1) ∧ Arv Z h ed k_ed (.object "java/lang/Object") (10 : Int32) [.ref x1, .null, .null, .null, .null, .null, .null, .null, .null, .null] .null ∧ Ovr Z k_ed "java/lang/Object"
theorem rmA3a (l : Launch) (Z : State) (a0 : Array Value) (hw : own_Hw a0 Z) (ws : List Jvm.Cond) (a : Addr) (x1 : Addr) (de : Addr) (k_de : ClassId)  (h0 : Heap) (n0 : Nat) (Z0 : n0 ≤ h0.size) (f0_ : own_BA Z h0 a (.ref de) (.int 0) (.int 1)) (f1_ : Arv Z h0 de k_de (.object "java/lang/Object") (0 : Int32) [] .null) (f2_ : Exa Z h0 x1 sD) (gg_a : n0 ≤ a) (O3 : Sta Z Z.heap sA "DEFAULTCAPACITY_EMPTY_ELEMENTDATA" sO (.ref de)) (OLD0 : Old Z n0 h0) : own_Met l Z own_mn6 jdk_38_method_24_code 4 none ws ⟨3, 1, 10, 55⟩ #[.ref a, .ref x1, .ref de, .int 0] h0 (Q_rmA3a Z a x1 de k_de h0 n0) := by
  refine own_begS sA n0 [a] #[vr a, vr x1, vr de, vi 0] oT8 (plainFor_of_name own_pn_sA) fun p e s m below meth c s₁ hx D hml hown hnm hret hlk hZ X0 e0 PS y0 N0 KK0 => ?_
  obtain ⟨_, T59, L59, X59, ⟨ed, k_ed, rfl, Nq59, Kq59, g58_ed, z58_ed, p58_0, p58_1, p58_2⟩, st59⟩ := own_priv (y := own_mn5) (b := a) X0 hx hZ hown (w84 hw) (w86 hw) (w87 hw) (w85 hw) (by decide) (rmG0 l Z a0 hw [] a de k_de h0 n0 (Nat.le_trans Z0 KK0.1) f0_ f1_ gg_a O3 OLD0) (w88 hw) (w13 hw) 0 (by decide) (by decide) f0_.e e0 (mkF m 7 #[vr a, vr x1, vr de, vi 0] [.ref a]) rfl hml.symm [] [] rfl (lenOf own_pd____Ljava_lang_Object_ rfl) rfl (Nat.le_refl _) (D 7 rfl) (by decide) (by decide)
  have y60 := rP 2 2 _ [.ref de, .int 0] y0 X0 hx D rfl
  have y61 := lP y60 X0 hx hZ e0 f1_ D
  have y62 := rP 2 7 _ [.ref a] y61 X0 hx D rfl
  have y63 := fun (τ : State) kt => y62 τ (st59 τ kt)
  have sz_ed := Nat.le_trans KK0.1 z58_ed
  obtain ⟨cl64, Ar64, q64, S64, M64, H64, U64⟩ := id p58_1
  have f66 := f2_.keep Kq59
  obtain ⟨T65, h65, X65, e65, W65, st65⟩ := stR X59 hx hZ rfl Ar64 (j := (0 : Int32)) (inb_of S64 ⟨by decide, by decide⟩) rfl (Sto.ofV Ar64 q64 p58_2 (Ins.of_exa f66 (w100 hw))) (g := (mkF m 14 #[vr a, vr x1, vr ed, vi 0] [.ref x1, .int 0, .ref ed])) rfl rfl (D 14 rfl)
  have V65 : Arv Z h65 ed k_ed (.object "java/lang/Object") (10 : Int32) [.ref x1, .null, .null, .null, .null, .null, .null, .null, .null, .null] .null := Arv.set Ar64 q64 S64 M64 H64 U64 rfl W65 0 rfl (Nat.le_of_ble_eq_true rfl)
  have N65 := Fr.snoc X65 (Fr.app N0 Nq59) g58_ed
  have y67 := rP 4 14 [vr a, vr x1, vr ed, vi 0] [.ref x1, .int 0, .ref ed] y63 X59 hx D rfl
  have y68 := fun (τ : State) kt => y67 τ (st65 τ kt)
  have ne69 := own_ltn f0_.e.lt sz_ed
  have b70 := p58_0.other W65 ne69
  have y71 := rP 4 19 _ [.int 1, .ref a] y68 X65 hx D rfl
  obtain ⟨T72, h72, X72, e72, W72, fw72, y72⟩ := own_putK y71 X65 hx hZ hown (w77 hw) Via.refl e65 b70.f1 b70.e (Or.inl (w78 hw)) (w12 hw) .int (by decide) rfl rfl rfl rfl (D 19 rfl)
  have b73 := b70.p1 hw W72
  have f74 := V65.other W72 (Ne.symm ne69)
  have K75 := ((KK0.trans Kq59 (allS (Or.inl (by simp)) (all0))).wr W65 (Or.inr sz_ed)).wr W72 (Or.inl (by simp))
  exact own_retV X72 hlk y72 hx hret (D 22 rfl) (by decide) (by decide) e72 ⟨ed, k_ed, rfl, (Fr.snoc X72 N65 gg_a), K75, g58_ed, sz_ed, b73, f74, p58_2⟩
def Q_rmAda (Z : State) (a : Addr) (x1 : Addr) (de : Addr) (k_de : ClassId)  (h0 : Heap) (n0 : Nat) (v : Option Value) (h : Heap) (L : List Loc) : Prop := ∃ (ed : Addr) (k_ed : ClassId), v = some (.int 1) ∧ Fr n0 L ∧ Keep h0 h [a] ∧ n0 ≤ ed ∧ h0.size ≤ ed ∧ own_BA Z h a (.ref ed) (.int 1) (.int 1) ∧ Arv Z h ed k_ed (.object "java/lang/Object") (10 : Int32) [.ref x1, .null, .null, .null, .null, .null, .null, .null, .null, .null] .null ∧ Ovr Z k_ed "java/lang/Object"
theorem rmAda (l : Launch) (Z : State) (a0 : Array Value) (hw : own_Hw a0 Z) (ws : List Jvm.Cond) (a : Addr) (x1 : Addr) (de : Addr) (k_de : ClassId)  (h0 : Heap) (n0 : Nat) (Z0 : n0 ≤ h0.size) (f0_ : own_BA Z h0 a (.ref de) (.int 0) (.int 0)) (f1_ : Arv Z h0 de k_de (.object "java/lang/Object") (0 : Int32) [] .null) (f2_ : Exa Z h0 x1 sD) (gg_a : n0 ≤ a) (O3 : Sta Z Z.heap sA "DEFAULTCAPACITY_EMPTY_ELEMENTDATA" sO (.ref de)) (OLD0 : Old Z n0 h0) : own_Met l Z own_mn7 jdk_38_method_25_code 2 (some .boolean) ws ⟨4, 1, 10, 75⟩ #[.ref a, .ref x1] h0 (Q_rmAda Z a x1 de k_de h0 n0) := by
  refine own_begS sA n0 [a] #[vr a, vr x1] oT7 (plainFor_of_name own_pn_sA) fun p e s m below meth c s₁ hx D hml hown hnm hret hlk hZ X0 e0 PS y0 N0 KK0 => ?_
  have y76 := rP 2 2 _ [.ref a, .ref a] y0 X0 hx D rfl
  obtain ⟨T77, X77, e77, y77⟩ := own_getK y76 X0 hx hZ hown (w75 hw) (Via.of (w76 hw)) e0 f0_.f2 rfl rfl (D 2 rfl)
  have y78 := rP 2 7 _ [.int 1, .ref a] y77 X77 hx D rfl
  obtain ⟨T79, h79, X79, e79, W79, fw79, y79⟩ := own_putK y78 X77 hx hZ hown (w75 hw) (Via.of (w76 hw)) e77 f0_.f2 f0_.e (Or.inl (w31 hw)) (w12 hw) .int (by decide) rfl rfl rfl rfl (D 7 rfl)
  have b80 := f0_.p2 hw W79
  have y81 := rP 3 13 _ [.ref a, .ref x1, .ref a] y79 X79 hx D rfl
  obtain ⟨T82, X82, e82, y82⟩ := gP y81 X79 hx hZ hown (w33 hw) e79 b80.f0 D
  have y83 := rP 1 17 _ [.ref a, .ref de, .ref x1, .ref a] y82 X82 hx D rfl
  obtain ⟨T84, X84, e84, y84⟩ := gP y83 X82 hx hZ hown (w77 hw) e82 b80.f1 D
  have old85 := OLD0.wr W79 gg_a
  have f86 := f1_.other W79 (Ne.symm (Exa.neArv f0_.e f1_ (w12 hw)))
  have f87 := f2_.wr W79
  have K88 := KK0.wr W79 (Or.inl (by simp))
  obtain ⟨_, T90, L90, X90, ⟨ed, k_ed, rfl, Nq90, Kq90, g89_ed, z89_ed, p89_0, p89_1, p89_2⟩, st90⟩ := own_priv (y := own_mn6) (b := a) X84 hx hZ hown (w79 hw) (w81 hw) (w82 hw) (w80 hw) (by decide) (rmA3a l Z a0 hw [] a x1 de k_de h79 n0 (Nat.le_trans Z0 K88.1) b80 f86 f87 gg_a O3 old85) (w83 hw) (w13 hw) 0 (by decide) (by decide) b80.e e84 (mkF m 20 #[vr a, vr x1] [.int 0, .ref de, .ref x1, .ref a]) rfl hml.symm [.ref x1, .ref de, .int 0] [] rfl (lenOf own_pd__Ljava_lang_Object__Ljava_lang_Object_I_V rfl) rfl (Nat.le_refl _) (D 20 rfl) (by decide) (by decide)
  have y91 := fun (τ : State) kt => y84 τ (st90 τ kt)
  have sz_ed := Nat.le_trans K88.1 z89_ed
  have K92 := K88.trans Kq90 (allS (Or.inl (by simp)) (all0))
  have y93 := rP 1 24 _ [.int 1] y91 X90 hx D rfl
  exact own_retZ X90 hlk y93 hx hret rfl (D 24 rfl) (by decide) (by decide) rfl ⟨ed, k_ed, rfl, (Fr.app (Fr.snoc X79 N0 gg_a) Nq90), K92, g89_ed, sz_ed, p89_0, p89_1, p89_2⟩
def Q_rmA3b (Z : State) (a : Addr) (x2 : Addr) (ed : Addr) (k_ed : ClassId) (x1 : Addr) (h0 : Heap) (n0 : Nat) (v : Option Value) (h : Heap) (L : List Loc) : Prop := v = none ∧ Fr n0 L ∧ Keep h0 h [a, ed] ∧ own_BA Z h a (.ref ed) (.int 2) (.int 2) ∧ Arv Z h ed k_ed (.object "java/lang/Object") (10 : Int32) [.ref x1, .ref x2, .null, .null, .null, .null, .null, .null, .null, .null] .null ∧ Ovr Z k_ed "java/lang/Object"
theorem rmA3b (l : Launch) (Z : State) (a0 : Array Value) (hw : own_Hw a0 Z) (ws : List Jvm.Cond) (a : Addr) (x2 : Addr) (ed : Addr) (k_ed : ClassId) (x1 : Addr) (h0 : Heap) (n0 : Nat) (Z0 : n0 ≤ h0.size) (f0_ : own_BA Z h0 a (.ref ed) (.int 1) (.int 2)) (f1_ : Arv Z h0 ed k_ed (.object "java/lang/Object") (10 : Int32) [.ref x1, .null, .null, .null, .null, .null, .null, .null, .null, .null] .null) (f2_ : Ovr Z k_ed "java/lang/Object") (f3_ : Exa Z h0 x2 sD) (gg_a : n0 ≤ a) (gg_ed : n0 ≤ ed) : own_Met l Z own_mn6 jdk_38_method_24_code 4 none ws ⟨0, 0, 0, 0⟩ #[.ref a, .ref x2, .ref ed, .int 1] h0 (Q_rmA3b Z a x2 ed k_ed x1 h0 n0) := by
  refine own_begS sA n0 [a, ed] #[vr a, vr x2, vr ed, vi 1] oT8 (plainFor_of_name own_pn_sA) fun p e s m below meth c s₁ hx D hml hown hnm hret hlk hZ X0 e0 PS y0 N0 KK0 => ?_
  obtain ⟨cl94, Ar94, q94, S94, M94, H94, U94⟩ := id f1_
  obtain ⟨T95, h95, X95, e95, W95, st95⟩ := stR X0 hx hZ e0 Ar94 (j := (1 : Int32)) (inb_of S94 ⟨by decide, by decide⟩) rfl (Sto.ofV Ar94 q94 f2_ (Ins.of_exa f3_ (w100 hw))) (g := (mkF m 14 #[vr a, vr x2, vr ed, vi 1] [.ref x2, .int 1, .ref ed])) rfl rfl (D 14 rfl)
  have V95 : Arv Z h95 ed k_ed (.object "java/lang/Object") (10 : Int32) [.ref x1, .ref x2, .null, .null, .null, .null, .null, .null, .null, .null] .null := Arv.set Ar94 q94 S94 M94 H94 U94 rfl W95 1 rfl (Nat.le_of_ble_eq_true rfl)
  have N95 := Fr.snoc X95 N0 gg_ed
  have y96 := rP 2 2 _ [.ref ed, .int 1] y0 X0 hx D rfl
  have y97 := lP y96 X0 hx hZ e0 f1_ D
  have y98 := rP 4 14 _ [.ref x2, .int 1, .ref ed] y97 X0 hx D rfl
  have y99 := fun (τ : State) kt => y98 τ (st95 τ kt)
  have b100 := f0_.other W95 (Exa.neArv f0_.e f1_ (w12 hw))
  have y101 := rP 4 19 _ [.int 2, .ref a] y99 X95 hx D rfl
  obtain ⟨T102, h102, X102, e102, W102, fw102, y102⟩ := own_putK y101 X95 hx hZ hown (w77 hw) Via.refl e95 b100.f1 b100.e (Or.inl (w78 hw)) (w12 hw) .int (by decide) rfl rfl rfl rfl (D 19 rfl)
  have b103 := b100.p1 hw W102
  have f104 := V95.other W102 (Ne.symm (Exa.neArv f0_.e f1_ (w12 hw)))
  have K105 := (KK0.wr W95 (Or.inl (by simp))).wr W102 (Or.inl (by simp))
  exact own_retV X102 hlk y102 hx hret (D 22 rfl) (by decide) (by decide) e102 ⟨rfl, (Fr.snoc X102 N95 gg_a), K105, b103, f104, f2_⟩
def Q_rmAdb (Z : State) (a : Addr) (x2 : Addr) (ed : Addr) (k_ed : ClassId) (x1 : Addr) (h0 : Heap) (n0 : Nat) (v : Option Value) (h : Heap) (L : List Loc) : Prop := v = some (.int 1) ∧ Fr n0 L ∧ Keep h0 h [a, ed] ∧ own_BA Z h a (.ref ed) (.int 2) (.int 2) ∧ Arv Z h ed k_ed (.object "java/lang/Object") (10 : Int32) [.ref x1, .ref x2, .null, .null, .null, .null, .null, .null, .null, .null] .null ∧ Ovr Z k_ed "java/lang/Object"
theorem rmAdb (l : Launch) (Z : State) (a0 : Array Value) (hw : own_Hw a0 Z) (ws : List Jvm.Cond) (a : Addr) (x2 : Addr) (ed : Addr) (k_ed : ClassId) (x1 : Addr) (h0 : Heap) (n0 : Nat) (Z0 : n0 ≤ h0.size) (f0_ : own_BA Z h0 a (.ref ed) (.int 1) (.int 1)) (f1_ : Arv Z h0 ed k_ed (.object "java/lang/Object") (10 : Int32) [.ref x1, .null, .null, .null, .null, .null, .null, .null, .null, .null] .null) (f2_ : Ovr Z k_ed "java/lang/Object") (f3_ : Exa Z h0 x2 sD) (gg_a : n0 ≤ a) (gg_ed : n0 ≤ ed) : own_Met l Z own_mn7 jdk_38_method_25_code 2 (some .boolean) ws ⟨1, 0, 0, 20⟩ #[.ref a, .ref x2] h0 (Q_rmAdb Z a x2 ed k_ed x1 h0 n0) := by
  refine own_begS sA n0 [a, ed] #[vr a, vr x2] oT7 (plainFor_of_name own_pn_sA) fun p e s m below meth c s₁ hx D hml hown hnm hret hlk hZ X0 e0 PS y0 N0 KK0 => ?_
  have y106 := rP 2 2 _ [.ref a, .ref a] y0 X0 hx D rfl
  obtain ⟨T107, X107, e107, y107⟩ := own_getK y106 X0 hx hZ hown (w75 hw) (Via.of (w76 hw)) e0 f0_.f2 rfl rfl (D 2 rfl)
  have y108 := rP 2 7 _ [.int 2, .ref a] y107 X107 hx D rfl
  obtain ⟨T109, h109, X109, e109, W109, fw109, y109⟩ := own_putK y108 X107 hx hZ hown (w75 hw) (Via.of (w76 hw)) e107 f0_.f2 f0_.e (Or.inl (w31 hw)) (w12 hw) .int (by decide) rfl rfl rfl rfl (D 7 rfl)
  have b110 := f0_.p2 hw W109
  have y111 := rP 3 13 _ [.ref a, .ref x2, .ref a] y109 X109 hx D rfl
  obtain ⟨T112, X112, e112, y112⟩ := gP y111 X109 hx hZ hown (w33 hw) e109 b110.f0 D
  have y113 := rP 1 17 _ [.ref a, .ref ed, .ref x2, .ref a] y112 X112 hx D rfl
  obtain ⟨T114, X114, e114, y114⟩ := gP y113 X112 hx hZ hown (w77 hw) e112 b110.f1 D
  have f115 := f1_.other W109 (Ne.symm (Exa.neArv f0_.e f1_ (w12 hw)))
  have f116 := f3_.wr W109
  have K117 := KK0.wr W109 (Or.inl (by simp))
  obtain ⟨_, T119, L119, X119, ⟨rfl, Nq119, Kq119, p118_0, p118_1, p118_2⟩, st119⟩ := own_priv (y := own_mn6) (b := a) X114 hx hZ hown (w79 hw) (w81 hw) (w82 hw) (w80 hw) (by decide) (rmA3b l Z a0 hw [] a x2 ed k_ed x1 h109 n0 (Nat.le_trans Z0 K117.1) b110 f115 f2_ f116 gg_a gg_ed) (w83 hw) (w13 hw) 0 (by decide) (by decide) b110.e e114 (mkF m 20 #[vr a, vr x2] [.int 1, .ref ed, .ref x2, .ref a]) rfl hml.symm [.ref x2, .ref ed, .int 1] [] rfl (lenOf own_pd__Ljava_lang_Object__Ljava_lang_Object_I_V rfl) rfl (Nat.le_refl _) (D 20 rfl) (by decide) (by decide)
  have y120 := fun (τ : State) kt => y114 τ (st119 τ kt)
  have K121 := K117.trans Kq119 (allS (Or.inl (by simp)) (allS (Or.inl (by simp)) (all0)))
  have y122 := rP 1 24 _ [.int 1] y120 X119 hx D rfl
  exact own_retZ X119 hlk y122 hx hret rfl (D 24 rfl) (by decide) (by decide) rfl ⟨rfl, (Fr.app (Fr.snoc X109 N0 gg_a) Nq119), K121, p118_0, p118_1, p118_2⟩
def Q_rmSz (Z : State) (a : Addr) (ed : Addr) (h0 : Heap) (n0 : Nat) (v : Option Value) (h : Heap) (L : List Loc) : Prop := v = some (.int 2) ∧ Fr n0 L ∧ h = h0
theorem rmSz (l : Launch) (Z : State) (a0 : Array Value) (hw : own_Hw a0 Z) (ws : List Jvm.Cond) (a : Addr) (ed : Addr) (h0 : Heap) (n0 : Nat) (Z0 : n0 ≤ h0.size) (f0_ : own_BA Z h0 a (.ref ed) (.int 2) (.int 2)) : own_Met l Z own_mn8 jdk_38_method_8_code 1 (some .int) ws ⟨0, 0, 0, 0⟩ #[.ref a] h0 (Q_rmSz Z a ed h0 n0) := by
  refine own_begS sA n0 [] #[vr a] oT16 (plainFor_of_name own_pn_sA) fun p e s m below meth c s₁ hx D hml hown hnm hret hlk hZ X0 e0 PS y0 N0 KK0 => ?_
  have y123 := rP 1 1 _ [.ref a] y0 X0 hx D rfl
  obtain ⟨T124, X124, e124, y124⟩ := gP y123 X0 hx hZ hown (w77 hw) e0 f0_.f1 D
  exact own_retI X124 hlk y124 hx hret (D 4 rfl) (by decide) (by decide) e124 ⟨rfl, N0, rfl⟩
def Q_rmPC (Z : State) (ci : Int32) (cl : Int32)  (h0 : Heap) (n0 : Nat) (v : Option Value) (h : Heap) (L : List Loc) : Prop := v = some (.int ci) ∧ Fr n0 L ∧ h = h0
theorem own_pn_jdk_internal_util_Preconditions : plainName "jdk/internal/util/Preconditions" = true := by first | (simp [plainName, overriddenIn]; done) | decide +kernel
theorem rmPC (l : Launch) (Z : State) (a0 : Array Value) (hw : own_Hw a0 Z) (ws : List Jvm.Cond) (ci : Int32) (cl : Int32)  (h0 : Heap) (n0 : Nat) (Z0 : n0 ≤ h0.size) (h1 : ¬ ci < 0) (h2 : ci < cl) : own_Met l Z own_mn9 jdk_41_method_11_code 3 (some .int) ws ⟨0, 0, 0, 0⟩ #[.int ci, .int cl, .null] h0 (Q_rmPC Z ci cl h0 n0) := by
  refine own_begS "jdk/internal/util/Preconditions" n0 [] #[vi ci, vi cl, .val .null] oT21 (plainFor_of_name own_pn_jdk_internal_util_Preconditions) fun p e s m below meth c s₁ hx D hml hown hnm hret hlk hZ X0 e0 PS y0 N0 KK0 => ?_
  have y125 := rP 1 1 _ [.int ci] y0 X0 hx D rfl
  have y126 := fun (τ : State) kt => y125 τ (XS.ifNo X0.here hx rfl (D 1 rfl) rfl ((if0 _ _).trans (flt h1).1) kt)
  have y127 := rP 2 6 _ [.int cl, .int ci] y126 X0 hx D rfl
  have y128 := fun (τ : State) kt => y127 τ (XS.icmpYes X0.here hx rfl (pc0 := 6) (pc' := 16) rfl (D 6 rfl) rfl (tlt h2).1 (by decide) (by decide) kt)
  have y129 := rP 1 17 _ [.int ci] y128 X0 hx D rfl
  exact own_retI X0 hlk y129 hx hret (D 17 rfl) (by decide) (by decide) e0 ⟨rfl, N0, rfl⟩
def Q_rmCI (Z : State) (ci : Int32) (cl : Int32)  (h0 : Heap) (n0 : Nat) (v : Option Value) (h : Heap) (L : List Loc) : Prop := v = some (.int ci) ∧ Fr n0 L ∧ h = h0
theorem own_pn_java_util_Objects : plainName "java/util/Objects" = true := by first | (simp [plainName, overriddenIn]; done) | decide +kernel
theorem rmCI (l : Launch) (Z : State) (a0 : Array Value) (hw : own_Hw a0 Z) (ws : List Jvm.Cond) (ci : Int32) (cl : Int32)  (h0 : Heap) (n0 : Nat) (Z0 : n0 ≤ h0.size) (h1 : ¬ ci < 0) (h2 : ci < cl) : own_Met l Z own_mn10 jdk_31_method_17_code 2 (some .int) ws ⟨1, 0, 0, 14⟩ #[.int ci, .int cl] h0 (Q_rmCI Z ci cl h0 n0) := by
  refine own_begS "java/util/Objects" n0 [] #[vi ci, vi cl] oT20 (plainFor_of_name own_pn_java_util_Objects) fun p e s m below meth c s₁ hx D hml hown hnm hret hlk hZ X0 e0 PS y0 N0 KK0 => ?_
  have y132 := rP 3 3 _ [.null, .int cl, .int ci] y0 X0 hx D rfl
  obtain ⟨_, T131, L131, X131, ⟨rfl, Nq131, eq131⟩, y131⟩ := cS y132 X0 hx hZ hown hml.symm (own_V1 hw) (rmPC l Z a0 hw [] ci cl h0 n0 (Nat.le_trans Z0 KK0.1) h1 h2) 0 e0 [.int ci, .int cl, .null] [] D
  exact own_retI X131 hlk y131 hx hret (D 6 rfl) (by decide) (by decide) eq131 ⟨rfl, (Fr.app N0 Nq131), rfl⟩
def Q_rmEd0 (Z : State) (a : Addr) (ed : Addr) (k_ed : ClassId) (x1 x2 : Addr) (h0 : Heap) (n0 : Nat) (v : Option Value) (h : Heap) (L : List Loc) : Prop := v = some (.ref x1) ∧ Fr n0 L ∧ h = h0
theorem rmEd0 (l : Launch) (Z : State) (a0 : Array Value) (hw : own_Hw a0 Z) (ws : List Jvm.Cond) (a : Addr) (ed : Addr) (k_ed : ClassId) (x1 x2 : Addr) (h0 : Heap) (n0 : Nat) (Z0 : n0 ≤ h0.size) (f0_ : own_BA Z h0 a (.ref ed) (.int 2) (.int 2)) (f1_ : Arv Z h0 ed k_ed (.object "java/lang/Object") (10 : Int32) [.ref x1, .ref x2, .null, .null, .null, .null, .null, .null, .null, .null] .null) (f2_ : Ovr Z k_ed "java/lang/Object") : own_Met l Z own_mn11 jdk_38_method_18_code 2 (some (.object "java/lang/Object")) ws ⟨0, 0, 0, 0⟩ #[.ref a, .int 0] h0 (Q_rmEd0 Z a ed k_ed x1 x2 h0 n0) := by
  refine own_begS sA n0 [] #[vr a, vi 0] oT22 (plainFor_of_name own_pn_sA) fun p e s m below meth c s₁ hx D hml hown hnm hret hlk hZ X0 e0 PS y0 N0 KK0 => ?_
  have y133 := rP 1 1 _ [.ref a] y0 X0 hx D rfl
  obtain ⟨T134, X134, e134, y134⟩ := gP y133 X0 hx hZ hown (w33 hw) e0 f0_.f0 D
  have y135 := rP 1 5 _ [.int 0, .ref ed] y134 X134 hx D rfl
  have y136 := aP y135 X134 hx hZ e134 f1_ D
  exact own_retA X134 hlk y136 hx hret rfl rfl (D 6 rfl) (by decide) (by decide) e134 ⟨rfl, N0, rfl⟩
def Q_rmGet0 (Z : State) (a : Addr) (ed : Addr) (k_ed : ClassId) (x1 x2 : Addr) (h0 : Heap) (n0 : Nat) (v : Option Value) (h : Heap) (L : List Loc) : Prop := v = some (.ref x1) ∧ Fr n0 L ∧ h = h0
theorem rmGet0 (l : Launch) (Z : State) (a0 : Array Value) (hw : own_Hw a0 Z) (ws : List Jvm.Cond) (a : Addr) (ed : Addr) (k_ed : ClassId) (x1 x2 : Addr) (h0 : Heap) (n0 : Nat) (Z0 : n0 ≤ h0.size) (f0_ : own_BA Z h0 a (.ref ed) (.int 2) (.int 2)) (f1_ : Arv Z h0 ed k_ed (.object "java/lang/Object") (10 : Int32) [.ref x1, .ref x2, .null, .null, .null, .null, .null, .null, .null, .null] .null) (f2_ : Ovr Z k_ed "java/lang/Object") : own_Met l Z own_mn12 jdk_38_method_20_code 2 (some (.object "java/lang/Object")) ws ⟨2, 0, 0, 28⟩ #[.ref a, .int 0] h0 (Q_rmGet0 Z a ed k_ed x1 x2 h0 n0) := by
  refine own_begS sA n0 [] #[vr a, vi 0] oT19 (plainFor_of_name own_pn_sA) fun p e s m below meth c s₁ hx D hml hown hnm hret hlk hZ X0 e0 PS y0 N0 KK0 => ?_
  have y137 := rP 2 2 _ [.ref a, .int 0] y0 X0 hx D rfl
  obtain ⟨T138, X138, e138, y138⟩ := gP y137 X0 hx hZ hown (w77 hw) e0 f0_.f1 D
  obtain ⟨_, T140, L140, X140, ⟨rfl, Nq140, eq140⟩, y140⟩ := cS y138 X138 hx hZ hown hml.symm (own_V2 hw) (rmCI l Z a0 hw [] (0 : Int32) (2 : Int32) h0 n0 (Nat.le_trans Z0 KK0.1) (by decide) (by decide)) 0 e138 [.int 0, .int 2] [] D
  have y143 := rP 3 11 _ [.int 0, .ref a] y140 X140 hx D rfl
  obtain ⟨_, T142, L142, X142, ⟨rfl, Nq142, eq142⟩, y142⟩ := cV y143 X140 hx hZ hown hml.symm (own_V3 hw) (rmEd0 l Z a0 hw [] a ed k_ed x1 x2 h0 n0 (Nat.le_trans Z0 KK0.1) f0_ f1_ f2_) 0 f0_.e eq140 [.int 0] [] D
  exact own_retA X142 hlk y142 hx hret rfl rfl (D 14 rfl) (by decide) (by decide) eq142 ⟨rfl, (Fr.app (Fr.app N0 Nq140) Nq142), rfl⟩
def Q_rmEd1 (Z : State) (a : Addr) (ed : Addr) (k_ed : ClassId) (x1 x2 : Addr) (h0 : Heap) (n0 : Nat) (v : Option Value) (h : Heap) (L : List Loc) : Prop := v = some (.ref x2) ∧ Fr n0 L ∧ h = h0
theorem rmEd1 (l : Launch) (Z : State) (a0 : Array Value) (hw : own_Hw a0 Z) (ws : List Jvm.Cond) (a : Addr) (ed : Addr) (k_ed : ClassId) (x1 x2 : Addr) (h0 : Heap) (n0 : Nat) (Z0 : n0 ≤ h0.size) (f0_ : own_BA Z h0 a (.ref ed) (.int 2) (.int 2)) (f1_ : Arv Z h0 ed k_ed (.object "java/lang/Object") (10 : Int32) [.ref x1, .ref x2, .null, .null, .null, .null, .null, .null, .null, .null] .null) (f2_ : Ovr Z k_ed "java/lang/Object") : own_Met l Z own_mn11 jdk_38_method_18_code 2 (some (.object "java/lang/Object")) ws ⟨0, 0, 0, 0⟩ #[.ref a, .int 1] h0 (Q_rmEd1 Z a ed k_ed x1 x2 h0 n0) := by
  refine own_begS sA n0 [] #[vr a, vi 1] oT22 (plainFor_of_name own_pn_sA) fun p e s m below meth c s₁ hx D hml hown hnm hret hlk hZ X0 e0 PS y0 N0 KK0 => ?_
  have y144 := rP 1 1 _ [.ref a] y0 X0 hx D rfl
  obtain ⟨T145, X145, e145, y145⟩ := gP y144 X0 hx hZ hown (w33 hw) e0 f0_.f0 D
  have y146 := rP 1 5 _ [.int 1, .ref ed] y145 X145 hx D rfl
  have y147 := aP y146 X145 hx hZ e145 f1_ D
  exact own_retA X145 hlk y147 hx hret rfl rfl (D 6 rfl) (by decide) (by decide) e145 ⟨rfl, N0, rfl⟩
def Q_rmGet1 (Z : State) (a : Addr) (ed : Addr) (k_ed : ClassId) (x1 x2 : Addr) (h0 : Heap) (n0 : Nat) (v : Option Value) (h : Heap) (L : List Loc) : Prop := v = some (.ref x2) ∧ Fr n0 L ∧ h = h0
theorem rmGet1 (l : Launch) (Z : State) (a0 : Array Value) (hw : own_Hw a0 Z) (ws : List Jvm.Cond) (a : Addr) (ed : Addr) (k_ed : ClassId) (x1 x2 : Addr) (h0 : Heap) (n0 : Nat) (Z0 : n0 ≤ h0.size) (f0_ : own_BA Z h0 a (.ref ed) (.int 2) (.int 2)) (f1_ : Arv Z h0 ed k_ed (.object "java/lang/Object") (10 : Int32) [.ref x1, .ref x2, .null, .null, .null, .null, .null, .null, .null, .null] .null) (f2_ : Ovr Z k_ed "java/lang/Object") : own_Met l Z own_mn12 jdk_38_method_20_code 2 (some (.object "java/lang/Object")) ws ⟨2, 0, 0, 28⟩ #[.ref a, .int 1] h0 (Q_rmGet1 Z a ed k_ed x1 x2 h0 n0) := by
  refine own_begS sA n0 [] #[vr a, vi 1] oT19 (plainFor_of_name own_pn_sA) fun p e s m below meth c s₁ hx D hml hown hnm hret hlk hZ X0 e0 PS y0 N0 KK0 => ?_
  have y148 := rP 2 2 _ [.ref a, .int 1] y0 X0 hx D rfl
  obtain ⟨T149, X149, e149, y149⟩ := gP y148 X0 hx hZ hown (w77 hw) e0 f0_.f1 D
  obtain ⟨_, T151, L151, X151, ⟨rfl, Nq151, eq151⟩, y151⟩ := cS y149 X149 hx hZ hown hml.symm (own_V2 hw) (rmCI l Z a0 hw [] (1 : Int32) (2 : Int32) h0 n0 (Nat.le_trans Z0 KK0.1) (by decide) (by decide)) 0 e149 [.int 1, .int 2] [] D
  have y154 := rP 3 11 _ [.int 1, .ref a] y151 X151 hx D rfl
  obtain ⟨_, T153, L153, X153, ⟨rfl, Nq153, eq153⟩, y153⟩ := cV y154 X151 hx hZ hown hml.symm (own_V3 hw) (rmEd1 l Z a0 hw [] a ed k_ed x1 x2 h0 n0 (Nat.le_trans Z0 KK0.1) f0_ f1_ f2_) 0 f0_.e eq151 [.int 1] [] D
  exact own_retA X153 hlk y153 hx hret rfl rfl (D 14 rfl) (by decide) (by decide) eq153 ⟨rfl, (Fr.app (Fr.app N0 Nq151) Nq153), rfl⟩
def Q_rmII (Z : State) (it : Addr) (a : Addr) (ed : Addr) (h0 : Heap) (n0 : Nat) (v : Option Value) (h : Heap) (L : List Loc) : Prop := v = none ∧ Fr n0 L ∧ Keep h0 h [it] ∧ own_BT Z h it (.ref a) (.int 0) (.int (-1)) (.int 2)
theorem own_pn_sI : plainName sI = true := by first | (simp [plainName, overriddenIn]; done) | decide +kernel
theorem rmII (l : Launch) (Z : State) (a0 : Array Value) (hw : own_Hw a0 Z) (ws : List Jvm.Cond) (it : Addr) (a : Addr) (ed : Addr) (h0 : Heap) (n0 : Nat) (Z0 : n0 ≤ h0.size) (f0_ : own_BT Z h0 it .null (.int 0) (.int 0) (.int 0)) (f1_ : own_BA Z h0 a (.ref ed) (.int 2) (.int 2)) (gg_it : n0 ≤ it) : own_Met l Z own_mn13 jdk_49_method_1_code 2 none ws ⟨1, 0, 0, 12⟩ #[.ref it, .ref a] h0 (Q_rmII Z it a ed h0 n0) := by
  refine own_begS sI n0 [it] #[vr it, vr a] oT28 (plainFor_of_name own_pn_sI) fun p e s m below meth c s₁ hx D hml hown hnm hret hlk hZ X0 e0 PS y0 N0 KK0 => ?_
  have y155 := rP 2 2 _ [.ref a, .ref it] y0 X0 hx D rfl
  obtain ⟨T156, h156, X156, e156, W156, fw156, y156⟩ := own_putK y155 X0 hx hZ hown (w209 hw) Via.refl e0 f0_.f0 f0_.e (Or.inr ⟨(w210 hw), rfl, hnm⟩) (w203 hw) (.object sA) (by decide) rfl rfl rfl rfl (D 2 rfl)
  have b157 := f0_.p0 hw W156
  obtain ⟨T158, X158, e158, st158⟩ := initO X156 hx hZ hown (w211 hw) (w9 hw) (w10 hw) e156 (g := (mkF m 6 #[vr it, vr a] [.ref it])) rfl hml.symm rfl (D 6 rfl) (by decide) (W := 0) (by show 2 * 0 + _ ≤ _; exact Nat.le_of_eq rfl) (by decide)
  have y159 := rP 1 6 _ [.ref it] y156 X156 hx D rfl
  have y160 := fun (τ : State) kt => y159 τ (st158 τ kt)
  have y161 := rP 2 11 _ [.int (-1), .ref it] y160 X158 hx D rfl
  obtain ⟨T162, h162, X162, e162, W162, fw162, y162⟩ := own_putK y161 X158 hx hZ hown (w212 hw) Via.refl e158 b157.f2 b157.e (Or.inl (w213 hw)) (w203 hw) .int (by decide) rfl rfl rfl rfl (D 11 rfl)
  have b163 := b157.p2 hw W162
  have y164 := rP 2 16 _ [.ref it, .ref it] y162 X162 hx D rfl
  obtain ⟨T165, X165, e165, y165⟩ := gP y164 X162 hx hZ hown (w209 hw) e162 b163.f0 D
  have K166 := (KK0.wr W156 (Or.inl (by simp))).wr W162 (Or.inl (by simp))
  have ni168 : a ∉ [it] := ninS (Ne.symm (Exa.ne f0_.e f1_.e (by decide))) nin0
  have b167 := f1_.keep K166 ni168
  obtain ⟨T169, X169, e169, y169⟩ := own_getK y165 X165 hx hZ hown (w214 hw) (Via.of (w76 hw)) e165 b167.f2 rfl rfl (D 19 rfl)
  obtain ⟨T170, h170, X170, e170, W170, fw170, y170⟩ := own_putK y169 X169 hx hZ hown (w215 hw) Via.refl e169 b163.f3 b163.e (Or.inl (w216 hw)) (w203 hw) .int (by decide) rfl rfl rfl rfl (D 22 rfl)
  have b171 := b163.p3 hw W170
  have K172 := K166.wr W170 (Or.inl (by simp))
  exact own_retV X170 hlk y170 hx hret (D 25 rfl) (by decide) (by decide) e170 ⟨rfl, (Fr.snoc X170 (Fr.snoc X162 (Fr.snoc X156 N0 gg_it) gg_it) gg_it), K172, b171⟩
def Q_rmIt (Z : State) (a : Addr) (ed : Addr) (h0 : Heap) (n0 : Nat) (v : Option Value) (h : Heap) (L : List Loc) : Prop := ∃ (it : Addr), v = some (.ref it) ∧ Fr n0 L ∧ Keep h0 h [] ∧ n0 ≤ it ∧ h0.size ≤ it ∧ own_BT Z h it (.ref a) (.int 0) (.int (-1)) (.int 2)
theorem rmIt (l : Launch) (Z : State) (a0 : Array Value) (hw : own_Hw a0 Z) (ws : List Jvm.Cond) (a : Addr) (ed : Addr) (h0 : Heap) (n0 : Nat) (Z0 : n0 ≤ h0.size) (f0_ : own_BA Z h0 a (.ref ed) (.int 2) (.int 2)) : own_Met l Z own_mn14 jdk_38_method_55_code 1 (some (.object "java/util/Iterator")) ws ⟨2, 1, 4, 28⟩ #[.ref a] h0 (Q_rmIt Z a ed h0 n0) := by
  refine own_begS sA n0 [] #[vr a] oT27 (plainFor_of_name own_pn_sA) fun p e s m below meth c s₁ hx D hml hown hnm hret hlk hZ X0 e0 PS y0 N0 KK0 => ?_
  obtain ⟨T173, h173, X173, e173, E173, A173, D173, -, st173⟩ := newO X0 hx hZ hown (w202 hw) (w203 hw) (w204 hw) e0 (g := (mkF m 0 #[vr a] [])) rfl (D 0 rfl) (by decide) (by decide)
  obtain ⟨it, g173⟩ : ∃ z, z = h0.size := ⟨_, rfl⟩
  rw [← g173] at A173 D173 st173
  have g_it : n0 ≤ it := Nat.le_trans (Nat.le_trans Z0 KK0.1) (Nat.le_of_eq g173.symm)
  have sz_it : h0.size ≤ it := Nat.le_trans KK0.1 (Nat.le_of_eq g173.symm)
  have F_this_0_it : Fld Z h173 it sI "this$0" "Ljava/util/ArrayList;" .null := D173 (Or.inr (w210 hw)) (ty := (.object sA)) (by decide)
  have F_lastRet_it : Fld Z h173 it sI "lastRet" "I" (.int 0) := D173 (Or.inl (w213 hw)) (ty := .int) (by decide)
  have F_expectedModCount_it : Fld Z h173 it sI "expectedModCount" "I" (.int 0) := D173 (Or.inl (w216 hw)) (ty := .int) (by decide)
  have F_cursor_it : Fld Z h173 it sI "cursor" "I" (.int 0) := D173 (Or.inl (w227 hw)) (ty := .int) (by decide)
  have y174 := fun (τ : State) kt => y0 τ (st173 τ kt)
  have b175 : own_BT Z h173 it .null (.int 0) (.int 0) (.int 0) := ⟨A173, F_this_0_it, F_cursor_it, F_lastRet_it, F_expectedModCount_it⟩
  have b176 := f0_.ext E173
  have K177 := KK0.ext E173
  obtain ⟨_, T179, L179, X179, ⟨rfl, Nq179, Kq179, p178_0⟩, st179⟩ := own_spec (y := own_mn13) (b := it) X173 hx hZ rfl hown (w205 hw) (w206 hw) (by decide) (rmII l Z a0 hw [] it a ed h173 n0 (Nat.le_trans Z0 K177.1) b175 b176 g_it) (w208 hw) (w204 hw) 1 (by decide) (by decide) e173 (mkF m 5 #[vr a] [.ref a, .ref it, .ref it]) rfl hml.symm [.ref a] [.ref it] rfl (lenOf own_pd__Ljava_util_ArrayList__V rfl) rfl (Nat.le_refl _) (D 5 rfl) (by decide) (by decide)
  have y180 := rP 2 5 _ [.ref a, .ref it, .ref it] y174 X173 hx D rfl
  have y181 := fun (τ : State) kt => y180 τ (st179 τ kt)
  have K182 := K177.trans Kq179 (allS (Or.inr sz_it) (all0))
  exact own_retA X179 hlk y181 hx hret rfl rfl (D 8 rfl) (by decide) (by decide) rfl ⟨it, rfl, (Fr.app N0 Nq179), K182, g_it, sz_it, p178_0⟩
def Q_rmHn0 (Z : State) (it : Addr) (a : Addr) (ed : Addr) (h0 : Heap) (n0 : Nat) (v : Option Value) (h : Heap) (L : List Loc) : Prop := v = some (.int 1) ∧ Fr n0 L ∧ h = h0
theorem rmHn0 (l : Launch) (Z : State) (a0 : Array Value) (hw : own_Hw a0 Z) (ws : List Jvm.Cond) (it : Addr) (a : Addr) (ed : Addr) (h0 : Heap) (n0 : Nat) (Z0 : n0 ≤ h0.size) (f0_ : own_BT Z h0 it (.ref a) (.int 0) (.int (-1)) (.int 2)) (f1_ : own_BA Z h0 a (.ref ed) (.int 2) (.int 2)) : own_Met l Z own_mn15 jdk_49_method_2_code 1 (some .boolean) ws ⟨0, 0, 0, 0⟩ #[.ref it] h0 (Q_rmHn0 Z it a ed h0 n0) := by
  refine own_begS sI n0 [] #[vr it] oT29 (plainFor_of_name own_pn_sI) fun p e s m below meth c s₁ hx D hml hown hnm hret hlk hZ X0 e0 PS y0 N0 KK0 => ?_
  have y183 := rP 1 1 _ [.ref it] y0 X0 hx D rfl
  obtain ⟨T184, X184, e184, y184⟩ := gP y183 X0 hx hZ hown (w226 hw) e0 f0_.f1 D
  have y185 := rP 1 5 _ [.ref it, .int 0] y184 X184 hx D rfl
  obtain ⟨T186, X186, e186, y186⟩ := gP y185 X184 hx hZ hown (w209 hw) e184 f0_.f0 D
  obtain ⟨T187, X187, e187, y187⟩ := own_getN y186 X186 hx hZ hown (w228 hw) Via.refl e186 f1_.f1 rfl rfl (D 8 rfl)
  have y188 := rP 3 19 _ [.int 1] y187 X187 hx D rfl
  exact own_retZ X187 hlk y188 hx hret rfl (D 19 rfl) (by decide) (by decide) e187 ⟨rfl, N0, rfl⟩
def Q_rmHn1 (Z : State) (it : Addr) (a : Addr) (ed : Addr) (h0 : Heap) (n0 : Nat) (v : Option Value) (h : Heap) (L : List Loc) : Prop := v = some (.int 1) ∧ Fr n0 L ∧ h = h0
theorem rmHn1 (l : Launch) (Z : State) (a0 : Array Value) (hw : own_Hw a0 Z) (ws : List Jvm.Cond) (it : Addr) (a : Addr) (ed : Addr) (h0 : Heap) (n0 : Nat) (Z0 : n0 ≤ h0.size) (f0_ : own_BT Z h0 it (.ref a) (.int 1) (.int 0) (.int 2)) (f1_ : own_BA Z h0 a (.ref ed) (.int 2) (.int 2)) : own_Met l Z own_mn15 jdk_49_method_2_code 1 (some .boolean) ws ⟨0, 0, 0, 0⟩ #[.ref it] h0 (Q_rmHn1 Z it a ed h0 n0) := by
  refine own_begS sI n0 [] #[vr it] oT29 (plainFor_of_name own_pn_sI) fun p e s m below meth c s₁ hx D hml hown hnm hret hlk hZ X0 e0 PS y0 N0 KK0 => ?_
  have y189 := rP 1 1 _ [.ref it] y0 X0 hx D rfl
  obtain ⟨T190, X190, e190, y190⟩ := gP y189 X0 hx hZ hown (w226 hw) e0 f0_.f1 D
  have y191 := rP 1 5 _ [.ref it, .int 1] y190 X190 hx D rfl
  obtain ⟨T192, X192, e192, y192⟩ := gP y191 X190 hx hZ hown (w209 hw) e190 f0_.f0 D
  obtain ⟨T193, X193, e193, y193⟩ := own_getN y192 X192 hx hZ hown (w228 hw) Via.refl e192 f1_.f1 rfl rfl (D 8 rfl)
  have y194 := rP 3 19 _ [.int 1] y193 X193 hx D rfl
  exact own_retZ X193 hlk y194 hx hret rfl (D 19 rfl) (by decide) (by decide) e193 ⟨rfl, N0, rfl⟩
def Q_rmHn2 (Z : State) (it : Addr) (a : Addr) (ed : Addr) (h0 : Heap) (n0 : Nat) (v : Option Value) (h : Heap) (L : List Loc) : Prop := v = some (.int 0) ∧ Fr n0 L ∧ h = h0
theorem rmHn2 (l : Launch) (Z : State) (a0 : Array Value) (hw : own_Hw a0 Z) (ws : List Jvm.Cond) (it : Addr) (a : Addr) (ed : Addr) (h0 : Heap) (n0 : Nat) (Z0 : n0 ≤ h0.size) (f0_ : own_BT Z h0 it (.ref a) (.int 2) (.int 1) (.int 2)) (f1_ : own_BA Z h0 a (.ref ed) (.int 2) (.int 2)) : own_Met l Z own_mn15 jdk_49_method_2_code 1 (some .boolean) ws ⟨0, 0, 0, 0⟩ #[.ref it] h0 (Q_rmHn2 Z it a ed h0 n0) := by
  refine own_begS sI n0 [] #[vr it] oT29 (plainFor_of_name own_pn_sI) fun p e s m below meth c s₁ hx D hml hown hnm hret hlk hZ X0 e0 PS y0 N0 KK0 => ?_
  have y195 := rP 1 1 _ [.ref it] y0 X0 hx D rfl
  obtain ⟨T196, X196, e196, y196⟩ := gP y195 X0 hx hZ hown (w226 hw) e0 f0_.f1 D
  have y197 := rP 1 5 _ [.ref it, .int 2] y196 X196 hx D rfl
  obtain ⟨T198, X198, e198, y198⟩ := gP y197 X196 hx hZ hown (w209 hw) e196 f0_.f0 D
  obtain ⟨T199, X199, e199, y199⟩ := own_getN y198 X198 hx hZ hown (w228 hw) Via.refl e198 f1_.f1 rfl rfl (D 8 rfl)
  have y200 := rP 2 19 _ [.int 0] y199 X199 hx D rfl
  exact own_retZ X199 hlk y200 hx hret rfl (D 19 rfl) (by decide) (by decide) e199 ⟨rfl, N0, rfl⟩
def Q_rmCm0 (Z : State) (it : Addr) (a : Addr) (ed : Addr) (h0 : Heap) (n0 : Nat) (v : Option Value) (h : Heap) (L : List Loc) : Prop := v = none ∧ Fr n0 L ∧ h = h0
theorem rmCm0 (l : Launch) (Z : State) (a0 : Array Value) (hw : own_Hw a0 Z) (ws : List Jvm.Cond) (it : Addr) (a : Addr) (ed : Addr) (h0 : Heap) (n0 : Nat) (Z0 : n0 ≤ h0.size) (f0_ : own_BT Z h0 it (.ref a) (.int 0) (.int (-1)) (.int 2)) (f1_ : own_BA Z h0 a (.ref ed) (.int 2) (.int 2)) : own_Met l Z own_mn16 jdk_49_method_6_code 1 none ws ⟨0, 0, 0, 0⟩ #[.ref it] h0 (Q_rmCm0 Z it a ed h0 n0) := by
  refine own_begS sI n0 [] #[vr it] oT31 (plainFor_of_name own_pn_sI) fun p e s m below meth c s₁ hx D hml hown hnm hret hlk hZ X0 e0 PS y0 N0 KK0 => ?_
  have y201 := rP 1 1 _ [.ref it] y0 X0 hx D rfl
  obtain ⟨T202, X202, e202, y202⟩ := gP y201 X0 hx hZ hown (w209 hw) e0 f0_.f0 D
  obtain ⟨T203, X203, e203, y203⟩ := own_getK y202 X202 hx hZ hown (w214 hw) (Via.of (w76 hw)) e202 f1_.f2 rfl rfl (D 4 rfl)
  have y204 := rP 1 8 _ [.ref it, .int 2] y203 X203 hx D rfl
  obtain ⟨T205, X205, e205, y205⟩ := gP y204 X203 hx hZ hown (w215 hw) e203 f0_.f3 D
  have y206 := rP 1 22 _ [] y205 X205 hx D rfl
  exact own_retV X205 hlk y206 hx hret (D 22 rfl) (by decide) (by decide) e205 ⟨rfl, N0, rfl⟩
def Q_rmNx0 (Z : State) (it : Addr) (a ed : Addr) (k_ed : ClassId) (x1 x2 : Addr) (h0 : Heap) (n0 : Nat) (v : Option Value) (h : Heap) (L : List Loc) : Prop := v = some (.ref x1) ∧ Fr n0 L ∧ Keep h0 h [it] ∧ own_BT Z h it (.ref a) (.int 1) (.int 0) (.int 2)
theorem rmNx0 (l : Launch) (Z : State) (a0 : Array Value) (hw : own_Hw a0 Z) (ws : List Jvm.Cond) (it : Addr) (a ed : Addr) (k_ed : ClassId) (x1 x2 : Addr) (h0 : Heap) (n0 : Nat) (Z0 : n0 ≤ h0.size) (f0_ : own_BT Z h0 it (.ref a) (.int 0) (.int (-1)) (.int 2)) (f1_ : own_BA Z h0 a (.ref ed) (.int 2) (.int 2)) (f2_ : Arv Z h0 ed k_ed (.object "java/lang/Object") (10 : Int32) [.ref x1, .ref x2, .null, .null, .null, .null, .null, .null, .null, .null] .null) (f3_ : Ovr Z k_ed "java/lang/Object") (gg_it : n0 ≤ it) : own_Met l Z own_mn17 jdk_49_method_3_code 3 (some (.object "java/lang/Object")) ws ⟨1, 0, 0, 12⟩ #[.ref it] h0 (Q_rmNx0 Z it a ed k_ed x1 x2 h0 n0) := by
  refine own_begS sI n0 [it] #[vr it, un, un] oT30 (plainFor_of_name own_pn_sI) fun p e s m below meth c s₁ hx D hml hown hnm hret hlk hZ X0 e0 PS y0 N0 KK0 => ?_
  have y209 := rP 1 1 _ [.ref it] y0 X0 hx D rfl
  obtain ⟨_, T208, L208, X208, ⟨rfl, Nq208, eq208⟩, y208⟩ := cV y209 X0 hx hZ hown hml.symm (own_V4 hw) (rmCm0 l Z a0 hw [] it a ed h0 n0 (Nat.le_trans Z0 KK0.1) f0_ f1_) 0 f0_.e e0 [] [] D
  have y210 := rP 1 5 _ [.ref it] y208 X208 hx D rfl
  obtain ⟨T211, X211, e211, y211⟩ := gP y210 X208 hx hZ hown (w226 hw) eq208 f0_.f1 D
  have y212 := rP 3 11 [vr it, vi 0, un] [.ref it, .int 0] y211 X211 hx D rfl
  obtain ⟨T213, X213, e213, y213⟩ := gP y212 X211 hx hZ hown (w209 hw) e211 f0_.f0 D
  obtain ⟨T214, X214, e214, y214⟩ := own_getN y213 X213 hx hZ hown (w228 hw) Via.refl e213 f1_.f1 rfl rfl (D 14 rfl)
  have y215 := rP 2 29 _ [.ref it] y214 X214 hx D rfl
  obtain ⟨T216, X216, e216, y216⟩ := gP y215 X214 hx hZ hown (w209 hw) e214 f0_.f0 D
  obtain ⟨T217, X217, e217, y217⟩ := gP y216 X216 hx hZ hown (w242 hw) e216 f1_.f0 D
  have y218 := rP 3 38 [vr it, vi 0, vr ed] [.ref ed, .int 0] y217 X217 hx D rfl
  have y219 := lP y218 X217 hx hZ e217 f2_ D
  have y220 := rP 5 54 _ [.int 1, .ref it] y219 X217 hx D rfl
  obtain ⟨T221, h221, X221, e221, W221, fw221, y221⟩ := own_putK y220 X217 hx hZ hown (w226 hw) Via.refl e217 f0_.f1 f0_.e (Or.inl (w227 hw)) (w203 hw) .int (by decide) rfl rfl rfl rfl (D 54 rfl)
  have b222 := f0_.p1 hw W221
  have y223 := rP 3 60 _ [.int 0, .ref it, .ref ed] y221 X221 hx D rfl
  have y224 := fun (τ : State) kt => y223 τ (XT.dupX1 X221.here hx rfl (D 60 rfl) rfl rfl rfl kt)
  obtain ⟨T225, h225, X225, e225, W225, fw225, y225⟩ := own_putK y224 X221 hx hZ hown (w212 hw) Via.refl e221 b222.f2 b222.e (Or.inl (w213 hw)) (w203 hw) .int (by decide) rfl rfl rfl rfl (D 61 rfl)
  have b226 := b222.p2 hw W225
  have K227 := (KK0.wr W221 (Or.inl (by simp))).wr W225 (Or.inl (by simp))
  have ni229 : ed ∉ [it] := ninS (Ne.symm (Exa.neArv f0_.e f2_ (w203 hw))) nin0
  have f228 := f2_.keep K227 ni229
  have y230 := aP y225 X225 hx hZ e225 f228 D
  exact own_retA X225 hlk y230 hx hret rfl rfl (D 65 rfl) (by decide) (by decide) e225 ⟨rfl, (Fr.snoc X225 (Fr.snoc X221 (Fr.app N0 Nq208) gg_it) gg_it), K227, b226⟩
def Q_rmCm1 (Z : State) (it : Addr) (a : Addr) (ed : Addr) (h0 : Heap) (n0 : Nat) (v : Option Value) (h : Heap) (L : List Loc) : Prop := v = none ∧ Fr n0 L ∧ h = h0
theorem rmCm1 (l : Launch) (Z : State) (a0 : Array Value) (hw : own_Hw a0 Z) (ws : List Jvm.Cond) (it : Addr) (a : Addr) (ed : Addr) (h0 : Heap) (n0 : Nat) (Z0 : n0 ≤ h0.size) (f0_ : own_BT Z h0 it (.ref a) (.int 1) (.int 0) (.int 2)) (f1_ : own_BA Z h0 a (.ref ed) (.int 2) (.int 2)) : own_Met l Z own_mn16 jdk_49_method_6_code 1 none ws ⟨0, 0, 0, 0⟩ #[.ref it] h0 (Q_rmCm1 Z it a ed h0 n0) := by
  refine own_begS sI n0 [] #[vr it] oT31 (plainFor_of_name own_pn_sI) fun p e s m below meth c s₁ hx D hml hown hnm hret hlk hZ X0 e0 PS y0 N0 KK0 => ?_
  have y231 := rP 1 1 _ [.ref it] y0 X0 hx D rfl
  obtain ⟨T232, X232, e232, y232⟩ := gP y231 X0 hx hZ hown (w209 hw) e0 f0_.f0 D
  obtain ⟨T233, X233, e233, y233⟩ := own_getK y232 X232 hx hZ hown (w214 hw) (Via.of (w76 hw)) e232 f1_.f2 rfl rfl (D 4 rfl)
  have y234 := rP 1 8 _ [.ref it, .int 2] y233 X233 hx D rfl
  obtain ⟨T235, X235, e235, y235⟩ := gP y234 X233 hx hZ hown (w215 hw) e233 f0_.f3 D
  have y236 := rP 1 22 _ [] y235 X235 hx D rfl
  exact own_retV X235 hlk y236 hx hret (D 22 rfl) (by decide) (by decide) e235 ⟨rfl, N0, rfl⟩
def Q_rmNx1 (Z : State) (it : Addr) (a ed : Addr) (k_ed : ClassId) (x1 x2 : Addr) (h0 : Heap) (n0 : Nat) (v : Option Value) (h : Heap) (L : List Loc) : Prop := v = some (.ref x2) ∧ Fr n0 L ∧ Keep h0 h [it] ∧ own_BT Z h it (.ref a) (.int 2) (.int 1) (.int 2)
theorem rmNx1 (l : Launch) (Z : State) (a0 : Array Value) (hw : own_Hw a0 Z) (ws : List Jvm.Cond) (it : Addr) (a ed : Addr) (k_ed : ClassId) (x1 x2 : Addr) (h0 : Heap) (n0 : Nat) (Z0 : n0 ≤ h0.size) (f0_ : own_BT Z h0 it (.ref a) (.int 1) (.int 0) (.int 2)) (f1_ : own_BA Z h0 a (.ref ed) (.int 2) (.int 2)) (f2_ : Arv Z h0 ed k_ed (.object "java/lang/Object") (10 : Int32) [.ref x1, .ref x2, .null, .null, .null, .null, .null, .null, .null, .null] .null) (f3_ : Ovr Z k_ed "java/lang/Object") (gg_it : n0 ≤ it) : own_Met l Z own_mn17 jdk_49_method_3_code 3 (some (.object "java/lang/Object")) ws ⟨1, 0, 0, 12⟩ #[.ref it] h0 (Q_rmNx1 Z it a ed k_ed x1 x2 h0 n0) := by
  refine own_begS sI n0 [it] #[vr it, un, un] oT30 (plainFor_of_name own_pn_sI) fun p e s m below meth c s₁ hx D hml hown hnm hret hlk hZ X0 e0 PS y0 N0 KK0 => ?_
  have y239 := rP 1 1 _ [.ref it] y0 X0 hx D rfl
  obtain ⟨_, T238, L238, X238, ⟨rfl, Nq238, eq238⟩, y238⟩ := cV y239 X0 hx hZ hown hml.symm (own_V4 hw) (rmCm1 l Z a0 hw [] it a ed h0 n0 (Nat.le_trans Z0 KK0.1) f0_ f1_) 0 f0_.e e0 [] [] D
  have y240 := rP 1 5 _ [.ref it] y238 X238 hx D rfl
  obtain ⟨T241, X241, e241, y241⟩ := gP y240 X238 hx hZ hown (w226 hw) eq238 f0_.f1 D
  have y242 := rP 3 11 [vr it, vi 1, un] [.ref it, .int 1] y241 X241 hx D rfl
  obtain ⟨T243, X243, e243, y243⟩ := gP y242 X241 hx hZ hown (w209 hw) e241 f0_.f0 D
  obtain ⟨T244, X244, e244, y244⟩ := own_getN y243 X243 hx hZ hown (w228 hw) Via.refl e243 f1_.f1 rfl rfl (D 14 rfl)
  have y245 := rP 2 29 _ [.ref it] y244 X244 hx D rfl
  obtain ⟨T246, X246, e246, y246⟩ := gP y245 X244 hx hZ hown (w209 hw) e244 f0_.f0 D
  obtain ⟨T247, X247, e247, y247⟩ := gP y246 X246 hx hZ hown (w242 hw) e246 f1_.f0 D
  have y248 := rP 3 38 [vr it, vi 1, vr ed] [.ref ed, .int 1] y247 X247 hx D rfl
  have y249 := lP y248 X247 hx hZ e247 f2_ D
  have y250 := rP 5 54 _ [.int 2, .ref it] y249 X247 hx D rfl
  obtain ⟨T251, h251, X251, e251, W251, fw251, y251⟩ := own_putK y250 X247 hx hZ hown (w226 hw) Via.refl e247 f0_.f1 f0_.e (Or.inl (w227 hw)) (w203 hw) .int (by decide) rfl rfl rfl rfl (D 54 rfl)
  have b252 := f0_.p1 hw W251
  have y253 := rP 3 60 _ [.int 1, .ref it, .ref ed] y251 X251 hx D rfl
  have y254 := fun (τ : State) kt => y253 τ (XT.dupX1 X251.here hx rfl (D 60 rfl) rfl rfl rfl kt)
  obtain ⟨T255, h255, X255, e255, W255, fw255, y255⟩ := own_putK y254 X251 hx hZ hown (w212 hw) Via.refl e251 b252.f2 b252.e (Or.inl (w213 hw)) (w203 hw) .int (by decide) rfl rfl rfl rfl (D 61 rfl)
  have b256 := b252.p2 hw W255
  have K257 := (KK0.wr W251 (Or.inl (by simp))).wr W255 (Or.inl (by simp))
  have ni259 : ed ∉ [it] := ninS (Ne.symm (Exa.neArv f0_.e f2_ (w203 hw))) nin0
  have f258 := f2_.keep K257 ni259
  have y260 := aP y255 X255 hx hZ e255 f258 D
  exact own_retA X255 hlk y260 hx hret rfl rfl (D 65 rfl) (by decide) (by decide) e255 ⟨rfl, (Fr.snoc X255 (Fr.snoc X251 (Fr.app N0 Nq238) gg_it) gg_it), K257, b256⟩
def Q_rmDn (Z : State) (a : Addr) (t : Addr) (cv : UInt64)  (h0 : Heap) (n0 : Nat) (v : Option Value) (h : Heap) (L : List Loc) : Prop := v = none ∧ Fr n0 L ∧ Keep h0 h [a] ∧ own_BD Z h a (.ref t) (.double cv) (.double 0) (.double 0) (.int 0)
theorem own_pn_sD : plainName sD = true := by first | (simp [plainName, overriddenIn]; done) | decide +kernel
theorem rmDn (l : Launch) (Z : State) (a0 : Array Value) (hw : own_Hw a0 Z) (ws : List Jvm.Cond) (a : Addr) (t : Addr) (cv : UInt64)  (h0 : Heap) (n0 : Nat) (Z0 : n0 ≤ h0.size) (f0_ : own_BD Z h0 a .null (.double 0) (.double 0) (.double 0) (.int 0)) (gg_a : n0 ≤ a) : own_Met l Z own_mn18 prog_27_method_1_code 4 none ws ⟨1, 0, 0, 12⟩ #[.ref a, .ref t, .double cv] h0 (Q_rmDn Z a t cv h0 n0) := by
  refine own_begS sD n0 [a] #[vr a, vr t, vd cv, .second] oT6 (plainFor_of_name own_pn_sD) fun p e s m below meth c s₁ hx D hml hown hnm hret hlk hZ X0 e0 PS y0 N0 KK0 => ?_
  obtain ⟨T261, X261, e261, st261⟩ := initO X0 hx hZ hown (w61 hw) (w9 hw) (w10 hw) e0 (g := (mkF m 1 #[vr a, vr t, vd cv, .second] [.ref a])) rfl hml.symm rfl (D 1 rfl) (by decide) (W := 0) (by show 2 * 0 + _ ≤ _; exact Nat.le_of_eq rfl) (by decide)
  have y262 := rP 1 1 _ [.ref a] y0 X0 hx D rfl
  have y263 := fun (τ : State) kt => y262 τ (st261 τ kt)
  have y264 := rP 2 6 _ [.ref t, .ref a] y263 X261 hx D rfl
  obtain ⟨T265, h265, X265, e265, W265, fw265, y265⟩ := own_putK y264 X261 hx hZ hown (w62 hw) Via.refl e261 f0_.f0 f0_.e (Or.inr ⟨(w63 hw), rfl, hnm⟩) (w56 hw) (.array .double) (by decide) rfl rfl rfl rfl (D 6 rfl)
  have b266 := f0_.p0 hw W265
  have y267 := rP 2 11 _ [.double cv, .ref a] y265 X265 hx D rfl
  obtain ⟨T268, h268, X268, e268, W268, fw268, y268⟩ := own_putK y267 X265 hx hZ hown (w64 hw) Via.refl e265 b266.f1 b266.e (Or.inr ⟨(w65 hw), rfl, hnm⟩) (w56 hw) .double (by decide) rfl rfl rfl rfl (D 11 rfl)
  have b269 := b266.p1 hw W268
  have K270 := (KK0.wr W265 (Or.inl (by simp))).wr W268 (Or.inl (by simp))
  exact own_retV X268 hlk y268 hx hret (D 14 rfl) (by decide) (by decide) e268 ⟨rfl, (Fr.snoc X268 (Fr.snoc X265 N0 gg_a) gg_a), K270, b269⟩
def Q_rmCP (Z : State) (cm : Addr) (tt : Int32) (de : Addr) (k_de : ClassId)  (h0 : Heap) (n0 : Nat) (v : Option Value) (h : Heap) (L : List Loc) : Prop := ∃ (al : Addr) (ed : Addr) (kr : Addr) (kc : Addr) (du : Addr) (sd : Addr) (bvs : Addr) (t0 : Addr) (d0 : Addr) (k_ed : ClassId) (k_kr : ClassId) (k_kc : ClassId) (k_du : ClassId) (k_sd : ClassId) (k_bvs : ClassId) (k_t0 : ClassId), v = none ∧ Fr n0 L ∧ Keep h0 h [cm] ∧ n0 ≤ al ∧ h0.size ≤ al ∧ n0 ≤ ed ∧ h0.size ≤ ed ∧ n0 ≤ kr ∧ h0.size ≤ kr ∧ n0 ≤ kc ∧ h0.size ≤ kc ∧ n0 ≤ du ∧ h0.size ≤ du ∧ n0 ≤ sd ∧ h0.size ≤ sd ∧ n0 ≤ bvs ∧ h0.size ≤ bvs ∧ n0 ≤ t0 ∧ h0.size ≤ t0 ∧ n0 ≤ d0 ∧ h0.size ≤ d0 ∧ kr ≠ kc ∧ kr ≠ sd ∧ kc ≠ sd ∧ du ≠ bvs ∧ du ≠ t0 ∧ bvs ≠ t0 ∧ own_BC Z h cm (.int 1) (.int 2) (.int 2000) (.ref al) (.ref sd) (.ref bvs) (.ref kr) (.ref kc) .null .null (.double 0) (.ref du) (.int 0) ∧ own_BA Z h al (.ref ed) (.int 1) (.int 1) ∧ Arv Z h ed k_ed (.object "java/lang/Object") (10 : Int32) [.ref d0, .null, .null, .null, .null, .null, .null, .null, .null, .null] .null ∧ Ovr Z k_ed "java/lang/Object" ∧ Arv Z h kr k_kr .int 0 [] (.int 0) ∧ Arv Z h kc k_kc .int 0 [] (.int 0) ∧ Arv Z h du k_du .double (0 : Int32) [] (.double 0) ∧ Arv Z h sd k_sd .int 1 [.int 0] (.int 0) ∧ Arv Z h bvs k_bvs .double (1 : Int32) [.double 0] (.double 0) ∧ Arv Z h t0 k_t0 .double (2 : Int32) [.double 0, .double 4607182418800017408] (.double 0) ∧ own_BD Z h d0 (.ref t0) (.double (FP.i2d tt)) (.double 0) (.double 0) (.int 0)
theorem own_pn_sC : plainName sC = true := by first | (simp [plainName, overriddenIn]; done) | decide +kernel
theorem rmCP (l : Launch) (Z : State) (a0 : Array Value) (hw : own_Hw a0 Z) (ws : List Jvm.Cond) (cm : Addr) (tt : Int32) (de : Addr) (k_de : ClassId)  (h0 : Heap) (n0 : Nat) (Z0 : n0 ≤ h0.size) (f0_ : own_BC Z h0 cm (.int 0) (.int 0) (.int 0) .null .null .null .null .null .null .null (.double 0) .null (.int 0)) (f1_ : Arv Z h0 de k_de (.object "java/lang/Object") (0 : Int32) [] .null) (gg_cm : n0 ≤ cm) (O3 : Sta Z Z.heap sA "DEFAULTCAPACITY_EMPTY_ELEMENTDATA" sO (.ref de)) (OLD0 : Old Z n0 h0) : own_Met l Z own_mn19 prog_26_method_1_code 5 none ws ⟨5, 9, 28, 95⟩ #[.ref cm, .int 1, .int tt] h0 (Q_rmCP Z cm tt de k_de h0 n0) := by
  refine own_begS sC n0 [cm] #[vr cm, vi 1, vi tt, un, un] oT1 (plainFor_of_name own_pn_sC) fun p e s m below meth c s₁ hx D hml hown hnm hret hlk hZ X0 e0 PS y0 N0 KK0 => ?_
  obtain ⟨T271, X271, e271, st271⟩ := initO X0 hx hZ hown (w8 hw) (w9 hw) (w10 hw) e0 (g := (mkF m 1 #[vr cm, vi 1, vi tt, un, un] [.ref cm])) rfl hml.symm rfl (D 1 rfl) (by decide) (W := 0) (by show 2 * 0 + _ ≤ _; exact Nat.le_of_eq rfl) (by decide)
  have y272 := rP 1 1 _ [.ref cm] y0 X0 hx D rfl
  have y273 := fun (τ : State) kt => y272 τ (st271 τ kt)
  obtain ⟨T274, h274, X274, e274, E274, A274, D274, -, st274⟩ := newO X271 hx hZ hown (w11 hw) (w12 hw) (w13 hw) e271 (g := (mkF m 5 #[vr cm, vi 1, vi tt, un, un] [.ref cm])) rfl (D 5 rfl) (by decide) (by decide)
  obtain ⟨al, g274⟩ : ∃ z, z = h0.size := ⟨_, rfl⟩
  rw [← g274] at A274 D274 st274
  have g_al : n0 ≤ al := Nat.le_trans (Nat.le_trans Z0 KK0.1) (Nat.le_of_eq g274.symm)
  have sz_al : h0.size ≤ al := Nat.le_trans KK0.1 (Nat.le_of_eq g274.symm)
  have F_modCount_al : Fld Z h274 al "java/util/AbstractList" "modCount" "I" (.int 0) := D274 (Or.inl (w31 hw)) (ty := .int) (by decide)
  have F_elementData_al : Fld Z h274 al sA "elementData" sO .null := D274 (Or.inl (w34 hw)) (ty := (.array (.object "java/lang/Object"))) (by decide)
  have F_size_al : Fld Z h274 al sA "size" "I" (.int 0) := D274 (Or.inl (w78 hw)) (ty := .int) (by decide)
  have y275 := rP 1 5 _ [.ref cm] y273 X271 hx D rfl
  have y276 := fun (τ : State) kt => y275 τ (st274 τ kt)
  have b277 : own_BA Z h274 al .null (.int 0) (.int 0) := ⟨A274, F_elementData_al, F_size_al, F_modCount_al⟩
  have old278 := OLD0.ext E274
  have K279 := KK0.ext E274
  obtain ⟨_, T281, L281, X281, ⟨rfl, Nq281, Kq281, p280_0⟩, st281⟩ := own_spec (y := own_mn2) (b := al) X274 hx hZ rfl hown (w14 hw) (w15 hw) (by decide) (rmAL l Z a0 hw [] al de h274 n0 (Nat.le_trans Z0 K279.1) b277 g_al O3 old278) (w16 hw) (w13 hw) 2 (by decide) (by decide) e274 (mkF m 9 #[vr cm, vi 1, vi tt, un, un] [.ref al, .ref al, .ref cm]) rfl hml.symm [] [.ref al, .ref cm] rfl (lenOf own_pd___V rfl) rfl (Nat.le_refl _) (D 9 rfl) (by decide) (by decide)
  have y282 := rP 1 9 _ [.ref al, .ref al, .ref cm] y276 X274 hx D rfl
  have y283 := fun (τ : State) kt => y282 τ (st281 τ kt)
  have ne284 := own_ltn f0_.e.lt sz_al
  have b285 := (f0_.ext E274).keep Kq281 (ninS ne284 nin0)
  obtain ⟨T286, h286, X286, e286, W286, fw286, y286⟩ := own_putK y283 X281 hx hZ hown (w35 hw) Via.refl rfl b285.f3 b285.e (Or.inr ⟨(w36 hw), rfl, hnm⟩) (w3 hw) (.object "java/util/List") (by decide) rfl rfl rfl rfl (D 12 rfl)
  have b287 := b285.p3 hw W286
  obtain ⟨T288, h288, k288, X288, e288, E288, A288, st288⟩ := newP (aty := .int) X286 hx hZ (w37 hw) e286 (g := (mkF m 17 #[vr cm, vi 1, vi tt, un, un] [.int 0, .ref cm])) rfl (D 17 rfl) rfl (by decide) (cap := 0) (by decide) (by decide) (by decide) (by decide)
  obtain ⟨kr, g288⟩ : ∃ z, z = h286.size := ⟨_, rfl⟩
  rw [← g288] at A288 st288
  have K289 := (K279.trans Kq281 (allS (Or.inr sz_al) (all0))).wr W286 (Or.inl (by simp))
  have g_kr : n0 ≤ kr := Nat.le_trans (Nat.le_trans Z0 K289.1) (Nat.le_of_eq g288.symm)
  have sz_kr : h0.size ≤ kr := Nat.le_trans K289.1 (Nat.le_of_eq g288.symm)
  have V_kr : Arv Z h288 kr k288 .int 0 [] (.int 0) := (Arv.new A288 (by decide)).pad (pad_rep [] (.int 0) 0)
  have y290 := rP 2 17 _ [.int 0, .ref cm] y286 X286 hx D rfl
  have y291 := fun (τ : State) kt => y290 τ (st288 τ kt)
  have b292 := b287.ext E288
  obtain ⟨T293, h293, X293, e293, W293, fw293, y293⟩ := own_putK y291 X288 hx hZ hown (w38 hw) Via.refl e288 b292.f6 b292.e (Or.inl (w39 hw)) (w3 hw) (.array .int) (by decide) rfl rfl rfl rfl (D 19 rfl)
  have b294 := b292.p6 hw W293
  obtain ⟨T295, h295, k295, X295, e295, E295, A295, st295⟩ := newP (aty := .int) X293 hx hZ (w37 hw) e293 (g := (mkF m 24 #[vr cm, vi 1, vi tt, un, un] [.int 0, .ref cm])) rfl (D 24 rfl) rfl (by decide) (cap := 0) (by decide) (by decide) (by decide) (by decide)
  obtain ⟨kc, g295⟩ : ∃ z, z = h293.size := ⟨_, rfl⟩
  rw [← g295] at A295 st295
  have K296 := (K289.ext E288).wr W293 (Or.inl (by simp))
  have g_kc : n0 ≤ kc := Nat.le_trans (Nat.le_trans Z0 K296.1) (Nat.le_of_eq g295.symm)
  have sz_kc : h0.size ≤ kc := Nat.le_trans K296.1 (Nat.le_of_eq g295.symm)
  have V_kc : Arv Z h295 kc k295 .int 0 [] (.int 0) := (Arv.new A295 (by decide)).pad (pad_rep [] (.int 0) 0)
  have y297 := rP 2 24 _ [.int 0, .ref cm] y293 X293 hx D rfl
  have y298 := fun (τ : State) kt => y297 τ (st295 τ kt)
  have b299 := b294.ext E295
  obtain ⟨T300, h300, X300, e300, W300, fw300, y300⟩ := own_putK y298 X295 hx hZ hown (w40 hw) Via.refl e295 b299.f7 b299.e (Or.inl (w41 hw)) (w3 hw) (.array .int) (by decide) rfl rfl rfl rfl (D 26 rfl)
  have b301 := b299.p7 hw W300
  obtain ⟨T302, h302, k302, X302, e302, E302, A302, st302⟩ := newP (aty := .double) X300 hx hZ (w42 hw) e300 (g := (mkF m 31 #[vr cm, vi 1, vi tt, un, un] [.int 0, .ref cm])) rfl (D 31 rfl) rfl (by decide) (cap := 0) (by decide) (by decide) (by decide) (by decide)
  obtain ⟨du, g302⟩ : ∃ z, z = h300.size := ⟨_, rfl⟩
  rw [← g302] at A302 st302
  have K303 := (K296.ext E295).wr W300 (Or.inl (by simp))
  have g_du : n0 ≤ du := Nat.le_trans (Nat.le_trans Z0 K303.1) (Nat.le_of_eq g302.symm)
  have sz_du : h0.size ≤ du := Nat.le_trans K303.1 (Nat.le_of_eq g302.symm)
  have V_du : Arv Z h302 du k302 .double (0 : Int32) [] (.double 0) := (Arv.new A302 (by decide)).pad (pad_rep [] (.double 0) 0)
  have y304 := rP 2 31 _ [.int 0, .ref cm] y300 X300 hx D rfl
  have y305 := fun (τ : State) kt => y304 τ (st302 τ kt)
  have b306 := b301.ext E302
  obtain ⟨T307, h307, X307, e307, W307, fw307, y307⟩ := own_putK y305 X302 hx hZ hown (w43 hw) Via.refl e302 b306.f11 b306.e (Or.inl (w44 hw)) (w3 hw) (.array .double) (by decide) rfl rfl rfl rfl (D 33 rfl)
  have b308 := b306.p11 hw W307
  have y309 := rP 2 38 _ [.int 1, .ref cm] y307 X307 hx D rfl
  obtain ⟨T310, h310, X310, e310, W310, fw310, y310⟩ := own_putK y309 X307 hx hZ hown (w45 hw) Via.refl e307 b308.f0 b308.e (Or.inr ⟨(w46 hw), rfl, hnm⟩) (w3 hw) .int (by decide) rfl rfl rfl rfl (D 38 rfl)
  have b311 := b308.p0 hw W310
  have y312 := rP 4 45 _ [.int 2, .ref cm] y310 X310 hx D rfl
  obtain ⟨T313, h313, X313, e313, W313, fw313, y313⟩ := own_putK y312 X310 hx hZ hown (w47 hw) Via.refl e310 b311.f1 b311.e (Or.inr ⟨(w48 hw), rfl, hnm⟩) (w3 hw) .int (by decide) rfl rfl rfl rfl (D 45 rfl)
  have b314 := b311.p1 hw W313
  have y315 := rP 1 49 _ [.ref cm] y313 X313 hx D rfl
  have y316 := fun (τ : State) kt => y315 τ (XS.sipush X313.here hx rfl (D 49 rfl) kt)
  have y317 := rP 1 53 _ [.ref cm, .int 1000, .ref cm] y316 X313 hx D rfl
  obtain ⟨T318, X318, e318, y318⟩ := gP y317 X313 hx hZ hown (w47 hw) e313 b314.f1 D
  have y319 := rP 1 57 _ [.int 2000, .ref cm] y318 X318 hx D rfl
  obtain ⟨T320, h320, X320, e320, W320, fw320, y320⟩ := own_putK y319 X318 hx hZ hown (w49 hw) Via.refl e318 b314.f2 b314.e (Or.inr ⟨(w50 hw), rfl, hnm⟩) (w3 hw) .int (by decide) rfl rfl rfl rfl (D 57 rfl)
  have b321 := b314.p2 hw W320
  obtain ⟨T322, h322, k322, X322, e322, E322, A322, st322⟩ := newP (aty := .int) X320 hx hZ (w37 hw) e320 (g := (mkF m 62 #[vr cm, vi 1, vi tt, un, un] [.int 1, .ref cm])) rfl (D 62 rfl) rfl (by decide) (cap := 1) (by decide) (by decide) (by decide) (by decide)
  obtain ⟨sd, g322⟩ : ∃ z, z = h320.size := ⟨_, rfl⟩
  rw [← g322] at A322 st322
  have K323 := ((((K303.ext E302).wr W307 (Or.inl (by simp))).wr W310 (Or.inl (by simp))).wr W313 (Or.inl (by simp))).wr W320 (Or.inl (by simp))
  have g_sd : n0 ≤ sd := Nat.le_trans (Nat.le_trans Z0 K323.1) (Nat.le_of_eq g322.symm)
  have sz_sd : h0.size ≤ sd := Nat.le_trans K323.1 (Nat.le_of_eq g322.symm)
  have V_sd : Arv Z h322 sd k322 .int 1 [.int 0] (.int 0) := (Arv.new A322 (by decide)).pad (pad_rep [] (.int 0) 1)
  have y324 := rP 2 62 _ [.int 1, .ref cm] y320 X320 hx D rfl
  have y325 := fun (τ : State) kt => y324 τ (st322 τ kt)
  have b326 := b321.ext E322
  obtain ⟨T327, h327, X327, e327, W327, fw327, y327⟩ := own_putK y325 X322 hx hZ hown (w51 hw) Via.refl e322 b326.f4 b326.e (Or.inr ⟨(w52 hw), rfl, hnm⟩) (w3 hw) (.array .int) (by decide) rfl rfl rfl rfl (D 64 rfl)
  have b328 := b326.p4 hw W327
  obtain ⟨T329, h329, k329, X329, e329, E329, A329, st329⟩ := newP (aty := .double) X327 hx hZ (w42 hw) e327 (g := (mkF m 69 #[vr cm, vi 1, vi tt, un, un] [.int 1, .ref cm])) rfl (D 69 rfl) rfl (by decide) (cap := 1) (by decide) (by decide) (by decide) (by decide)
  obtain ⟨bvs, g329⟩ : ∃ z, z = h327.size := ⟨_, rfl⟩
  rw [← g329] at A329 st329
  have K330 := (K323.ext E322).wr W327 (Or.inl (by simp))
  have g_bvs : n0 ≤ bvs := Nat.le_trans (Nat.le_trans Z0 K330.1) (Nat.le_of_eq g329.symm)
  have sz_bvs : h0.size ≤ bvs := Nat.le_trans K330.1 (Nat.le_of_eq g329.symm)
  have V_bvs : Arv Z h329 bvs k329 .double (1 : Int32) [.double 0] (.double 0) := (Arv.new A329 (by decide)).pad (pad_rep [] (.double 0) 1)
  have y331 := rP 2 69 _ [.int 1, .ref cm] y327 X327 hx D rfl
  have y332 := fun (τ : State) kt => y331 τ (st329 τ kt)
  have b333 := b328.ext E329
  obtain ⟨T334, h334, X334, e334, W334, fw334, y334⟩ := own_putK y332 X329 hx hZ hown (w53 hw) Via.refl e329 b333.f5 b333.e (Or.inr ⟨(w54 hw), rfl, hnm⟩) (w3 hw) (.array .double) (by decide) rfl rfl rfl rfl (D 71 rfl)
  have b335 := b333.p5 hw W334
  have y336 := rP 1 75 _ [.ref cm] y334 X334 hx D rfl
  obtain ⟨T337, X337, e337, y337⟩ := gP y336 X334 hx hZ hown (w47 hw) e334 b335.f1 D
  obtain ⟨T338, h338, k338, X338, e338, E338, A338, st338⟩ := newP (aty := .double) X337 hx hZ (w42 hw) e337 (g := (mkF m 78 #[vr cm, vi 1, vi tt, un, un] [.int 2])) rfl (D 78 rfl) rfl (by decide) (cap := 2) (by decide) (by decide) (by decide) (by decide)
  obtain ⟨t0, g338⟩ : ∃ z, z = h334.size := ⟨_, rfl⟩
  rw [← g338] at A338 st338
  have K339 := (K330.ext E329).wr W334 (Or.inl (by simp))
  have g_t0 : n0 ≤ t0 := Nat.le_trans (Nat.le_trans Z0 K339.1) (Nat.le_of_eq g338.symm)
  have sz_t0 : h0.size ≤ t0 := Nat.le_trans K339.1 (Nat.le_of_eq g338.symm)
  have V_t0 : Arv Z h338 t0 k338 .double (2 : Int32) [.double 0, .double 0] (.double 0) := (Arv.new A338 (by decide)).pad (pad_rep [] (.double 0) 2)
  have y340 := fun (τ : State) kt => y337 τ (st338 τ kt)
  have y341 := rP 3 84 [vr cm, vi 1, vi tt, vr t0, vi 0] [] y340 X338 hx D rfl
  have y342 := rP 8 96 _ [.double 4607182418800017408, .int 1, .ref t0] y341 X338 hx D rfl
  obtain ⟨T343, h343, X343, e343, W343, V343, y343⟩ := own_dstK y342 X338 hx hZ e338 V_t0 rfl rfl (D 96 rfl) ⟨by decide, by decide⟩ 1 rfl (Nat.le_of_ble_eq_true rfl)
  have ne344 := own_ltn f0_.e.lt sz_t0
  have b345 := (b335.ext E338).other W343 ne344
  have y346 := rP 6 104 [vr cm, vi 1, vi tt, vr t0, vi 1] [.ref cm] y343 X343 hx D rfl
  obtain ⟨T347, X347, e347, y347⟩ := gP y346 X343 hx hZ hown (w35 hw) e343 b345.f3 D
  obtain ⟨T348, h348, X348, e348, E348, A348, D348, -, st348⟩ := newO X347 hx hZ hown (w55 hw) (w56 hw) (w57 hw) e347 (g := (mkF m 107 #[vr cm, vi 1, vi tt, vr t0, vi 1] [.ref al])) rfl (D 107 rfl) (by decide) (by decide)
  obtain ⟨d0, g348⟩ : ∃ z, z = h343.size := ⟨_, rfl⟩
  rw [← g348] at A348 D348 st348
  have K349 := (K339.ext E338).wr W343 (Or.inr sz_t0)
  have g_d0 : n0 ≤ d0 := Nat.le_trans (Nat.le_trans Z0 K349.1) (Nat.le_of_eq g348.symm)
  have sz_d0 : h0.size ≤ d0 := Nat.le_trans K349.1 (Nat.le_of_eq g348.symm)
  have F_entries_d0 : Fld Z h348 d0 sD "entries" "[D" .null := D348 (Or.inr (w63 hw)) (ty := (.array .double)) (by decide)
  have F_cost_d0 : Fld Z h348 d0 sD "cost" "D" (.double 0) := D348 (Or.inr (w65 hw)) (ty := .double) (by decide)
  have F_atOne_d0 : Fld Z h348 d0 sD "atOne" "D" (.double 0) := D348 (Or.inl (w121 hw)) (ty := .double) (by decide)
  have F_sizeAtOne_d0 : Fld Z h348 d0 sD "sizeAtOne" "D" (.double 0) := D348 (Or.inl (w123 hw)) (ty := .double) (by decide)
  have F_basic_d0 : Fld Z h348 d0 sD "basic" "Z" (.int 0) := D348 (Or.inl (w133 hw)) (ty := .boolean) (by decide)
  have y350 := fun (τ : State) kt => y347 τ (st348 τ kt)
  have b351 : own_BD Z h348 d0 .null (.double 0) (.double 0) (.double 0) (.int 0) := ⟨A348, F_entries_d0, F_cost_d0, F_atOne_d0, F_sizeAtOne_d0, F_basic_d0⟩
  have K352 := K349.ext E348
  obtain ⟨_, T354, L354, X354, ⟨rfl, Nq354, Kq354, p353_0⟩, st354⟩ := own_specR (y := own_mn18) (b := d0) X348 hx hZ rfl hown (w58 hw) (w59 hw) (by decide) (rmDn l Z a0 hw [] d0 t0 (FP.i2d tt) h348 n0 (Nat.le_trans Z0 K352.1) b351 g_d0) (w60 hw) (w57 hw) 2 (by decide) (by decide) e348 (mkF m 114 #[vr cm, vi 1, vi tt, vr t0, vi 1] [(.double (FP.i2d tt)), .ref t0, .ref d0, .ref d0, .ref al]) rfl hml.symm [.ref t0, (.double (FP.i2d tt))] [.ref d0, .ref al] rfl (lenOf own_pd___DD_V rfl) rfl (Nat.le_refl _) (D 114 rfl) (by decide) (by decide)
  have y355 := rP 4 114 _ [(.double (FP.i2d tt)), .ref t0, .ref d0, .ref d0, .ref al] y350 X348 hx D rfl
  have y356 := fun (τ : State) kt => y355 τ (st354 τ kt)
  have old357 := old278.keep Kq281 (allS g_al (all0))
  have old358 := old357.wr W286 gg_cm
  have old359 := old358.ext E288
  have old360 := old359.wr W293 gg_cm
  have old361 := old360.ext E295
  have old362 := old361.wr W300 gg_cm
  have old363 := old362.ext E302
  have old364 := old363.wr W307 gg_cm
  have old365 := old364.wr W310 gg_cm
  have old366 := old365.wr W313 gg_cm
  have old367 := old366.wr W320 gg_cm
  have old368 := old367.ext E322
  have old369 := old368.wr W327 gg_cm
  have old370 := old369.ext E329
  have old371 := old370.wr W334 gg_cm
  have old372 := old371.ext E338
  have old373 := old372.wr W343 g_t0
  have old374 := old373.ext E348
  have old375 := old374.keep Kq354 (allS g_d0 (all0))
  have ne376 := own_ltn (own_up (own_up (own_up (own_up (own_up (own_up (own_up (own_up (own_up (own_up (own_up (own_up (own_up (own_up (own_up A274.lt Kq281.1) (Keep.of_wr W286).1) E288.1) (Keep.of_wr W293).1) E295.1) (Keep.of_wr W300).1) E302.1) (Keep.of_wr W307).1) (Keep.of_wr W310).1) (Keep.of_wr W313).1) (Keep.of_wr W320).1) E322.1) (Keep.of_wr W327).1) E329.1) (Keep.of_wr W334).1) (Nat.le_of_eq g338.symm)
  have ne377 := own_ltn (own_up (own_up (own_up (own_up (own_up (own_up (own_up (own_up (own_up (own_up (own_up (own_up (own_up (own_up (own_up (own_up (own_up A274.lt Kq281.1) (Keep.of_wr W286).1) E288.1) (Keep.of_wr W293).1) E295.1) (Keep.of_wr W300).1) E302.1) (Keep.of_wr W307).1) (Keep.of_wr W310).1) (Keep.of_wr W313).1) (Keep.of_wr W320).1) E322.1) (Keep.of_wr W327).1) E329.1) (Keep.of_wr W334).1) E338.1) (Keep.of_wr W343).1) (Nat.le_of_eq g348.symm)
  have b378 := (((((((((((((((((p280_0.other W286 (Ne.symm ne284)).ext E288).other W293 (Ne.symm ne284)).ext E295).other W300 (Ne.symm ne284)).ext E302).other W307 (Ne.symm ne284)).other W310 (Ne.symm ne284)).other W313 (Ne.symm ne284)).other W320 (Ne.symm ne284)).ext E322).other W327 (Ne.symm ne284)).ext E329).other W334 (Ne.symm ne284)).ext E338).other W343 ne376).ext E348).keep Kq354 (ninS ne377 nin0)
  have K379 := K352.trans Kq354 (allS (Or.inr sz_d0) (all0))
  have ni381 : de ∉ [cm] := ninS (Ne.symm (Exa.neArv f0_.e f1_ (w3 hw))) nin0
  have f380 := f1_.keep K379 ni381
  obtain ⟨_, T383, L383, X383, ⟨ed, k_ed, rfl, Nq383, Kq383, g382_ed, z382_ed, p382_0, p382_1, p382_2⟩, y383⟩ := cF y356 X354 hx hZ hown hml.symm (own_V5 hw) (rmAda l Z a0 hw [] al d0 de k_de T354.heap n0 (Nat.le_trans Z0 K379.1) b378 f380 p353_0.e g_al O3 old375) 0 b378.e rfl [.ref d0] [] D
  have sz_ed := Nat.le_trans K379.1 z382_ed
  have ne384 := own_ltn f0_.e.lt sz_d0
  have b385 := ((b345.ext E348).keep Kq354 (ninS ne384 nin0)).keep Kq383 (ninS ne284 nin0)
  have ne386 := own_ltn f0_.e.lt sz_kr
  have ne387 := own_ltn (own_up (own_up (own_up (own_up (own_up (own_up (own_up (own_up (own_up (own_up (own_up (own_up V_kr.lt (Keep.of_wr W293).1) E295.1) (Keep.of_wr W300).1) E302.1) (Keep.of_wr W307).1) (Keep.of_wr W310).1) (Keep.of_wr W313).1) (Keep.of_wr W320).1) E322.1) (Keep.of_wr W327).1) E329.1) (Keep.of_wr W334).1) (Nat.le_of_eq g338.symm)
  have ne388 := own_ltn (own_up (own_up (own_up (own_up (own_up (own_up (own_up (own_up (own_up (own_up (own_up (own_up (own_up (own_up V_kr.lt (Keep.of_wr W293).1) E295.1) (Keep.of_wr W300).1) E302.1) (Keep.of_wr W307).1) (Keep.of_wr W310).1) (Keep.of_wr W313).1) (Keep.of_wr W320).1) E322.1) (Keep.of_wr W327).1) E329.1) (Keep.of_wr W334).1) E338.1) (Keep.of_wr W343).1) (Nat.le_of_eq g348.symm)
  have ne389 := own_ltn (own_up (own_up A274.lt Kq281.1) (Keep.of_wr W286).1) (Nat.le_of_eq g288.symm)
  have f390 := ((((((((((((((((V_kr.other W293 (Ne.symm ne386)).ext E295).other W300 (Ne.symm ne386)).ext E302).other W307 (Ne.symm ne386)).other W310 (Ne.symm ne386)).other W313 (Ne.symm ne386)).other W320 (Ne.symm ne386)).ext E322).other W327 (Ne.symm ne386)).ext E329).other W334 (Ne.symm ne386)).ext E338).other W343 ne387).ext E348).keep Kq354 (ninS ne388 nin0)).keep Kq383 (ninS (Ne.symm ne389) nin0)
  have ne391 := own_ltn f0_.e.lt sz_kc
  have ne392 := own_ltn (own_up (own_up (own_up (own_up (own_up (own_up (own_up (own_up (own_up (own_up V_kc.lt (Keep.of_wr W300).1) E302.1) (Keep.of_wr W307).1) (Keep.of_wr W310).1) (Keep.of_wr W313).1) (Keep.of_wr W320).1) E322.1) (Keep.of_wr W327).1) E329.1) (Keep.of_wr W334).1) (Nat.le_of_eq g338.symm)
  have ne393 := own_ltn (own_up (own_up (own_up (own_up (own_up (own_up (own_up (own_up (own_up (own_up (own_up (own_up V_kc.lt (Keep.of_wr W300).1) E302.1) (Keep.of_wr W307).1) (Keep.of_wr W310).1) (Keep.of_wr W313).1) (Keep.of_wr W320).1) E322.1) (Keep.of_wr W327).1) E329.1) (Keep.of_wr W334).1) E338.1) (Keep.of_wr W343).1) (Nat.le_of_eq g348.symm)
  have ne394 := own_ltn (own_up (own_up (own_up (own_up A274.lt Kq281.1) (Keep.of_wr W286).1) E288.1) (Keep.of_wr W293).1) (Nat.le_of_eq g295.symm)
  have f395 := ((((((((((((((V_kc.other W300 (Ne.symm ne391)).ext E302).other W307 (Ne.symm ne391)).other W310 (Ne.symm ne391)).other W313 (Ne.symm ne391)).other W320 (Ne.symm ne391)).ext E322).other W327 (Ne.symm ne391)).ext E329).other W334 (Ne.symm ne391)).ext E338).other W343 ne392).ext E348).keep Kq354 (ninS ne393 nin0)).keep Kq383 (ninS (Ne.symm ne394) nin0)
  have ne396 := own_ltn f0_.e.lt sz_du
  have ne397 := own_ltn (own_up (own_up (own_up (own_up (own_up (own_up (own_up (own_up V_du.lt (Keep.of_wr W307).1) (Keep.of_wr W310).1) (Keep.of_wr W313).1) (Keep.of_wr W320).1) E322.1) (Keep.of_wr W327).1) E329.1) (Keep.of_wr W334).1) (Nat.le_of_eq g338.symm)
  have ne398 := own_ltn (own_up (own_up (own_up (own_up (own_up (own_up (own_up (own_up (own_up (own_up V_du.lt (Keep.of_wr W307).1) (Keep.of_wr W310).1) (Keep.of_wr W313).1) (Keep.of_wr W320).1) E322.1) (Keep.of_wr W327).1) E329.1) (Keep.of_wr W334).1) E338.1) (Keep.of_wr W343).1) (Nat.le_of_eq g348.symm)
  have ne399 := own_ltn (own_up (own_up (own_up (own_up (own_up (own_up A274.lt Kq281.1) (Keep.of_wr W286).1) E288.1) (Keep.of_wr W293).1) E295.1) (Keep.of_wr W300).1) (Nat.le_of_eq g302.symm)
  have f400 := ((((((((((((V_du.other W307 (Ne.symm ne396)).other W310 (Ne.symm ne396)).other W313 (Ne.symm ne396)).other W320 (Ne.symm ne396)).ext E322).other W327 (Ne.symm ne396)).ext E329).other W334 (Ne.symm ne396)).ext E338).other W343 ne397).ext E348).keep Kq354 (ninS ne398 nin0)).keep Kq383 (ninS (Ne.symm ne399) nin0)
  have ne401 := own_ltn f0_.e.lt sz_sd
  have ne402 := own_ltn (own_up (own_up (own_up V_sd.lt (Keep.of_wr W327).1) E329.1) (Keep.of_wr W334).1) (Nat.le_of_eq g338.symm)
  have ne403 := own_ltn (own_up (own_up (own_up (own_up (own_up V_sd.lt (Keep.of_wr W327).1) E329.1) (Keep.of_wr W334).1) E338.1) (Keep.of_wr W343).1) (Nat.le_of_eq g348.symm)
  have ne404 := own_ltn (own_up (own_up (own_up (own_up (own_up (own_up (own_up (own_up (own_up (own_up (own_up A274.lt Kq281.1) (Keep.of_wr W286).1) E288.1) (Keep.of_wr W293).1) E295.1) (Keep.of_wr W300).1) E302.1) (Keep.of_wr W307).1) (Keep.of_wr W310).1) (Keep.of_wr W313).1) (Keep.of_wr W320).1) (Nat.le_of_eq g322.symm)
  have f405 := (((((((V_sd.other W327 (Ne.symm ne401)).ext E329).other W334 (Ne.symm ne401)).ext E338).other W343 ne402).ext E348).keep Kq354 (ninS ne403 nin0)).keep Kq383 (ninS (Ne.symm ne404) nin0)
  have ne406 := own_ltn f0_.e.lt sz_bvs
  have ne407 := own_ltn (own_up V_bvs.lt (Keep.of_wr W334).1) (Nat.le_of_eq g338.symm)
  have ne408 := own_ltn (own_up (own_up (own_up V_bvs.lt (Keep.of_wr W334).1) E338.1) (Keep.of_wr W343).1) (Nat.le_of_eq g348.symm)
  have ne409 := own_ltn (own_up (own_up (own_up (own_up (own_up (own_up (own_up (own_up (own_up (own_up (own_up (own_up (own_up A274.lt Kq281.1) (Keep.of_wr W286).1) E288.1) (Keep.of_wr W293).1) E295.1) (Keep.of_wr W300).1) E302.1) (Keep.of_wr W307).1) (Keep.of_wr W310).1) (Keep.of_wr W313).1) (Keep.of_wr W320).1) E322.1) (Keep.of_wr W327).1) (Nat.le_of_eq g329.symm)
  have f410 := (((((V_bvs.other W334 (Ne.symm ne406)).ext E338).other W343 ne407).ext E348).keep Kq354 (ninS ne408 nin0)).keep Kq383 (ninS (Ne.symm ne409) nin0)
  have ne411 := own_ltn (own_up V_t0.lt (Keep.of_wr W343).1) (Nat.le_of_eq g348.symm)
  have f412 := ((V343.ext E348).keep Kq354 (ninS ne411 nin0)).keep Kq383 (ninS (Ne.symm ne376) nin0)
  have b413 := p353_0.keep Kq383 (ninS (Ne.symm ne377) nin0)
  have K414 := K379.trans Kq383 (allS (Or.inr sz_al) (all0))
  have ne415 := own_ltn (own_up V_kr.lt (Keep.of_wr W293).1) (Nat.le_of_eq g295.symm)
  have ne416 := own_ltn (own_up (own_up (own_up (own_up (own_up (own_up (own_up (own_up V_kr.lt (Keep.of_wr W293).1) E295.1) (Keep.of_wr W300).1) E302.1) (Keep.of_wr W307).1) (Keep.of_wr W310).1) (Keep.of_wr W313).1) (Keep.of_wr W320).1) (Nat.le_of_eq g322.symm)
  have ne417 := own_ltn (own_up (own_up (own_up (own_up (own_up (own_up V_kc.lt (Keep.of_wr W300).1) E302.1) (Keep.of_wr W307).1) (Keep.of_wr W310).1) (Keep.of_wr W313).1) (Keep.of_wr W320).1) (Nat.le_of_eq g322.symm)
  have ne418 := own_ltn (own_up (own_up (own_up (own_up (own_up (own_up V_du.lt (Keep.of_wr W307).1) (Keep.of_wr W310).1) (Keep.of_wr W313).1) (Keep.of_wr W320).1) E322.1) (Keep.of_wr W327).1) (Nat.le_of_eq g329.symm)
  have y419 := rP 1 123 _ [] y383 X383 hx D rfl
  exact own_retV X383 hlk y419 hx hret (D 123 rfl) (by decide) (by decide) rfl ⟨al, ed, kr, kc, du, sd, bvs, t0, d0, k_ed, k288, k295, k302, k322, k329, k338, rfl, (Fr.app (Fr.app (Fr.snoc X343 (Fr.snoc X334 (Fr.snoc X327 (Fr.snoc X320 (Fr.snoc X313 (Fr.snoc X310 (Fr.snoc X307 (Fr.snoc X300 (Fr.snoc X293 (Fr.snoc X286 (Fr.app N0 Nq281) gg_cm) gg_cm) gg_cm) gg_cm) gg_cm) gg_cm) gg_cm) gg_cm) gg_cm) g_t0) Nq354) Nq383), K414, g_al, sz_al, g382_ed, sz_ed, g_kr, sz_kr, g_kc, sz_kc, g_du, sz_du, g_sd, sz_sd, g_bvs, sz_bvs, g_t0, sz_t0, g_d0, sz_d0, ne415, ne416, ne417, ne418, ne397, ne407, b385, p382_0, p382_1, p382_2, f390, f395, f400, f405, f410, f412, b413⟩
def Q_rmCaP (Z : State) (a : Addr) (t : Addr) (k_t : ClassId) (cv p_ z_ tv0 tv1 : UInt64) (ba : Int32) (h0 : Heap) (n0 : Nat) (v : Option Value) (h : Heap) (L : List Loc) : Prop := v = none ∧ Fr n0 L ∧ Keep h0 h [a] ∧ own_BD Z h a (.ref t) (.double cv) (.double (FP.dadd p_ (FP.dmul (4607182418800017408 : UInt64) tv1))) (.double (FP.dadd z_ (FP.dmul (4607182418800017408 : UInt64) (tv1 &&& (9223372036854775807 : UInt64))))) (.int ba)
theorem rmCaP (l : Launch) (Z : State) (a0 : Array Value) (hw : own_Hw a0 Z) (ws : List Jvm.Cond) (a : Addr) (t : Addr) (k_t : ClassId) (cv p_ z_ tv0 tv1 : UInt64) (ba : Int32) (h0 : Heap) (n0 : Nat) (Z0 : n0 ≤ h0.size) (f0_ : own_BD Z h0 a (.ref t) (.double cv) (.double p_) (.double z_) (.int ba)) (f1_ : Arv Z h0 t k_t .double (2 : Int32) [.double tv0, .double tv1] (.double 0)) (gg_a : n0 ≤ a) (ok_p_ : own_ok 2 p_) (ok_z_ : own_ok 2 z_) (ok_tv1 : own_ok 1 tv1) : own_Met l Z own_mn20 prog_27_method_2_code 3 none ws ⟨1, 0, 0, 30⟩ #[.ref a, .int 1, .int 1] h0 (Q_rmCaP Z a t k_t cv p_ z_ tv0 tv1 ba h0 n0) := by
  refine own_begS sD n0 [a] #[vr a, vi 1, vi 1] oT42 (plainFor_of_name own_pn_sD) fun p e s m below meth c s₁ hx D hml hown hnm hret hlk hZ X0 e0 PS y0 N0 KK0 => ?_
  have y420 := rP 2 2 _ [.ref a, .ref a] y0 X0 hx D rfl
  obtain ⟨T421, X421, e421, y421⟩ := gP y420 X0 hx hZ hown (w296 hw) e0 f0_.f2 D
  have y422 := rP 2 7 _ [(.double (FP.i2d (1 : Int32))), .double p_, .ref a] y421 X421 hx D rfl
  have y423 := nD y422 own_q1
  have y424 := rP 1 8 _ [.ref a, .double 4607182418800017408, .double p_, .ref a] y423 X421 hx D rfl
  obtain ⟨T425, X425, e425, y425⟩ := gP y424 X421 hx hZ hown (w62 hw) e421 f0_.f0 D
  have y426 := rP 1 12 _ [.int 1, .ref t, .double 4607182418800017408, .double p_, .ref a] y425 X425 hx D rfl
  have y427 := dP y426 X425 hx hZ e425 f1_ D
  have y428 := own_dmulP y427 X425 hx D (own_ok_no (own_ok_mul own_okc_4607182418800017408 ok_tv1 (by decide)))
  have y429 := own_daddP y428 X425 hx D (own_ok_no (own_ok_add ok_p_ (own_ok_mul own_okc_4607182418800017408 ok_tv1 (by decide)) (by decide)))
  obtain ⟨T430, h430, X430, e430, W430, fw430, y430⟩ := own_putK y429 X425 hx hZ hown (w296 hw) Via.refl e425 f0_.f2 f0_.e (Or.inl (w121 hw)) (w56 hw) .double (by decide) rfl rfl rfl rfl (D 15 rfl)
  have b431 := f0_.p2 hw W430
  have y432 := rP 2 20 _ [.ref a, .ref a] y430 X430 hx D rfl
  obtain ⟨T433, X433, e433, y433⟩ := gP y432 X430 hx hZ hown (w297 hw) e430 b431.f3 D
  have y434 := rP 2 25 _ [(.double (FP.i2d (1 : Int32))), .double z_, .ref a] y433 X433 hx D rfl
  have y435 := nD y434 own_q1
  have y436 := rP 1 26 _ [.ref a, .double 4607182418800017408, .double z_, .ref a] y435 X433 hx D rfl
  obtain ⟨T437, X437, e437, y437⟩ := gP y436 X433 hx hZ hown (w62 hw) e433 b431.f0 D
  have f438 := f1_.other W430 (Ne.symm (Exa.neArv f0_.e f1_ (w56 hw)))
  have y439 := rP 1 30 _ [.int 1, .ref t, .double 4607182418800017408, .double z_, .ref a] y437 X437 hx D rfl
  have y440 := dP y439 X437 hx hZ e437 f438 D
  obtain ⟨T441, X441, e441, y441⟩ := own_absR (W := 5) y440 X437 hx hZ hown (w298 hw) (w109 hw) (w96 hw) (w110 hw) e437 (own_ok_no ok_tv1) rfl hml.symm rfl (Nat.le_of_eq rfl) (D 31 rfl) (by decide) (by decide) (by decide) (by decide)
  have y442 := own_dmulP y441 X441 hx D (own_ok_no (own_ok_mul own_okc_4607182418800017408 (own_ok_abs ok_tv1) (by decide)))
  have y443 := own_daddP y442 X441 hx D (own_ok_no (own_ok_add ok_z_ (own_ok_mul own_okc_4607182418800017408 (own_ok_abs ok_tv1) (by decide)) (by decide)))
  obtain ⟨T444, h444, X444, e444, W444, fw444, y444⟩ := own_putK y443 X441 hx hZ hown (w297 hw) Via.refl e441 b431.f3 b431.e (Or.inl (w123 hw)) (w56 hw) .double (by decide) rfl rfl rfl rfl (D 36 rfl)
  have b445 := b431.p3 hw W444
  have K446 := (KK0.wr W430 (Or.inl (by simp))).wr W444 (Or.inl (by simp))
  exact own_retV X444 hlk y444 hx hret (D 39 rfl) (by decide) (by decide) e444 ⟨rfl, (Fr.snoc X444 (Fr.snoc X430 N0 gg_a) gg_a), K446, b445⟩
def Q_rmCaM (Z : State) (a : Addr) (t : Addr) (k_t : ClassId) (cv p_ z_ tv0 tv1 : UInt64) (ba : Int32) (h0 : Heap) (n0 : Nat) (v : Option Value) (h : Heap) (L : List Loc) : Prop := v = none ∧ Fr n0 L ∧ Keep h0 h [a] ∧ own_BD Z h a (.ref t) (.double cv) (.double (FP.dadd p_ (FP.dmul (13830554455654793216 : UInt64) tv1))) (.double (FP.dadd z_ (FP.dmul (13830554455654793216 : UInt64) (tv1 &&& (9223372036854775807 : UInt64))))) (.int ba)
theorem rmCaM (l : Launch) (Z : State) (a0 : Array Value) (hw : own_Hw a0 Z) (ws : List Jvm.Cond) (a : Addr) (t : Addr) (k_t : ClassId) (cv p_ z_ tv0 tv1 : UInt64) (ba : Int32) (h0 : Heap) (n0 : Nat) (Z0 : n0 ≤ h0.size) (f0_ : own_BD Z h0 a (.ref t) (.double cv) (.double p_) (.double z_) (.int ba)) (f1_ : Arv Z h0 t k_t .double (2 : Int32) [.double tv0, .double tv1] (.double 0)) (gg_a : n0 ≤ a) (ok_p_ : own_ok 2 p_) (ok_z_ : own_ok 2 z_) (ok_tv1 : own_ok 1 tv1) : own_Met l Z own_mn20 prog_27_method_2_code 3 none ws ⟨1, 0, 0, 30⟩ #[.ref a, .int 1, .int (-1)] h0 (Q_rmCaM Z a t k_t cv p_ z_ tv0 tv1 ba h0 n0) := by
  refine own_begS sD n0 [a] #[vr a, vi 1, vi (-1)] oT42 (plainFor_of_name own_pn_sD) fun p e s m below meth c s₁ hx D hml hown hnm hret hlk hZ X0 e0 PS y0 N0 KK0 => ?_
  have y447 := rP 2 2 _ [.ref a, .ref a] y0 X0 hx D rfl
  obtain ⟨T448, X448, e448, y448⟩ := gP y447 X0 hx hZ hown (w296 hw) e0 f0_.f2 D
  have y449 := rP 2 7 _ [(.double (FP.i2d (-1 : Int32))), .double p_, .ref a] y448 X448 hx D rfl
  have y450 := nD y449 own_q2
  have y451 := rP 1 8 _ [.ref a, .double 13830554455654793216, .double p_, .ref a] y450 X448 hx D rfl
  obtain ⟨T452, X452, e452, y452⟩ := gP y451 X448 hx hZ hown (w62 hw) e448 f0_.f0 D
  have y453 := rP 1 12 _ [.int 1, .ref t, .double 13830554455654793216, .double p_, .ref a] y452 X452 hx D rfl
  have y454 := dP y453 X452 hx hZ e452 f1_ D
  have y455 := own_dmulP y454 X452 hx D (own_ok_no (own_ok_mul own_okc_13830554455654793216 ok_tv1 (by decide)))
  have y456 := own_daddP y455 X452 hx D (own_ok_no (own_ok_add ok_p_ (own_ok_mul own_okc_13830554455654793216 ok_tv1 (by decide)) (by decide)))
  obtain ⟨T457, h457, X457, e457, W457, fw457, y457⟩ := own_putK y456 X452 hx hZ hown (w296 hw) Via.refl e452 f0_.f2 f0_.e (Or.inl (w121 hw)) (w56 hw) .double (by decide) rfl rfl rfl rfl (D 15 rfl)
  have b458 := f0_.p2 hw W457
  have y459 := rP 2 20 _ [.ref a, .ref a] y457 X457 hx D rfl
  obtain ⟨T460, X460, e460, y460⟩ := gP y459 X457 hx hZ hown (w297 hw) e457 b458.f3 D
  have y461 := rP 2 25 _ [(.double (FP.i2d (-1 : Int32))), .double z_, .ref a] y460 X460 hx D rfl
  have y462 := nD y461 own_q2
  have y463 := rP 1 26 _ [.ref a, .double 13830554455654793216, .double z_, .ref a] y462 X460 hx D rfl
  obtain ⟨T464, X464, e464, y464⟩ := gP y463 X460 hx hZ hown (w62 hw) e460 b458.f0 D
  have f465 := f1_.other W457 (Ne.symm (Exa.neArv f0_.e f1_ (w56 hw)))
  have y466 := rP 1 30 _ [.int 1, .ref t, .double 13830554455654793216, .double z_, .ref a] y464 X464 hx D rfl
  have y467 := dP y466 X464 hx hZ e464 f465 D
  obtain ⟨T468, X468, e468, y468⟩ := own_absR (W := 5) y467 X464 hx hZ hown (w298 hw) (w109 hw) (w96 hw) (w110 hw) e464 (own_ok_no ok_tv1) rfl hml.symm rfl (Nat.le_of_eq rfl) (D 31 rfl) (by decide) (by decide) (by decide) (by decide)
  have y469 := own_dmulP y468 X468 hx D (own_ok_no (own_ok_mul own_okc_13830554455654793216 (own_ok_abs ok_tv1) (by decide)))
  have y470 := own_daddP y469 X468 hx D (own_ok_no (own_ok_add ok_z_ (own_ok_mul own_okc_13830554455654793216 (own_ok_abs ok_tv1) (by decide)) (by decide)))
  obtain ⟨T471, h471, X471, e471, W471, fw471, y471⟩ := own_putK y470 X468 hx hZ hown (w297 hw) Via.refl e468 b458.f3 b458.e (Or.inl (w123 hw)) (w56 hw) .double (by decide) rfl rfl rfl rfl (D 36 rfl)
  have b472 := b458.p3 hw W471
  have K473 := (KK0.wr W457 (Or.inl (by simp))).wr W471 (Or.inl (by simp))
  exact own_retV X471 hlk y471 hx hret (D 39 rfl) (by decide) (by decide) e471 ⟨rfl, (Fr.snoc X471 (Fr.snoc X457 N0 gg_a) gg_a), K473, b472⟩
def Q_rmAfM (Z : State) (cm : Addr) (a : Addr) (sd t : Addr) (k_sd k_t : ClassId) (cv p_ z_ tv0 tv1 : UInt64) (ba : Int32) (h0 : Heap) (n0 : Nat) (v : Option Value) (h : Heap) (L : List Loc) : Prop := v = none ∧ Fr n0 L ∧ Keep h0 h [a] ∧ own_BD Z h a (.ref t) (.double cv) (.double 0) (.double 0) (.int ba)
theorem rmAfM (l : Launch) (Z : State) (a0 : Array Value) (hw : own_Hw a0 Z) (ws : List Jvm.Cond) (cm : Addr) (a : Addr) (sd t : Addr) (k_sd k_t : ClassId) (cv p_ z_ tv0 tv1 : UInt64) (ba : Int32) (h0 : Heap) (n0 : Nat) (Z0 : n0 ≤ h0.size) (f0_ : Exa Z h0 cm sC) (f1_ : Fld Z h0 cm sC "dimension" "I" (.int 1)) (f2_ : Fld Z h0 cm sC "side" "[I" (.ref sd)) (f3_ : Arv Z h0 sd k_sd .int 1 [.int (-1)] (.int 0)) (f4_ : own_BD Z h0 a (.ref t) (.double cv) (.double p_) (.double z_) (.int ba)) (f5_ : Arv Z h0 t k_t .double (2 : Int32) [.double tv0, .double tv1] (.double 0)) (gg_a : n0 ≤ a) (ok_tv1 : own_ok 1 tv1) : own_Met l Z own_mn21 prog_26_method_30_code 3 none ws ⟨2, 0, 0, 60⟩ #[.ref cm, .ref a] h0 (Q_rmAfM Z cm a sd t k_sd k_t cv p_ z_ tv0 tv1 ba h0 n0) := by
  refine own_begS sC n0 [a] #[vr cm, vr a, un] oT15 (plainFor_of_name own_pn_sC) fun p e s m below meth c s₁ hx D hml hown hnm hret hlk hZ X0 e0 PS y0 N0 KK0 => ?_
  have y474 := rP 2 2 _ [.double 0, .ref a] y0 X0 hx D rfl
  obtain ⟨T475, h475, X475, e475, W475, st475⟩ := own_putR X0 hx hZ hown (w120 hw) e0 f4_.f2 f4_.e (w121 hw) (w56 hw) (ty := .double) (by decide) rfl rfl (g := (mkF m 2 #[vr cm, vr a, un] [.double 0, .ref a])) rfl rfl (D 2 rfl)
  have fw475 := Fld.same W475 f4_.f2
  have N475 := Fr.snoc X475 N0 gg_a
  have y476 := fun (τ : State) kt => y474 τ (st475 τ kt)
  have b477 := f4_.p2 hw W475
  have y478 := rP 2 7 _ [.double 0, .ref a] y476 X475 hx D rfl
  obtain ⟨T479, h479, X479, e479, W479, st479⟩ := own_putR X475 hx hZ hown (w122 hw) e475 b477.f3 b477.e (w123 hw) (w56 hw) (ty := .double) (by decide) rfl rfl (g := (mkF m 7 #[vr cm, vr a, un] [.double 0, .ref a])) rfl rfl (D 7 rfl)
  have fw479 := Fld.same W479 b477.f3
  have N479 := Fr.snoc X479 N475 gg_a
  have y480 := fun (τ : State) kt => y478 τ (st479 τ kt)
  have b481 := b477.p3 hw W479
  have K482 := (KK0.wr W475 (Or.inl (by simp))).wr W479 (Or.inl (by simp))
  have ni484 : cm ∉ [a] := ninS (Exa.ne f0_ f4_.e (by decide)) nin0
  have f483 := f1_.keep K482 ni484
  have y485 := rP 4 14 [vr cm, vr a, vi 0] [.ref cm, .int 0] y480 X479 hx D rfl
  obtain ⟨T486, X486, e486, y486⟩ := gP y485 X479 hx hZ hown (w45 hw) e479 f483 D
  have f487 := f2_.keep K482 ni484
  have y488 := rP 2 21 _ [.ref cm] y486 X486 hx D rfl
  obtain ⟨T489, X489, e489, y489⟩ := gP y488 X486 hx hZ hown (w51 hw) e486 f487 D
  have ni491 : sd ∉ [a] := ninS (Ne.symm (Exa.neArv f4_.e f3_ (w56 hw))) nin0
  have f490 := f3_.keep K482 ni491
  have y492 := rP 1 25 _ [.int 0, .ref sd] y489 X489 hx D rfl
  have y493 := iP y492 X489 hx hZ e489 f490 D
  have y494 := rP 6 14 [vr cm, vr a, vi 1] [.ref cm, .int 1] y493 X489 hx D rfl
  obtain ⟨T495, X495, e495, y495⟩ := gP y494 X489 hx hZ hown (w45 hw) e489 f483 D
  have y496 := rP 1 44 _ [] y495 X495 hx D rfl
  exact own_retV X495 hlk y496 hx hret (D 44 rfl) (by decide) (by decide) e495 ⟨rfl, N479, K482, b481⟩
def Q_rmAf0 (Z : State) (cm : Addr) (a : Addr) (sd t : Addr) (k_sd k_t : ClassId) (cv p_ z_ tv0 tv1 : UInt64) (ba : Int32) (h0 : Heap) (n0 : Nat) (v : Option Value) (h : Heap) (L : List Loc) : Prop := v = none ∧ Fr n0 L ∧ Keep h0 h [a] ∧ own_BD Z h a (.ref t) (.double cv) (.double 0) (.double 0) (.int ba)
theorem rmAf0 (l : Launch) (Z : State) (a0 : Array Value) (hw : own_Hw a0 Z) (ws : List Jvm.Cond) (cm : Addr) (a : Addr) (sd t : Addr) (k_sd k_t : ClassId) (cv p_ z_ tv0 tv1 : UInt64) (ba : Int32) (h0 : Heap) (n0 : Nat) (Z0 : n0 ≤ h0.size) (f0_ : Exa Z h0 cm sC) (f1_ : Fld Z h0 cm sC "dimension" "I" (.int 1)) (f2_ : Fld Z h0 cm sC "side" "[I" (.ref sd)) (f3_ : Arv Z h0 sd k_sd .int 1 [.int 0] (.int 0)) (f4_ : own_BD Z h0 a (.ref t) (.double cv) (.double p_) (.double z_) (.int ba)) (f5_ : Arv Z h0 t k_t .double (2 : Int32) [.double tv0, .double tv1] (.double 0)) (gg_a : n0 ≤ a) (ok_tv1 : own_ok 1 tv1) : own_Met l Z own_mn21 prog_26_method_30_code 3 none ws ⟨2, 0, 0, 60⟩ #[.ref cm, .ref a] h0 (Q_rmAf0 Z cm a sd t k_sd k_t cv p_ z_ tv0 tv1 ba h0 n0) := by
  refine own_begS sC n0 [a] #[vr cm, vr a, un] oT15 (plainFor_of_name own_pn_sC) fun p e s m below meth c s₁ hx D hml hown hnm hret hlk hZ X0 e0 PS y0 N0 KK0 => ?_
  have y497 := rP 2 2 _ [.double 0, .ref a] y0 X0 hx D rfl
  obtain ⟨T498, h498, X498, e498, W498, st498⟩ := own_putR X0 hx hZ hown (w120 hw) e0 f4_.f2 f4_.e (w121 hw) (w56 hw) (ty := .double) (by decide) rfl rfl (g := (mkF m 2 #[vr cm, vr a, un] [.double 0, .ref a])) rfl rfl (D 2 rfl)
  have fw498 := Fld.same W498 f4_.f2
  have N498 := Fr.snoc X498 N0 gg_a
  have y499 := fun (τ : State) kt => y497 τ (st498 τ kt)
  have b500 := f4_.p2 hw W498
  have y501 := rP 2 7 _ [.double 0, .ref a] y499 X498 hx D rfl
  obtain ⟨T502, h502, X502, e502, W502, st502⟩ := own_putR X498 hx hZ hown (w122 hw) e498 b500.f3 b500.e (w123 hw) (w56 hw) (ty := .double) (by decide) rfl rfl (g := (mkF m 7 #[vr cm, vr a, un] [.double 0, .ref a])) rfl rfl (D 7 rfl)
  have fw502 := Fld.same W502 b500.f3
  have N502 := Fr.snoc X502 N498 gg_a
  have y503 := fun (τ : State) kt => y501 τ (st502 τ kt)
  have b504 := b500.p3 hw W502
  have K505 := (KK0.wr W498 (Or.inl (by simp))).wr W502 (Or.inl (by simp))
  have ni507 : cm ∉ [a] := ninS (Exa.ne f0_ f4_.e (by decide)) nin0
  have f506 := f1_.keep K505 ni507
  have y508 := rP 4 14 [vr cm, vr a, vi 0] [.ref cm, .int 0] y503 X502 hx D rfl
  obtain ⟨T509, X509, e509, y509⟩ := gP y508 X502 hx hZ hown (w45 hw) e502 f506 D
  have f510 := f2_.keep K505 ni507
  have y511 := rP 2 21 _ [.ref cm] y509 X509 hx D rfl
  obtain ⟨T512, X512, e512, y512⟩ := gP y511 X509 hx hZ hown (w51 hw) e509 f510 D
  have ni514 : sd ∉ [a] := ninS (Ne.symm (Exa.neArv f4_.e f3_ (w56 hw))) nin0
  have f513 := f3_.keep K505 ni514
  have y515 := rP 1 25 _ [.int 0, .ref sd] y512 X512 hx D rfl
  have y516 := iP y515 X512 hx hZ e512 f513 D
  have y517 := rP 6 14 [vr cm, vr a, vi 1] [.ref cm, .int 1] y516 X512 hx D rfl
  obtain ⟨T518, X518, e518, y518⟩ := gP y517 X512 hx hZ hown (w45 hw) e512 f506 D
  have y519 := rP 1 44 _ [] y518 X518 hx D rfl
  exact own_retV X518 hlk y519 hx hret (D 44 rfl) (by decide) (by decide) e518 ⟨rfl, N502, K505, b504⟩
def Q_rmAfP (Z : State) (cm : Addr) (a : Addr) (sd t : Addr) (k_sd k_t : ClassId) (cv p_ z_ tv0 tv1 : UInt64) (ba : Int32) (h0 : Heap) (n0 : Nat) (v : Option Value) (h : Heap) (L : List Loc) : Prop := v = none ∧ Fr n0 L ∧ Keep h0 h [a] ∧ own_BD Z h a (.ref t) (.double cv) (.double (FP.dadd (0 : UInt64) (FP.dmul (4607182418800017408 : UInt64) tv1))) (.double (FP.dadd (0 : UInt64) (FP.dmul (4607182418800017408 : UInt64) (tv1 &&& (9223372036854775807 : UInt64))))) (.int ba)
theorem rmAfP (l : Launch) (Z : State) (a0 : Array Value) (hw : own_Hw a0 Z) (ws : List Jvm.Cond) (cm : Addr) (a : Addr) (sd t : Addr) (k_sd k_t : ClassId) (cv p_ z_ tv0 tv1 : UInt64) (ba : Int32) (h0 : Heap) (n0 : Nat) (Z0 : n0 ≤ h0.size) (f0_ : Exa Z h0 cm sC) (f1_ : Fld Z h0 cm sC "dimension" "I" (.int 1)) (f2_ : Fld Z h0 cm sC "side" "[I" (.ref sd)) (f3_ : Arv Z h0 sd k_sd .int 1 [.int 1] (.int 0)) (f4_ : own_BD Z h0 a (.ref t) (.double cv) (.double p_) (.double z_) (.int ba)) (f5_ : Arv Z h0 t k_t .double (2 : Int32) [.double tv0, .double tv1] (.double 0)) (gg_a : n0 ≤ a) (ok_tv1 : own_ok 1 tv1) : own_Met l Z own_mn21 prog_26_method_30_code 3 none ws ⟨2, 0, 0, 60⟩ #[.ref cm, .ref a] h0 (Q_rmAfP Z cm a sd t k_sd k_t cv p_ z_ tv0 tv1 ba h0 n0) := by
  refine own_begS sC n0 [a] #[vr cm, vr a, un] oT15 (plainFor_of_name own_pn_sC) fun p e s m below meth c s₁ hx D hml hown hnm hret hlk hZ X0 e0 PS y0 N0 KK0 => ?_
  have y520 := rP 2 2 _ [.double 0, .ref a] y0 X0 hx D rfl
  obtain ⟨T521, h521, X521, e521, W521, st521⟩ := own_putR X0 hx hZ hown (w120 hw) e0 f4_.f2 f4_.e (w121 hw) (w56 hw) (ty := .double) (by decide) rfl rfl (g := (mkF m 2 #[vr cm, vr a, un] [.double 0, .ref a])) rfl rfl (D 2 rfl)
  have fw521 := Fld.same W521 f4_.f2
  have N521 := Fr.snoc X521 N0 gg_a
  have y522 := fun (τ : State) kt => y520 τ (st521 τ kt)
  have b523 := f4_.p2 hw W521
  have y524 := rP 2 7 _ [.double 0, .ref a] y522 X521 hx D rfl
  obtain ⟨T525, h525, X525, e525, W525, st525⟩ := own_putR X521 hx hZ hown (w122 hw) e521 b523.f3 b523.e (w123 hw) (w56 hw) (ty := .double) (by decide) rfl rfl (g := (mkF m 7 #[vr cm, vr a, un] [.double 0, .ref a])) rfl rfl (D 7 rfl)
  have fw525 := Fld.same W525 b523.f3
  have N525 := Fr.snoc X525 N521 gg_a
  have y526 := fun (τ : State) kt => y524 τ (st525 τ kt)
  have b527 := b523.p3 hw W525
  have K528 := (KK0.wr W521 (Or.inl (by simp))).wr W525 (Or.inl (by simp))
  have ni530 : cm ∉ [a] := ninS (Exa.ne f0_ f4_.e (by decide)) nin0
  have f529 := f1_.keep K528 ni530
  have y531 := rP 4 14 [vr cm, vr a, vi 0] [.ref cm, .int 0] y526 X525 hx D rfl
  obtain ⟨T532, X532, e532, y532⟩ := gP y531 X525 hx hZ hown (w45 hw) e525 f529 D
  have f533 := f2_.keep K528 ni530
  have y534 := rP 2 21 _ [.ref cm] y532 X532 hx D rfl
  obtain ⟨T535, X535, e535, y535⟩ := gP y534 X532 hx hZ hown (w51 hw) e532 f533 D
  have ni537 : sd ∉ [a] := ninS (Ne.symm (Exa.neArv f4_.e f3_ (w56 hw))) nin0
  have f536 := f3_.keep K528 ni537
  have ni539 : t ∉ [a] := ninS (Ne.symm (Exa.neArv f4_.e f5_ (w56 hw))) nin0
  have f538 := f5_.keep K528 ni539
  have y542 := rP 1 25 _ [.int 0, .ref sd] y535 X535 hx D rfl
  have y543 := iP y542 X535 hx hZ e535 f536 D
  have y544 := rP 7 35 _ [.int 1, .int 1, .ref a] y543 X535 hx D rfl
  obtain ⟨_, T541, L541, X541, ⟨rfl, Nq541, Kq541, p540_0⟩, y541⟩ := cP y544 X535 hx hZ hown hml.symm (own_V6 hw) (rmCaP l Z a0 hw [] a t k_t cv (0 : UInt64) (0 : UInt64) tv0 tv1 ba h525 n0 (Nat.le_trans Z0 K528.1) b527 f538 gg_a (own_ok_mono own_okc_0 (by decide)) (own_ok_mono own_okc_0 (by decide)) ok_tv1) 0 b527.e e535 [.int 1, .int 1] [] D
  have f545 := f529.keep Kq541 (ninS (Exa.ne f0_ f4_.e (by decide)) nin0)
  have y546 := rP 4 14 [vr cm, vr a, vi 1] [.ref cm, .int 1] y541 X541 hx D rfl
  obtain ⟨T547, X547, e547, y547⟩ := gP y546 X541 hx hZ hown (w45 hw) rfl f545 D
  have K548 := K528.trans Kq541 (allS (Or.inl (by simp)) (all0))
  have y549 := rP 1 44 _ [] y547 X547 hx D rfl
  exact own_retV X547 hlk y549 hx hret (D 44 rfl) (by decide) (by decide) e547 ⟨rfl, (Fr.app N525 Nq541), K548, p540_0⟩
def Q_rmSsP (Z : State) (cm : Addr) (sd al ed x1 x2 t0 t1 : Addr) (k_sd k_ed k_t0 k_t1 : ClassId) (cv0 cv1 xe : UInt64) (h0 : Heap) (n0 : Nat) (v : Option Value) (h : Heap) (L : List Loc) : Prop := v = none ∧ Fr n0 L ∧ Keep h0 h [sd, x1, x2] ∧ Arv Z h sd k_sd .int 1 [.int 1] (.int 0) ∧ own_BD Z h x1 (.ref t0) (.double cv0) (.double 4607182418800017408) (.double 4607182418800017408) (.int 0) ∧ own_BD Z h x2 (.ref t1) (.double cv1) (.double (FP.dadd (0 : UInt64) (FP.dmul (4607182418800017408 : UInt64) xe))) (.double (FP.dadd (0 : UInt64) (FP.dmul (4607182418800017408 : UInt64) (xe &&& (9223372036854775807 : UInt64))))) (.int 1)
theorem rmSsP (l : Launch) (Z : State) (a0 : Array Value) (hw : own_Hw a0 Z) (ws : List Jvm.Cond) (cm : Addr) (sd al ed x1 x2 t0 t1 : Addr) (k_sd k_ed k_t0 k_t1 : ClassId) (cv0 cv1 xe : UInt64) (h0 : Heap) (n0 : Nat) (Z0 : n0 ≤ h0.size) (f0_ : Exa Z h0 cm sC) (f1_ : Fld Z h0 cm sC "side" "[I" (.ref sd)) (f2_ : Fld Z h0 cm sC "dense" "Ljava/util/List;" (.ref al)) (f3_ : Arv Z h0 sd k_sd .int 1 [.int 0] (.int 0)) (f4_ : own_BA Z h0 al (.ref ed) (.int 2) (.int 2)) (f5_ : Arv Z h0 ed k_ed (.object "java/lang/Object") (10 : Int32) [.ref x1, .ref x2, .null, .null, .null, .null, .null, .null, .null, .null] .null) (f6_ : Ovr Z k_ed "java/lang/Object") (f7_ : own_BD Z h0 x1 (.ref t0) (.double cv0) (.double 0) (.double 0) (.int 0)) (f8_ : own_BD Z h0 x2 (.ref t1) (.double cv1) (.double 0) (.double 0) (.int 1)) (f9_ : Arv Z h0 t0 k_t0 .double (2 : Int32) [.double 0, .double 4607182418800017408] (.double 0)) (f10_ : Arv Z h0 t1 k_t1 .double (2 : Int32) [.double 4607182418800017408, .double xe] (.double 0)) (ne_x1_x2 : x1 ≠ x2) (ne_t0_t1 : t0 ≠ t1) (gg_sd : n0 ≤ sd) (gg_x1 : n0 ≤ x1) (gg_x2 : n0 ≤ x2) (ok_xe : own_ok 1 xe) : own_Met l Z own_mn22 prog_26_method_28_code 7 none ws ⟨3, 1, 4, 44⟩ #[.ref cm, .int 0, .int 1] h0 (Q_rmSsP Z cm sd al ed x1 x2 t0 t1 k_sd k_ed k_t0 k_t1 cv0 cv1 xe h0 n0) := by
  refine own_begS sC n0 [sd, x1, x2] #[vr cm, vi 0, vi 1, un, un, un, un] oT17 (plainFor_of_name own_pn_sC) fun p e s m below meth c s₁ hx D hml hown hnm hret hlk hZ X0 e0 PS y0 N0 KK0 => ?_
  have y550 := rP 1 1 _ [.ref cm] y0 X0 hx D rfl
  obtain ⟨T551, X551, e551, y551⟩ := gP y550 X0 hx hZ hown (w51 hw) e0 f1_ D
  have y552 := rP 1 5 _ [.int 0, .ref sd] y551 X551 hx D rfl
  have y553 := iP y552 X551 hx hZ e551 f3_ D
  have y554 := rP 16 34 [vr cm, vi 0, vi 1, vi 0, vi 1, un, un] [] y553 X551 hx D rfl
  have y555 := rP 1 35 _ [.ref cm] y554 X551 hx D rfl
  obtain ⟨T556, X556, e556, y556⟩ := gP y555 X551 hx hZ hown (w35 hw) e551 f2_ D
  obtain ⟨_, T558, L558, X558, ⟨it, rfl, Nq558, Kq558, g557_it, z557_it, p557_0⟩, y558⟩ := cF y556 X556 hx hZ hown hml.symm (own_V7 hw) (rmIt l Z a0 hw [] al ed h0 n0 (Nat.le_trans Z0 KK0.1) f4_) 0 f4_.e e556 [] [] D
  have sz_it := Nat.le_trans KK0.1 z557_it
  have b559 := f4_.keep Kq558 nin0
  have K560 := KK0.trans Kq558 (all0)
  have y563 := rP 2 47 [vr cm, vi 0, vi 1, vi 0, vi 1, vr it, un] [.ref it] y558 X558 hx D rfl
  obtain ⟨_, T562, L562, X562, ⟨rfl, Nq562, eq562⟩, y562⟩ := cF y563 X558 hx hZ hown hml.symm (own_V8 hw) (rmHn0 l Z a0 hw [] it al ed T558.heap n0 (Nat.le_trans Z0 K560.1) p557_0 b559) 0 p557_0.e rfl [] [] D
  have f564 := f5_.keep Kq558 nin0
  have y567 := rP 2 57 _ [.ref it] y562 X562 hx D rfl
  obtain ⟨_, T566, L566, X566, ⟨rfl, Nq566, Kq566, p565_0⟩, y566⟩ := cF y567 X562 hx hZ hown hml.symm (own_V9 hw) (rmNx0 l Z a0 hw [] it al ed k_ed x1 x2 T558.heap n0 (Nat.le_trans Z0 K560.1) p557_0 b559 f564 f6_ g557_it) 0 p557_0.e eq562 [] [] D
  have ne569 := own_ltn f7_.e.lt sz_it
  have b570 := (f7_.keep Kq558 nin0).keep Kq566 (ninS ne569 nin0)
  obtain ⟨T568, X568, e568, st568⟩ := castY X566 hx hZ hown (w55 hw) rfl (Ins.self b570.e) (g := (mkF m 62 #[vr cm, vi 0, vi 1, vi 0, vi 1, vr it, un] [.ref x1])) rfl rfl (D 62 rfl)
  have y571 := fun (τ : State) kt => y566 τ (st568 τ kt)
  have K572 := K560.trans Kq566 (allS (Or.inr sz_it) (all0))
  have ni574 : t0 ∉ [sd, x1, x2] := ninS (Ne.symm (own_arv_ne f3_ f9_ (by decide))) (ninS (Ne.symm (Exa.neArv f7_.e f9_ (w56 hw))) (ninS (Ne.symm (Exa.neArv f8_.e f9_ (w56 hw))) nin0))
  have f573 := f9_.keep K572 ni574
  have y577 := rP 6 74 [vr cm, vi 0, vi 1, vi 0, vi 1, vr it, vr x1] [.int 1, .int 1, .ref x1] y571 X568 hx D rfl
  obtain ⟨_, T576, L576, X576, ⟨rfl, Nq576, Kq576, p575_0⟩, y576⟩ := cP y577 X568 hx hZ hown hml.symm (own_V6 hw) (rmCaP l Z a0 hw [] x1 t0 k_t0 cv0 (0 : UInt64) (0 : UInt64) (0 : UInt64) (4607182418800017408 : UInt64) (0 : Int32) T566.heap n0 (Nat.le_trans Z0 K572.1) b570 f573 gg_x1 (own_ok_mono own_okc_0 (by decide)) (own_ok_mono own_okc_0 (by decide)) own_okc_4607182418800017408) 0 b570.e e568 [.int 1, .int 1] [] D
  have nz578 := p575_0
  rw [own_q3, own_q4] at nz578
  have b579 := p565_0.keep Kq576 (ninS (Ne.symm ne569) nin0)
  have K580 := K572.trans Kq576 (allS (Or.inl (by simp)) (all0))
  have ni582 : al ∉ [sd, x1, x2] := ninS (Exa.neArv f4_.e f3_ (w12 hw)) (ninS (Exa.ne f4_.e f7_.e (by decide)) (ninS (Exa.ne f4_.e f8_.e (by decide)) nin0))
  have b581 := f4_.keep K580 ni582
  have y585 := rP 2 47 _ [.ref it] y576 X576 hx D rfl
  obtain ⟨_, T584, L584, X584, ⟨rfl, Nq584, eq584⟩, y584⟩ := cF y585 X576 hx hZ hown hml.symm (own_V8 hw) (rmHn1 l Z a0 hw [] it al ed T576.heap n0 (Nat.le_trans Z0 K580.1) b579 b581) 0 b579.e rfl [] [] D
  have ni587 : ed ∉ [sd, x1, x2] := ninS (Ne.symm (own_arv_ne f3_ f5_ (by decide))) (ninS (Ne.symm (Exa.neArv f7_.e f5_ (w56 hw))) (ninS (Ne.symm (Exa.neArv f8_.e f5_ (w56 hw))) nin0))
  have f586 := f5_.keep K580 ni587
  have y590 := rP 2 57 _ [.ref it] y584 X584 hx D rfl
  obtain ⟨_, T589, L589, X589, ⟨rfl, Nq589, Kq589, p588_0⟩, y589⟩ := cF y590 X584 hx hZ hown hml.symm (own_V9 hw) (rmNx1 l Z a0 hw [] it al ed k_ed x1 x2 T576.heap n0 (Nat.le_trans Z0 K580.1) b579 b581 f586 f6_ g557_it) 0 b579.e eq584 [] [] D
  have ne592 := own_ltn f8_.e.lt sz_it
  have b593 := (((f8_.keep Kq558 nin0).keep Kq566 (ninS ne592 nin0)).keep Kq576 (ninS (Ne.symm ne_x1_x2) nin0)).keep Kq589 (ninS ne592 nin0)
  obtain ⟨T591, X591, e591, st591⟩ := castY X589 hx hZ hown (w55 hw) rfl (Ins.self b593.e) (g := (mkF m 62 #[vr cm, vi 0, vi 1, vi 0, vi 1, vr it, vr x1] [.ref x2])) rfl rfl (D 62 rfl)
  have y594 := fun (τ : State) kt => y589 τ (st591 τ kt)
  have K595 := K580.trans Kq589 (allS (Or.inr sz_it) (all0))
  have ni597 : t1 ∉ [sd, x1, x2] := ninS (Ne.symm (own_arv_ne f3_ f10_ (by decide))) (ninS (Ne.symm (Exa.neArv f7_.e f10_ (w56 hw))) (ninS (Ne.symm (Exa.neArv f8_.e f10_ (w56 hw))) nin0))
  have f596 := f10_.keep K595 ni597
  have y600 := rP 6 74 [vr cm, vi 0, vi 1, vi 0, vi 1, vr it, vr x2] [.int 1, .int 1, .ref x2] y594 X591 hx D rfl
  obtain ⟨_, T599, L599, X599, ⟨rfl, Nq599, Kq599, p598_0⟩, y599⟩ := cP y600 X591 hx hZ hown hml.symm (own_V6 hw) (rmCaP l Z a0 hw [] x2 t1 k_t1 cv1 (0 : UInt64) (0 : UInt64) (4607182418800017408 : UInt64) xe (1 : Int32) T589.heap n0 (Nat.le_trans Z0 K595.1) b593 f596 gg_x2 (own_ok_mono own_okc_0 (by decide)) (own_ok_mono own_okc_0 (by decide)) ok_xe) 0 b593.e e591 [.int 1, .int 1] [] D
  have b601 := p588_0.keep Kq599 (ninS (Ne.symm ne592) nin0)
  have K602 := K595.trans Kq599 (allS (Or.inl (by simp)) (all0))
  have b603 := f4_.keep K602 ni582
  have y606 := rP 2 47 _ [.ref it] y599 X599 hx D rfl
  obtain ⟨_, T605, L605, X605, ⟨rfl, Nq605, eq605⟩, y605⟩ := cF y606 X599 hx hZ hown hml.symm (own_V8 hw) (rmHn2 l Z a0 hw [] it al ed T599.heap n0 (Nat.le_trans Z0 K602.1) b601 b603) 0 b601.e rfl [] [] D
  have ni608 : cm ∉ [sd, x1, x2] := ninS (Exa.neArv f0_ f3_ (w3 hw)) (ninS (Exa.ne f0_ f7_.e (by decide)) (ninS (Exa.ne f0_ f8_.e (by decide)) nin0))
  have f607 := f1_.keep K602 ni608
  have y609 := rP 2 81 _ [.ref cm] y605 X605 hx D rfl
  obtain ⟨T610, X610, e610, y610⟩ := gP y609 X605 hx hZ hown (w51 hw) eq605 f607 D
  have ne611 := own_ltn f3_.lt sz_it
  have f612 := ((((f3_.keep Kq558 nin0).keep Kq566 (ninS ne611 nin0)).keep Kq576 (ninS (Ne.symm (Exa.neArv f7_.e f3_ (w56 hw))) nin0)).keep Kq589 (ninS ne611 nin0)).keep Kq599 (ninS (Ne.symm (Exa.neArv f8_.e f3_ (w56 hw))) nin0)
  have y613 := rP 2 86 _ [.int 1, .int 0, .ref sd] y610 X610 hx D rfl
  obtain ⟨T614, h614, X614, e614, W614, V614, y614⟩ := own_istK y613 X610 hx hZ e610 f612 rfl rfl (D 86 rfl) ⟨by decide, by decide⟩ 0 rfl (Nat.le_of_ble_eq_true rfl)
  have b615 := ((nz578.keep Kq589 (ninS ne569 nin0)).keep Kq599 (ninS ne_x1_x2 nin0)).other W614 (Exa.neArv f7_.e f3_ (w56 hw))
  have b616 := p598_0.other W614 (Exa.neArv f8_.e f3_ (w56 hw))
  have K617 := K602.wr W614 (Or.inl (by simp))
  exact own_retV X614 hlk y614 hx hret (D 87 rfl) (by decide) (by decide) e614 ⟨rfl, (Fr.snoc X614 (Fr.app (Fr.app (Fr.app (Fr.app (Fr.app (Fr.app (Fr.app (Fr.app N0 Nq558) Nq562) Nq566) Nq576) Nq584) Nq589) Nq599) Nq605) gg_sd), K617, V614, b615, b616⟩
def Q_rmSsM (Z : State) (cm : Addr) (sd al ed x1 x2 t0 t1 : Addr) (k_sd k_ed k_t0 k_t1 : ClassId) (cv0 cv1 xe : UInt64) (h0 : Heap) (n0 : Nat) (v : Option Value) (h : Heap) (L : List Loc) : Prop := v = none ∧ Fr n0 L ∧ Keep h0 h [sd, x1, x2] ∧ Arv Z h sd k_sd .int 1 [.int (-1)] (.int 0) ∧ own_BD Z h x1 (.ref t0) (.double cv0) (.double 0) (.double 0) (.int 0) ∧ own_BD Z h x2 (.ref t1) (.double cv1) (.double 0) (.double 0) (.int 1)
theorem rmSsM (l : Launch) (Z : State) (a0 : Array Value) (hw : own_Hw a0 Z) (ws : List Jvm.Cond) (cm : Addr) (sd al ed x1 x2 t0 t1 : Addr) (k_sd k_ed k_t0 k_t1 : ClassId) (cv0 cv1 xe : UInt64) (h0 : Heap) (n0 : Nat) (Z0 : n0 ≤ h0.size) (f0_ : Exa Z h0 cm sC) (f1_ : Fld Z h0 cm sC "side" "[I" (.ref sd)) (f2_ : Fld Z h0 cm sC "dense" "Ljava/util/List;" (.ref al)) (f3_ : Arv Z h0 sd k_sd .int 1 [.int 0] (.int 0)) (f4_ : own_BA Z h0 al (.ref ed) (.int 2) (.int 2)) (f5_ : Arv Z h0 ed k_ed (.object "java/lang/Object") (10 : Int32) [.ref x1, .ref x2, .null, .null, .null, .null, .null, .null, .null, .null] .null) (f6_ : Ovr Z k_ed "java/lang/Object") (f7_ : own_BD Z h0 x1 (.ref t0) (.double cv0) (.double 0) (.double 0) (.int 0)) (f8_ : own_BD Z h0 x2 (.ref t1) (.double cv1) (.double 0) (.double 0) (.int 1)) (f9_ : Arv Z h0 t0 k_t0 .double (2 : Int32) [.double 0, .double 4607182418800017408] (.double 0)) (f10_ : Arv Z h0 t1 k_t1 .double (2 : Int32) [.double 4607182418800017408, .double xe] (.double 0)) (ne_x1_x2 : x1 ≠ x2) (ne_t0_t1 : t0 ≠ t1) (gg_sd : n0 ≤ sd) (gg_x1 : n0 ≤ x1) (gg_x2 : n0 ≤ x2) (ok_xe : own_ok 1 xe) : own_Met l Z own_mn22 prog_26_method_28_code 7 none ws ⟨3, 1, 4, 44⟩ #[.ref cm, .int 0, .int (-1)] h0 (Q_rmSsM Z cm sd al ed x1 x2 t0 t1 k_sd k_ed k_t0 k_t1 cv0 cv1 xe h0 n0) := by
  refine own_begS sC n0 [sd, x1, x2] #[vr cm, vi 0, vi (-1), un, un, un, un] oT17 (plainFor_of_name own_pn_sC) fun p e s m below meth c s₁ hx D hml hown hnm hret hlk hZ X0 e0 PS y0 N0 KK0 => ?_
  have y618 := rP 1 1 _ [.ref cm] y0 X0 hx D rfl
  obtain ⟨T619, X619, e619, y619⟩ := gP y618 X0 hx hZ hown (w51 hw) e0 f1_ D
  have y620 := rP 1 5 _ [.int 0, .ref sd] y619 X619 hx D rfl
  have y621 := iP y620 X619 hx hZ e619 f3_ D
  have y622 := rP 11 81 [vr cm, vi 0, vi (-1), vi 0, un, un, un] [.ref cm] y621 X619 hx D rfl
  obtain ⟨T623, X623, e623, y623⟩ := gP y622 X619 hx hZ hown (w51 hw) e619 f1_ D
  have y624 := rP 2 86 _ [.int (-1), .int 0, .ref sd] y623 X623 hx D rfl
  obtain ⟨T625, h625, X625, e625, W625, V625, y625⟩ := own_istK y624 X623 hx hZ e623 f3_ rfl rfl (D 86 rfl) ⟨by decide, by decide⟩ 0 rfl (Nat.le_of_ble_eq_true rfl)
  have b626 := f7_.other W625 (Exa.neArv f7_.e f3_ (w56 hw))
  have b627 := f8_.other W625 (Exa.neArv f8_.e f3_ (w56 hw))
  have K628 := KK0.wr W625 (Or.inl (by simp))
  exact own_retV X625 hlk y625 hx hret (D 87 rfl) (by decide) (by decide) e625 ⟨rfl, (Fr.snoc X625 N0 gg_sd), K628, V625, b626, b627⟩
def own_R1 (sg : Int32) (t p z : UInt64) : Prop := (sg = 1 ∧ p = (FP.dadd (0 : UInt64) (FP.dmul (4607182418800017408 : UInt64) t)) ∧ z = (FP.dadd (0 : UInt64) (FP.dmul (4607182418800017408 : UInt64) (t &&& (9223372036854775807 : UInt64))))) ∨ (sg = -1 ∧ p = 0 ∧ z = 0)
def Q_rmSsS (Z : State) (cm : Addr) (sg : Int32) (sd al ed x1 x2 t0 t1 : Addr) (k_sd k_ed k_t0 k_t1 : ClassId) (cv0 cv1 xe pn0 zn0 pn1 zn1 : UInt64) (h0 : Heap) (n0 : Nat) (v : Option Value) (h : Heap) (L : List Loc) : Prop := v = none ∧ Fr n0 L ∧ Keep h0 h [sd, x1, x2] ∧ Arv Z h sd k_sd .int 1 [.int sg] (.int 0) ∧ own_BD Z h x1 (.ref t0) (.double cv0) (.double pn0) (.double zn0) (.int 0) ∧ own_BD Z h x2 (.ref t1) (.double cv1) (.double pn1) (.double zn1) (.int 1)
theorem rmSsS (l : Launch) (Z : State) (a0 : Array Value) (hw : own_Hw a0 Z) (ws : List Jvm.Cond) (cm : Addr) (sg : Int32) (sd al ed x1 x2 t0 t1 : Addr) (k_sd k_ed k_t0 k_t1 : ClassId) (cv0 cv1 xe pn0 zn0 pn1 zn1 : UInt64) (h0 : Heap) (n0 : Nat) (Z0 : n0 ≤ h0.size) (f0_ : Exa Z h0 cm sC) (f1_ : Fld Z h0 cm sC "side" "[I" (.ref sd)) (f2_ : Fld Z h0 cm sC "dense" "Ljava/util/List;" (.ref al)) (f3_ : Arv Z h0 sd k_sd .int 1 [.int 0] (.int 0)) (f4_ : own_BA Z h0 al (.ref ed) (.int 2) (.int 2)) (f5_ : Arv Z h0 ed k_ed (.object "java/lang/Object") (10 : Int32) [.ref x1, .ref x2, .null, .null, .null, .null, .null, .null, .null, .null] .null) (f6_ : Ovr Z k_ed "java/lang/Object") (f7_ : own_BD Z h0 x1 (.ref t0) (.double cv0) (.double 0) (.double 0) (.int 0)) (f8_ : own_BD Z h0 x2 (.ref t1) (.double cv1) (.double 0) (.double 0) (.int 1)) (f9_ : Arv Z h0 t0 k_t0 .double (2 : Int32) [.double 0, .double 4607182418800017408] (.double 0)) (f10_ : Arv Z h0 t1 k_t1 .double (2 : Int32) [.double 4607182418800017408, .double xe] (.double 0)) (ne_x1_x2 : x1 ≠ x2) (ne_t0_t1 : t0 ≠ t1) (gg_sd : n0 ≤ sd) (gg_x1 : n0 ≤ x1) (gg_x2 : n0 ≤ x2) (hR0 : own_R1 sg (4607182418800017408 : UInt64) pn0 zn0) (hR1 : own_R1 sg xe pn1 zn1) (ok_xe : own_ok 1 xe) : own_Met l Z own_mn22 prog_26_method_28_code 7 none ws ⟨3, 1, 4, 44⟩ #[.ref cm, .int 0, .int sg] h0 (Q_rmSsS Z cm sg sd al ed x1 x2 t0 t1 k_sd k_ed k_t0 k_t1 cv0 cv1 xe pn0 zn0 pn1 zn1 h0 n0) := by
  rcases hR0 with ⟨rfl, rfl, rfl⟩ | ⟨rfl, rfl, rfl⟩ <;> rcases hR1 with ⟨e, rfl, rfl⟩ | ⟨e, rfl, rfl⟩ <;> first | exact absurd e (by decide) | skip
  · rw [own_q3, own_q4]; exact rmSsP l Z a0 hw ws cm sd al ed x1 x2 t0 t1 k_sd k_ed k_t0 k_t1 cv0 cv1 xe h0 n0 Z0 f0_ f1_ f2_ f3_ f4_ f5_ f6_ f7_ f8_ f9_ f10_ ne_x1_x2 ne_t0_t1 gg_sd gg_x1 gg_x2 ok_xe
  · exact rmSsM l Z a0 hw ws cm sd al ed x1 x2 t0 t1 k_sd k_ed k_t0 k_t1 cv0 cv1 xe h0 n0 Z0 f0_ f1_ f2_ f3_ f4_ f5_ f6_ f7_ f8_ f9_ f10_ ne_x1_x2 ne_t0_t1 gg_sd gg_x1 gg_x2 ok_xe
def Q_rmAfS (Z : State) (cm : Addr) (a : Addr) (sd t : Addr) (k_sd k_t : ClassId) (cv p_ z_ tv0 tv1 : UInt64) (ba sg : Int32) (pn zn : UInt64) (h0 : Heap) (n0 : Nat) (v : Option Value) (h : Heap) (L : List Loc) : Prop := v = none ∧ Fr n0 L ∧ Keep h0 h [a] ∧ own_BD Z h a (.ref t) (.double cv) (.double pn) (.double zn) (.int ba)
theorem rmAfS (l : Launch) (Z : State) (a0 : Array Value) (hw : own_Hw a0 Z) (ws : List Jvm.Cond) (cm : Addr) (a : Addr) (sd t : Addr) (k_sd k_t : ClassId) (cv p_ z_ tv0 tv1 : UInt64) (ba sg : Int32) (pn zn : UInt64) (h0 : Heap) (n0 : Nat) (Z0 : n0 ≤ h0.size) (f0_ : Exa Z h0 cm sC) (f1_ : Fld Z h0 cm sC "dimension" "I" (.int 1)) (f2_ : Fld Z h0 cm sC "side" "[I" (.ref sd)) (f3_ : Arv Z h0 sd k_sd .int 1 [.int sg] (.int 0)) (f4_ : own_BD Z h0 a (.ref t) (.double cv) (.double p_) (.double z_) (.int ba)) (f5_ : Arv Z h0 t k_t .double (2 : Int32) [.double tv0, .double tv1] (.double 0)) (gg_a : n0 ≤ a) (hR : own_R1 sg tv1 pn zn) (ok_tv1 : own_ok 1 tv1) : own_Met l Z own_mn21 prog_26_method_30_code 3 none ws ⟨2, 0, 0, 60⟩ #[.ref cm, .ref a] h0 (Q_rmAfS Z cm a sd t k_sd k_t cv p_ z_ tv0 tv1 ba sg pn zn h0 n0) := by
  rcases hR with ⟨rfl, rfl, rfl⟩ | ⟨rfl, rfl, rfl⟩
  · exact rmAfP l Z a0 hw ws cm a sd t k_sd k_t cv p_ z_ tv0 tv1 ba h0 n0 Z0 f0_ f1_ f2_ f3_ f4_ f5_ gg_a ok_tv1
  · exact rmAfM l Z a0 hw ws cm a sd t k_sd k_t cv p_ z_ tv0 tv1 ba h0 n0 Z0 f0_ f1_ f2_ f3_ f4_ f5_ gg_a ok_tv1
def Q_rmSsZ (Z : State) (cm : Addr) (sd al ed x1 x2 t0 t1 : Addr) (k_sd k_ed k_t0 k_t1 : ClassId) (cv0 cv1 xe : UInt64) (h0 : Heap) (n0 : Nat) (v : Option Value) (h : Heap) (L : List Loc) : Prop := ∃ (at1 : UInt64) (sz1 : UInt64), v = none ∧ Fr n0 L ∧ Keep h0 h [sd, x1, x2] ∧ Arv Z h sd k_sd .int 1 [.int 0] (.int 0) ∧ own_BD Z h x1 (.ref t0) (.double cv0) (.double 0) (.double 0) (.int 0) ∧ own_BD Z h x2 (.ref t1) (.double cv1) (.double at1) (.double sz1) (.int 1) ∧ own_sz at1 ∧ own_ok 2 sz1
theorem rmSsZ (l : Launch) (Z : State) (a0 : Array Value) (hw : own_Hw a0 Z) (ws : List Jvm.Cond) (cm : Addr) (sd al ed x1 x2 t0 t1 : Addr) (k_sd k_ed k_t0 k_t1 : ClassId) (cv0 cv1 xe : UInt64) (h0 : Heap) (n0 : Nat) (Z0 : n0 ≤ h0.size) (f0_ : Exa Z h0 cm sC) (f1_ : Fld Z h0 cm sC "side" "[I" (.ref sd)) (f2_ : Fld Z h0 cm sC "dense" "Ljava/util/List;" (.ref al)) (f3_ : Arv Z h0 sd k_sd .int 1 [.int 1] (.int 0)) (f4_ : own_BA Z h0 al (.ref ed) (.int 2) (.int 2)) (f5_ : Arv Z h0 ed k_ed (.object "java/lang/Object") (10 : Int32) [.ref x1, .ref x2, .null, .null, .null, .null, .null, .null, .null, .null] .null) (f6_ : Ovr Z k_ed "java/lang/Object") (f7_ : own_BD Z h0 x1 (.ref t0) (.double cv0) (.double 4607182418800017408) (.double 4607182418800017408) (.int 0)) (f8_ : own_BD Z h0 x2 (.ref t1) (.double cv1) (.double (FP.dadd (0 : UInt64) (FP.dmul (4607182418800017408 : UInt64) xe))) (.double (FP.dadd (0 : UInt64) (FP.dmul (4607182418800017408 : UInt64) (xe &&& (9223372036854775807 : UInt64))))) (.int 1)) (f9_ : Arv Z h0 t0 k_t0 .double (2 : Int32) [.double 0, .double 4607182418800017408] (.double 0)) (f10_ : Arv Z h0 t1 k_t1 .double (2 : Int32) [.double 4607182418800017408, .double xe] (.double 0)) (ne_x1_x2 : x1 ≠ x2) (ne_t0_t1 : t0 ≠ t1) (gg_sd : n0 ≤ sd) (gg_x1 : n0 ≤ x1) (gg_x2 : n0 ≤ x2) (ok_xe : own_ok 1 xe) : own_Met l Z own_mn22 prog_26_method_28_code 7 none ws ⟨3, 1, 4, 44⟩ #[.ref cm, .int 0, .int 0] h0 (Q_rmSsZ Z cm sd al ed x1 x2 t0 t1 k_sd k_ed k_t0 k_t1 cv0 cv1 xe h0 n0) := by
  refine own_begS sC n0 [sd, x1, x2] #[vr cm, vi 0, vi 0, un, un, un, un] oT17 (plainFor_of_name own_pn_sC) fun p e s m below meth c s₁ hx D hml hown hnm hret hlk hZ X0 e0 PS y0 N0 KK0 => ?_
  have y629 := rP 1 1 _ [.ref cm] y0 X0 hx D rfl
  obtain ⟨T630, X630, e630, y630⟩ := gP y629 X0 hx hZ hown (w51 hw) e0 f1_ D
  have y631 := rP 1 5 _ [.int 0, .ref sd] y630 X630 hx D rfl
  have y632 := iP y631 X630 hx hZ e630 f3_ D
  have y633 := rP 12 34 [vr cm, vi 0, vi 0, vi 1, vi (-1), un, un] [] y632 X630 hx D rfl
  have y634 := rP 1 35 _ [.ref cm] y633 X630 hx D rfl
  obtain ⟨T635, X635, e635, y635⟩ := gP y634 X630 hx hZ hown (w35 hw) e630 f2_ D
  obtain ⟨_, T637, L637, X637, ⟨it, rfl, Nq637, Kq637, g636_it, z636_it, p636_0⟩, y637⟩ := cF y635 X635 hx hZ hown hml.symm (own_V7 hw) (rmIt l Z a0 hw [] al ed h0 n0 (Nat.le_trans Z0 KK0.1) f4_) 0 f4_.e e635 [] [] D
  have sz_it := Nat.le_trans KK0.1 z636_it
  have b638 := f4_.keep Kq637 nin0
  have K639 := KK0.trans Kq637 (all0)
  have y642 := rP 2 47 [vr cm, vi 0, vi 0, vi 1, vi (-1), vr it, un] [.ref it] y637 X637 hx D rfl
  obtain ⟨_, T641, L641, X641, ⟨rfl, Nq641, eq641⟩, y641⟩ := cF y642 X637 hx hZ hown hml.symm (own_V8 hw) (rmHn0 l Z a0 hw [] it al ed T637.heap n0 (Nat.le_trans Z0 K639.1) p636_0 b638) 0 p636_0.e rfl [] [] D
  have f643 := f5_.keep Kq637 nin0
  have y646 := rP 2 57 _ [.ref it] y641 X641 hx D rfl
  obtain ⟨_, T645, L645, X645, ⟨rfl, Nq645, Kq645, p644_0⟩, y645⟩ := cF y646 X641 hx hZ hown hml.symm (own_V9 hw) (rmNx0 l Z a0 hw [] it al ed k_ed x1 x2 T637.heap n0 (Nat.le_trans Z0 K639.1) p636_0 b638 f643 f6_ g636_it) 0 p636_0.e eq641 [] [] D
  have ne648 := own_ltn f7_.e.lt sz_it
  have b649 := (f7_.keep Kq637 nin0).keep Kq645 (ninS ne648 nin0)
  obtain ⟨T647, X647, e647, st647⟩ := castY X645 hx hZ hown (w55 hw) rfl (Ins.self b649.e) (g := (mkF m 62 #[vr cm, vi 0, vi 0, vi 1, vi (-1), vr it, un] [.ref x1])) rfl rfl (D 62 rfl)
  have y650 := fun (τ : State) kt => y645 τ (st647 τ kt)
  have K651 := K639.trans Kq645 (allS (Or.inr sz_it) (all0))
  have ni653 : t0 ∉ [sd, x1, x2] := ninS (Ne.symm (own_arv_ne f3_ f9_ (by decide))) (ninS (Ne.symm (Exa.neArv f7_.e f9_ (w56 hw))) (ninS (Ne.symm (Exa.neArv f8_.e f9_ (w56 hw))) nin0))
  have f652 := f9_.keep K651 ni653
  have y656 := rP 6 74 [vr cm, vi 0, vi 0, vi 1, vi (-1), vr it, vr x1] [.int (-1), .int 1, .ref x1] y650 X647 hx D rfl
  obtain ⟨_, T655, L655, X655, ⟨rfl, Nq655, Kq655, p654_0⟩, y655⟩ := cP y656 X647 hx hZ hown hml.symm (own_V6 hw) (rmCaM l Z a0 hw [] x1 t0 k_t0 cv0 (4607182418800017408 : UInt64) (4607182418800017408 : UInt64) (0 : UInt64) (4607182418800017408 : UInt64) (0 : Int32) T645.heap n0 (Nat.le_trans Z0 K651.1) b649 f652 gg_x1 (own_ok_mono own_okc_4607182418800017408 (by decide)) (own_ok_mono own_okc_4607182418800017408 (by decide)) own_okc_4607182418800017408) 0 b649.e e647 [.int 1, .int (-1)] [] D
  have nz657 := p654_0
  rw [own_q6, own_q7] at nz657
  have b658 := p644_0.keep Kq655 (ninS (Ne.symm ne648) nin0)
  have K659 := K651.trans Kq655 (allS (Or.inl (by simp)) (all0))
  have ni661 : al ∉ [sd, x1, x2] := ninS (Exa.neArv f4_.e f3_ (w12 hw)) (ninS (Exa.ne f4_.e f7_.e (by decide)) (ninS (Exa.ne f4_.e f8_.e (by decide)) nin0))
  have b660 := f4_.keep K659 ni661
  have y664 := rP 2 47 _ [.ref it] y655 X655 hx D rfl
  obtain ⟨_, T663, L663, X663, ⟨rfl, Nq663, eq663⟩, y663⟩ := cF y664 X655 hx hZ hown hml.symm (own_V8 hw) (rmHn1 l Z a0 hw [] it al ed T655.heap n0 (Nat.le_trans Z0 K659.1) b658 b660) 0 b658.e rfl [] [] D
  have ni666 : ed ∉ [sd, x1, x2] := ninS (Ne.symm (own_arv_ne f3_ f5_ (by decide))) (ninS (Ne.symm (Exa.neArv f7_.e f5_ (w56 hw))) (ninS (Ne.symm (Exa.neArv f8_.e f5_ (w56 hw))) nin0))
  have f665 := f5_.keep K659 ni666
  have y669 := rP 2 57 _ [.ref it] y663 X663 hx D rfl
  obtain ⟨_, T668, L668, X668, ⟨rfl, Nq668, Kq668, p667_0⟩, y668⟩ := cF y669 X663 hx hZ hown hml.symm (own_V9 hw) (rmNx1 l Z a0 hw [] it al ed k_ed x1 x2 T655.heap n0 (Nat.le_trans Z0 K659.1) b658 b660 f665 f6_ g636_it) 0 b658.e eq663 [] [] D
  have ne671 := own_ltn f8_.e.lt sz_it
  have b672 := (((f8_.keep Kq637 nin0).keep Kq645 (ninS ne671 nin0)).keep Kq655 (ninS (Ne.symm ne_x1_x2) nin0)).keep Kq668 (ninS ne671 nin0)
  obtain ⟨T670, X670, e670, st670⟩ := castY X668 hx hZ hown (w55 hw) rfl (Ins.self b672.e) (g := (mkF m 62 #[vr cm, vi 0, vi 0, vi 1, vi (-1), vr it, vr x1] [.ref x2])) rfl rfl (D 62 rfl)
  have y673 := fun (τ : State) kt => y668 τ (st670 τ kt)
  have K674 := K659.trans Kq668 (allS (Or.inr sz_it) (all0))
  have ni676 : t1 ∉ [sd, x1, x2] := ninS (Ne.symm (own_arv_ne f3_ f10_ (by decide))) (ninS (Ne.symm (Exa.neArv f7_.e f10_ (w56 hw))) (ninS (Ne.symm (Exa.neArv f8_.e f10_ (w56 hw))) nin0))
  have f675 := f10_.keep K674 ni676
  have y679 := rP 6 74 [vr cm, vi 0, vi 0, vi 1, vi (-1), vr it, vr x2] [.int (-1), .int 1, .ref x2] y673 X670 hx D rfl
  obtain ⟨_, T678, L678, X678, ⟨rfl, Nq678, Kq678, p677_0⟩, y678⟩ := cP y679 X670 hx hZ hown hml.symm (own_V6 hw) (rmCaM l Z a0 hw [] x2 t1 k_t1 cv1 (FP.dadd (0 : UInt64) (FP.dmul (4607182418800017408 : UInt64) xe)) (FP.dadd (0 : UInt64) (FP.dmul (4607182418800017408 : UInt64) (xe &&& (9223372036854775807 : UInt64)))) (4607182418800017408 : UInt64) xe (1 : Int32) T668.heap n0 (Nat.le_trans Z0 K674.1) b672 f675 gg_x2 (own_ok_mono (own_ok_add own_okc_0 (own_ok_mul own_okc_4607182418800017408 ok_xe (by decide)) (by decide)) (by decide)) (own_ok_mono (own_ok_add own_okc_0 (own_ok_mul own_okc_4607182418800017408 (own_ok_abs ok_xe) (by decide)) (by decide)) (by decide)) ok_xe) 0 b672.e e670 [.int 1, .int (-1)] [] D
  have b680 := p667_0.keep Kq678 (ninS (Ne.symm ne671) nin0)
  have K681 := K674.trans Kq678 (allS (Or.inl (by simp)) (all0))
  have b682 := f4_.keep K681 ni661
  have y685 := rP 2 47 _ [.ref it] y678 X678 hx D rfl
  obtain ⟨_, T684, L684, X684, ⟨rfl, Nq684, eq684⟩, y684⟩ := cF y685 X678 hx hZ hown hml.symm (own_V8 hw) (rmHn2 l Z a0 hw [] it al ed T678.heap n0 (Nat.le_trans Z0 K681.1) b680 b682) 0 b680.e rfl [] [] D
  have ni687 : cm ∉ [sd, x1, x2] := ninS (Exa.neArv f0_ f3_ (w3 hw)) (ninS (Exa.ne f0_ f7_.e (by decide)) (ninS (Exa.ne f0_ f8_.e (by decide)) nin0))
  have f686 := f1_.keep K681 ni687
  have y688 := rP 2 81 _ [.ref cm] y684 X684 hx D rfl
  obtain ⟨T689, X689, e689, y689⟩ := gP y688 X684 hx hZ hown (w51 hw) eq684 f686 D
  have ne690 := own_ltn f3_.lt sz_it
  have f691 := ((((f3_.keep Kq637 nin0).keep Kq645 (ninS ne690 nin0)).keep Kq655 (ninS (Ne.symm (Exa.neArv f7_.e f3_ (w56 hw))) nin0)).keep Kq668 (ninS ne690 nin0)).keep Kq678 (ninS (Ne.symm (Exa.neArv f8_.e f3_ (w56 hw))) nin0)
  have y692 := rP 2 86 _ [.int 0, .int 0, .ref sd] y689 X689 hx D rfl
  obtain ⟨T693, h693, X693, e693, W693, V693, y693⟩ := own_istK y692 X689 hx hZ e689 f691 rfl rfl (D 86 rfl) ⟨by decide, by decide⟩ 0 rfl (Nat.le_of_ble_eq_true rfl)
  have b694 := ((nz657.keep Kq668 (ninS ne648 nin0)).keep Kq678 (ninS ne_x1_x2 nin0)).other W693 (Exa.neArv f7_.e f3_ (w56 hw))
  have b695 := p677_0.other W693 (Exa.neArv f8_.e f3_ (w56 hw))
  have K696 := K681.wr W693 (Or.inl (by simp))
  exact own_retV X693 hlk y693 hx hret (D 87 rfl) (by decide) (by decide) e693 ⟨(FP.dadd (FP.dadd (0 : UInt64) (FP.dmul (4607182418800017408 : UInt64) xe)) (FP.dmul (13830554455654793216 : UInt64) xe)), (FP.dadd (FP.dadd (0 : UInt64) (FP.dmul (4607182418800017408 : UInt64) (xe &&& (9223372036854775807 : UInt64)))) (FP.dmul (13830554455654793216 : UInt64) (xe &&& (9223372036854775807 : UInt64)))), rfl, (Fr.snoc X693 (Fr.app (Fr.app (Fr.app (Fr.app (Fr.app (Fr.app (Fr.app (Fr.app N0 Nq637) Nq641) Nq645) Nq655) Nq663) Nq668) Nq678) Nq684) gg_sd), K696, V693, b694, b695, (own_sz_P1 ok_xe), (own_ok_mono (own_ok_add (own_ok_add own_okc_0 (own_ok_mul own_okc_4607182418800017408 (own_ok_abs ok_xe) (by decide)) (by decide)) (own_ok_mul own_okc_13830554455654793216 (own_ok_abs ok_xe) (by decide)) (by decide)) (by decide))⟩
def Q_rmKi1 (Z : State) (cm : Addr) (kr : Addr) (k_kr : ClassId)  (h0 : Heap) (n0 : Nat) (v : Option Value) (h : Heap) (L : List Loc) : Prop := v = some (.int 0) ∧ Fr n0 L ∧ h = h0
theorem rmKi1 (l : Launch) (Z : State) (a0 : Array Value) (hw : own_Hw a0 Z) (ws : List Jvm.Cond) (cm : Addr) (kr : Addr) (k_kr : ClassId)  (h0 : Heap) (n0 : Nat) (Z0 : n0 ≤ h0.size) (f0_ : Exa Z h0 cm sC) (f1_ : Fld Z h0 cm sC "kernelRows" "[I" (.ref kr)) (f2_ : Arv Z h0 kr k_kr .int 1 [.int 0] (.int 0)) : own_Met l Z own_mn23 prog_26_method_21_code 4 (some .int) ws ⟨0, 0, 0, 0⟩ #[.ref cm, .int 0] h0 (Q_rmKi1 Z cm kr k_kr h0 n0) := by
  refine own_begS sC n0 [] #[vr cm, vi 0, un, un] oT25 (plainFor_of_name own_pn_sC) fun p e s m below meth c s₁ hx D hml hown hnm hret hlk hZ X0 e0 PS y0 N0 KK0 => ?_
  have y697 := rP 4 4 [vr cm, vi 0, vi (-1), vi 0] [] y0 X0 hx D rfl
  have y698 := rP 2 6 _ [.ref cm, .int 0] y697 X0 hx D rfl
  obtain ⟨T699, X699, e699, y699⟩ := gP y698 X0 hx hZ hown (w38 hw) e0 f1_ D
  have y700 := lP y699 X699 hx hZ e699 f2_ D
  have y701 := rP 4 18 _ [.ref cm] y700 X699 hx D rfl
  obtain ⟨T702, X702, e702, y702⟩ := gP y701 X699 hx hZ hown (w38 hw) e699 f1_ D
  have y703 := rP 1 22 _ [.int 0, .ref kr] y702 X702 hx D rfl
  have y704 := iP y703 X702 hx hZ e702 f2_ D
  have y705 := rP 5 32 [vr cm, vi 0, vi 0, vi 1] [] y704 X702 hx D rfl
  have y706 := rP 3 6 _ [.ref cm, .int 1] y705 X702 hx D rfl
  obtain ⟨T707, X707, e707, y707⟩ := gP y706 X702 hx hZ hown (w38 hw) e702 f1_ D
  have y708 := lP y707 X707 hx hZ e707 f2_ D
  have y709 := rP 4 54 _ [.int 0] y708 X707 hx D rfl
  exact own_retI X707 hlk y709 hx hret (D 54 rfl) (by decide) (by decide) e707 ⟨rfl, N0, rfl⟩
def Q_rmKi2 (Z : State) (cm : Addr) (kr : Addr) (k_kr : ClassId)  (h0 : Heap) (n0 : Nat) (v : Option Value) (h : Heap) (L : List Loc) : Prop := v = some (.int 0) ∧ Fr n0 L ∧ h = h0
theorem rmKi2 (l : Launch) (Z : State) (a0 : Array Value) (hw : own_Hw a0 Z) (ws : List Jvm.Cond) (cm : Addr) (kr : Addr) (k_kr : ClassId)  (h0 : Heap) (n0 : Nat) (Z0 : n0 ≤ h0.size) (f0_ : Exa Z h0 cm sC) (f1_ : Fld Z h0 cm sC "kernelRows" "[I" (.ref kr)) (f2_ : Arv Z h0 kr k_kr .int 2 [.int 0, .int 1] (.int 0)) : own_Met l Z own_mn23 prog_26_method_21_code 4 (some .int) ws ⟨0, 0, 0, 0⟩ #[.ref cm, .int 0] h0 (Q_rmKi2 Z cm kr k_kr h0 n0) := by
  refine own_begS sC n0 [] #[vr cm, vi 0, un, un] oT25 (plainFor_of_name own_pn_sC) fun p e s m below meth c s₁ hx D hml hown hnm hret hlk hZ X0 e0 PS y0 N0 KK0 => ?_
  have y710 := rP 4 4 [vr cm, vi 0, vi (-1), vi 0] [] y0 X0 hx D rfl
  have y711 := rP 2 6 _ [.ref cm, .int 0] y710 X0 hx D rfl
  obtain ⟨T712, X712, e712, y712⟩ := gP y711 X0 hx hZ hown (w38 hw) e0 f1_ D
  have y713 := lP y712 X712 hx hZ e712 f2_ D
  have y714 := rP 4 18 _ [.ref cm] y713 X712 hx D rfl
  obtain ⟨T715, X715, e715, y715⟩ := gP y714 X712 hx hZ hown (w38 hw) e712 f1_ D
  have y716 := rP 1 22 _ [.int 0, .ref kr] y715 X715 hx D rfl
  have y717 := iP y716 X715 hx hZ e715 f2_ D
  have y718 := rP 5 32 [vr cm, vi 0, vi 0, vi 1] [] y717 X715 hx D rfl
  have y719 := rP 3 6 _ [.ref cm, .int 1] y718 X715 hx D rfl
  obtain ⟨T720, X720, e720, y720⟩ := gP y719 X715 hx hZ hown (w38 hw) e715 f1_ D
  have y721 := lP y720 X720 hx hZ e720 f2_ D
  have y722 := rP 6 54 _ [.int 0] y721 X720 hx D rfl
  exact own_retI X720 hlk y722 hx hret (D 54 rfl) (by decide) (by decide) e720 ⟨rfl, N0, rfl⟩
def Q_rmCbP (Z : State) (cm : Addr) (wv : Addr) (kc al ed x2 t1 : Addr) (k_kc k_wv k_ed k_t1 : ClassId) (xe : UInt64) (x1 : Addr) (h0 : Heap) (n0 : Nat) (v : Option Value) (h : Heap) (L : List Loc) : Prop := ∃ (ca : Addr) (k_ca : ClassId), v = some (.ref ca) ∧ Fr n0 L ∧ Keep h0 h [] ∧ n0 ≤ ca ∧ h0.size ≤ ca ∧ Arv Z h ca k_ca .double (2 : Int32) [.double 0, (.double (FP.dadd (0 : UInt64) (FP.dmul (4607182418800017408 : UInt64) xe)))] (.double 0)
theorem rmCbP (l : Launch) (Z : State) (a0 : Array Value) (hw : own_Hw a0 Z) (ws : List Jvm.Cond) (cm : Addr) (wv : Addr) (kc al ed x2 t1 : Addr) (k_kc k_wv k_ed k_t1 : ClassId) (xe : UInt64) (x1 : Addr) (h0 : Heap) (n0 : Nat) (Z0 : n0 ≤ h0.size) (f0_ : Exa Z h0 cm sC) (f1_ : Fld Z h0 cm sC "rows" "I" (.int 2)) (f2_ : Fld Z h0 cm sC "dense" "Ljava/util/List;" (.ref al)) (f3_ : Fld Z h0 cm sC "kernelColumns" "[I" (.ref kc)) (f4_ : Arv Z h0 kc k_kc .int 1 [.int 1] (.int 0)) (f5_ : Arv Z h0 wv k_wv .double (1 : Int32) [.double 4607182418800017408] (.double 0)) (f6_ : own_BA Z h0 al (.ref ed) (.int 2) (.int 2)) (f7_ : Arv Z h0 ed k_ed (.object "java/lang/Object") (10 : Int32) [.ref x1, .ref x2, .null, .null, .null, .null, .null, .null, .null, .null] .null) (f8_ : Ovr Z k_ed "java/lang/Object") (f9_ : Exa Z h0 x2 sD) (f10_ : Fld Z h0 x2 sD "entries" "[D" (.ref t1)) (f11_ : Arv Z h0 t1 k_t1 .double (2 : Int32) [.double 4607182418800017408, .double xe] (.double 0)) (ne_wv_t1 : wv ≠ t1) (ok_xe : own_ok 1 xe) : own_Met l Z own_mn24 prog_26_method_20_code 8 (some (.array .double)) ws ⟨3, 1, 2, 41⟩ #[.ref cm, .ref wv] h0 (Q_rmCbP Z cm wv kc al ed x2 t1 k_kc k_wv k_ed k_t1 xe x1 h0 n0) := by
  refine own_begS sC n0 [] #[vr cm, vr wv, un, un, un, un, un, un] oT26 (plainFor_of_name own_pn_sC) fun p e s m below meth c s₁ hx D hml hown hnm hret hlk hZ X0 e0 PS y0 N0 KK0 => ?_
  have y723 := rP 1 1 _ [.ref cm] y0 X0 hx D rfl
  obtain ⟨T724, X724, e724, y724⟩ := gP y723 X0 hx hZ hown (w47 hw) e0 f1_ D
  obtain ⟨T725, h725, k725, X725, e725, E725, A725, st725⟩ := newP (aty := .double) X724 hx hZ (w42 hw) e724 (g := (mkF m 4 #[vr cm, vr wv, un, un, un, un, un, un] [.int 2])) rfl (D 4 rfl) rfl (by decide) (cap := 2) (by decide) (by decide) (by decide) (by decide)
  obtain ⟨ca, g725⟩ : ∃ z, z = h0.size := ⟨_, rfl⟩
  rw [← g725] at A725 st725
  have g_ca : n0 ≤ ca := Nat.le_trans (Nat.le_trans Z0 KK0.1) (Nat.le_of_eq g725.symm)
  have sz_ca : h0.size ≤ ca := Nat.le_trans KK0.1 (Nat.le_of_eq g725.symm)
  have V_ca : Arv Z h725 ca k725 .double (2 : Int32) [.double 0, .double 0] (.double 0) := (Arv.new A725 (by decide)).pad (pad_rep [] (.double 0) 2)
  have y726 := fun (τ : State) kt => y724 τ (st725 τ kt)
  have f727 := f5_.ext E725
  have f728 := f2_.ext E725
  have y729 := rP 3 9 [vr cm, vr wv, vr ca, vi 0, un, un, un, un] [] y726 X725 hx D rfl
  have y730 := rP 2 11 _ [.ref wv, .int 0] y729 X725 hx D rfl
  have y731 := lP y730 X725 hx hZ e725 f727 D
  have y732 := rP 3 17 _ [.int 0, .ref wv] y731 X725 hx D rfl
  have y733 := dP y732 X725 hx hZ e725 f727 D
  have y734 := rP 4 24 [vr cm, vr wv, vr ca, vi 0, vd 4607182418800017408, .second, un, un] [(.int (cmpValue (FP.dcmp (4607182418800017408 : UInt64) (0 : UInt64)) .l))] y733 X725 hx D rfl
  have y735 := nI y734 own_q8
  have y736 := rP 2 28 _ [.ref cm] y735 X725 hx D rfl
  obtain ⟨T737, X737, e737, y737⟩ := gP y736 X725 hx hZ hown (w35 hw) e725 f728 D
  have f738 := f3_.ext E725
  have y739 := rP 1 32 _ [.ref cm, .ref al] y737 X737 hx D rfl
  obtain ⟨T740, X740, e740, y740⟩ := gP y739 X737 hx hZ hown (w40 hw) e737 f738 D
  have f741 := f4_.ext E725
  have b742 := f6_.ext E725
  have f743 := f7_.ext E725
  have K744 := KK0.ext E725
  have y747 := rP 1 36 _ [.int 0, .ref kc, .ref al] y740 X740 hx D rfl
  have y748 := iP y747 X740 hx hZ e740 f741 D
  obtain ⟨_, T746, L746, X746, ⟨rfl, Nq746, eq746⟩, y746⟩ := cF y748 X740 hx hZ hown hml.symm (own_V10 hw) (rmGet1 l Z a0 hw [] al ed k_ed x1 x2 h725 n0 (Nat.le_trans Z0 K744.1) b742 f743 f8_) 0 b742.e e740 [.int 1] [] D
  have f750 := f9_.ext E725
  obtain ⟨T749, X749, e749, st749⟩ := castY X746 hx hZ hown (w55 hw) eq746 (Ins.self f750) (g := (mkF m 42 #[vr cm, vr wv, vr ca, vi 0, vd 4607182418800017408, .second, un, un] [.ref x2])) rfl rfl (D 42 rfl)
  have y751 := fun (τ : State) kt => y746 τ (st749 τ kt)
  have f752 := f10_.ext E725
  obtain ⟨T753, X753, e753, y753⟩ := own_getS y751 X749 hx hZ hown (w166 hw) e749 f752 rfl rfl (D 45 rfl)
  have f754 := f1_.ext E725
  have y755 := rP 3 53 [vr cm, vr wv, vr ca, vi 0, vd 4607182418800017408, .second, vr t1, vi 1] [] y753 X753 hx D rfl
  have y756 := rP 2 56 _ [.ref cm, .int 1] y755 X753 hx D rfl
  obtain ⟨T757, X757, e757, y757⟩ := gP y756 X753 hx hZ hown (w47 hw) e753 f754 D
  have f758 := f11_.ext E725
  have y759 := rP 3 65 _ [.int 1, .ref ca] y757 X757 hx D rfl
  have y760 := fun (τ : State) kt => y759 τ (XT.dup2 X757.here hx rfl (D 65 rfl) rfl rfl rfl kt)
  have y761 := dP y760 X757 hx hZ e757 V_ca D
  have y762 := rP 3 73 _ [.int 1, .ref t1, .double 4607182418800017408, .double 0, .int 1, .ref ca] y761 X757 hx D rfl
  have y763 := dP y762 X757 hx hZ e757 f758 D
  have y764 := own_dmulP y763 X757 hx D (own_ok_no (own_ok_mul own_okc_4607182418800017408 ok_xe (by decide)))
  have y765 := own_daddP y764 X757 hx D (own_ok_no (own_ok_add own_okc_0 (own_ok_mul own_okc_4607182418800017408 ok_xe (by decide)) (by decide)))
  obtain ⟨T766, h766, X766, e766, W766, V766, y766⟩ := own_dstK y765 X757 hx hZ e757 V_ca rfl rfl (D 76 rfl) ⟨by decide, by decide⟩ 1 rfl (Nat.le_of_ble_eq_true rfl)
  have ne767 := own_ltn f0_.lt sz_ca
  have f768 := f754.other W766 (Or.inl ne767)
  have y769 := rP 4 56 [vr cm, vr wv, vr ca, vi 0, vd 4607182418800017408, .second, vr t1, vi 2] [.ref cm, .int 2] y766 X766 hx D rfl
  obtain ⟨T770, X770, e770, y770⟩ := gP y769 X766 hx hZ hown (w47 hw) e766 f768 D
  have ne771 := own_ltn f5_.lt sz_ca
  have f772 := f727.other W766 ne771
  have K773 := K744.wr W766 (Or.inr sz_ca)
  have y774 := rP 5 11 [vr cm, vr wv, vr ca, vi 1, vd 4607182418800017408, .second, vr t1, vi 2] [.ref wv, .int 1] y770 X770 hx D rfl
  have y775 := lP y774 X770 hx hZ e770 f772 D
  have y776 := rP 2 90 _ [.ref ca] y775 X770 hx D rfl
  exact own_retA X770 hlk y776 hx hret rfl rfl (D 90 rfl) (by decide) (by decide) e770 ⟨ca, k725, rfl, (Fr.snoc X766 (Fr.app N0 Nq746) g_ca), K773, g_ca, sz_ca, V766⟩
def Q_rmCb0 (Z : State) (cm : Addr) (wv : Addr) (k_wv : ClassId)  (h0 : Heap) (n0 : Nat) (v : Option Value) (h : Heap) (L : List Loc) : Prop := ∃ (ca : Addr) (k_ca : ClassId), v = some (.ref ca) ∧ Fr n0 L ∧ Keep h0 h [] ∧ n0 ≤ ca ∧ h0.size ≤ ca ∧ Arv Z h ca k_ca .double (2 : Int32) [.double 0, .double 0] (.double 0)
theorem rmCb0 (l : Launch) (Z : State) (a0 : Array Value) (hw : own_Hw a0 Z) (ws : List Jvm.Cond) (cm : Addr) (wv : Addr) (k_wv : ClassId)  (h0 : Heap) (n0 : Nat) (Z0 : n0 ≤ h0.size) (f0_ : Exa Z h0 cm sC) (f1_ : Fld Z h0 cm sC "rows" "I" (.int 2)) (f2_ : Arv Z h0 wv k_wv .double (1 : Int32) [.double 0] (.double 0)) : own_Met l Z own_mn24 prog_26_method_20_code 8 (some (.array .double)) ws ⟨0, 1, 2, 0⟩ #[.ref cm, .ref wv] h0 (Q_rmCb0 Z cm wv k_wv h0 n0) := by
  refine own_begS sC n0 [] #[vr cm, vr wv, un, un, un, un, un, un] oT26 (plainFor_of_name own_pn_sC) fun p e s m below meth c s₁ hx D hml hown hnm hret hlk hZ X0 e0 PS y0 N0 KK0 => ?_
  have y777 := rP 1 1 _ [.ref cm] y0 X0 hx D rfl
  obtain ⟨T778, X778, e778, y778⟩ := gP y777 X0 hx hZ hown (w47 hw) e0 f1_ D
  obtain ⟨T779, h779, k779, X779, e779, E779, A779, st779⟩ := newP (aty := .double) X778 hx hZ (w42 hw) e778 (g := (mkF m 4 #[vr cm, vr wv, un, un, un, un, un, un] [.int 2])) rfl (D 4 rfl) rfl (by decide) (cap := 2) (by decide) (by decide) (by decide) (by decide)
  obtain ⟨ca, g779⟩ : ∃ z, z = h0.size := ⟨_, rfl⟩
  rw [← g779] at A779 st779
  have g_ca : n0 ≤ ca := Nat.le_trans (Nat.le_trans Z0 KK0.1) (Nat.le_of_eq g779.symm)
  have sz_ca : h0.size ≤ ca := Nat.le_trans KK0.1 (Nat.le_of_eq g779.symm)
  have V_ca : Arv Z h779 ca k779 .double (2 : Int32) [.double 0, .double 0] (.double 0) := (Arv.new A779 (by decide)).pad (pad_rep [] (.double 0) 2)
  have y780 := fun (τ : State) kt => y778 τ (st779 τ kt)
  have f781 := f2_.ext E779
  have K782 := KK0.ext E779
  have y783 := rP 3 9 [vr cm, vr wv, vr ca, vi 0, un, un, un, un] [] y780 X779 hx D rfl
  have y784 := rP 2 11 _ [.ref wv, .int 0] y783 X779 hx D rfl
  have y785 := lP y784 X779 hx hZ e779 f781 D
  have y786 := rP 3 17 _ [.int 0, .ref wv] y785 X779 hx D rfl
  have y787 := dP y786 X779 hx hZ e779 f781 D
  have y788 := rP 4 24 [vr cm, vr wv, vr ca, vi 0, vd 0, .second, un, un] [(.int (cmpValue (FP.dcmp (0 : UInt64) (0 : UInt64)) .l))] y787 X779 hx D rfl
  have y789 := nI y788 own_q9
  have y790 := rP 5 11 [vr cm, vr wv, vr ca, vi 1, vd 0, .second, un, un] [.ref wv, .int 1] y789 X779 hx D rfl
  have y791 := lP y790 X779 hx hZ e779 f781 D
  have y792 := rP 2 90 _ [.ref ca] y791 X779 hx D rfl
  exact own_retA X779 hlk y792 hx hret rfl rfl (D 90 rfl) (by decide) (by decide) e779 ⟨ca, k779, rfl, N0, K782, g_ca, sz_ca, V_ca⟩
def Q_rmCb2 (Z : State) (cm : Addr) (wv : Addr) (kc al ed x1 x2 t0 t1 : Addr) (k_kc k_wv k_ed k_t0 k_t1 : ClassId) (xe vx : UInt64) (h0 : Heap) (n0 : Nat) (v : Option Value) (h : Heap) (L : List Loc) : Prop := ∃ (cx : UInt64) (ca : Addr) (k_ca : ClassId), v = some (.ref ca) ∧ Fr n0 L ∧ Keep h0 h [] ∧ n0 ≤ ca ∧ h0.size ≤ ca ∧ Arv Z h ca k_ca .double (2 : Int32) [.double 0, .double cx] (.double 0) ∧ own_ok 2 cx
theorem rmCb2 (l : Launch) (Z : State) (a0 : Array Value) (hw : own_Hw a0 Z) (ws : List Jvm.Cond) (cm : Addr) (wv : Addr) (kc al ed x1 x2 t0 t1 : Addr) (k_kc k_wv k_ed k_t0 k_t1 : ClassId) (xe vx : UInt64) (h0 : Heap) (n0 : Nat) (Z0 : n0 ≤ h0.size) (f0_ : Exa Z h0 cm sC) (f1_ : Fld Z h0 cm sC "rows" "I" (.int 2)) (f2_ : Fld Z h0 cm sC "dense" "Ljava/util/List;" (.ref al)) (f3_ : Fld Z h0 cm sC "kernelColumns" "[I" (.ref kc)) (f4_ : Arv Z h0 kc k_kc .int 2 [.int 1, .int 0] (.int 0)) (f5_ : Arv Z h0 wv k_wv .double (2 : Int32) [.double 4607182418800017408, .double vx] (.double 0)) (f6_ : own_BA Z h0 al (.ref ed) (.int 2) (.int 2)) (f7_ : Arv Z h0 ed k_ed (.object "java/lang/Object") (10 : Int32) [.ref x1, .ref x2, .null, .null, .null, .null, .null, .null, .null, .null] .null) (f8_ : Ovr Z k_ed "java/lang/Object") (f9_ : Exa Z h0 x1 sD) (f10_ : Fld Z h0 x1 sD "entries" "[D" (.ref t0)) (f11_ : Exa Z h0 x2 sD) (f12_ : Fld Z h0 x2 sD "entries" "[D" (.ref t1)) (f13_ : Arv Z h0 t0 k_t0 .double (2 : Int32) [.double 0, .double 4607182418800017408] (.double 0)) (f14_ : Arv Z h0 t1 k_t1 .double (2 : Int32) [.double 4607182418800017408, .double xe] (.double 0)) (ne_wv_t0 : wv ≠ t0) (ne_wv_t1 : wv ≠ t1) (ne_x1_x2 : x1 ≠ x2) (ne_t0_t1 : t0 ≠ t1) (ok_xe : own_ok 1 xe) (ok_vx : own_ok 1 vx) : own_Met l Z own_mn24 prog_26_method_20_code 8 (some (.array .double)) ws ⟨3, 1, 2, 41⟩ #[.ref cm, .ref wv] h0 (Q_rmCb2 Z cm wv kc al ed x1 x2 t0 t1 k_kc k_wv k_ed k_t0 k_t1 xe vx h0 n0) := by
  refine own_begS sC n0 [] #[vr cm, vr wv, un, un, un, un, un, un] oT26 (plainFor_of_name own_pn_sC) fun p e s m below meth c s₁ hx D hml hown hnm hret hlk hZ X0 e0 PS y0 N0 KK0 => ?_
  have y793 := rP 1 1 _ [.ref cm] y0 X0 hx D rfl
  obtain ⟨T794, X794, e794, y794⟩ := gP y793 X0 hx hZ hown (w47 hw) e0 f1_ D
  obtain ⟨T795, h795, k795, X795, e795, E795, A795, st795⟩ := newP (aty := .double) X794 hx hZ (w42 hw) e794 (g := (mkF m 4 #[vr cm, vr wv, un, un, un, un, un, un] [.int 2])) rfl (D 4 rfl) rfl (by decide) (cap := 2) (by decide) (by decide) (by decide) (by decide)
  obtain ⟨ca, g795⟩ : ∃ z, z = h0.size := ⟨_, rfl⟩
  rw [← g795] at A795 st795
  have g_ca : n0 ≤ ca := Nat.le_trans (Nat.le_trans Z0 KK0.1) (Nat.le_of_eq g795.symm)
  have sz_ca : h0.size ≤ ca := Nat.le_trans KK0.1 (Nat.le_of_eq g795.symm)
  have V_ca : Arv Z h795 ca k795 .double (2 : Int32) [.double 0, .double 0] (.double 0) := (Arv.new A795 (by decide)).pad (pad_rep [] (.double 0) 2)
  have y796 := fun (τ : State) kt => y794 τ (st795 τ kt)
  have f797 := f5_.ext E795
  have f798 := f2_.ext E795
  have y799 := rP 3 9 [vr cm, vr wv, vr ca, vi 0, un, un, un, un] [] y796 X795 hx D rfl
  have y800 := rP 2 11 _ [.ref wv, .int 0] y799 X795 hx D rfl
  have y801 := lP y800 X795 hx hZ e795 f797 D
  have y802 := rP 3 17 _ [.int 0, .ref wv] y801 X795 hx D rfl
  have y803 := dP y802 X795 hx hZ e795 f797 D
  have y804 := rP 4 24 [vr cm, vr wv, vr ca, vi 0, vd 4607182418800017408, .second, un, un] [(.int (cmpValue (FP.dcmp (4607182418800017408 : UInt64) (0 : UInt64)) .l))] y803 X795 hx D rfl
  have y805 := nI y804 own_q8
  have y806 := rP 2 28 _ [.ref cm] y805 X795 hx D rfl
  obtain ⟨T807, X807, e807, y807⟩ := gP y806 X795 hx hZ hown (w35 hw) e795 f798 D
  have f808 := f3_.ext E795
  have y809 := rP 1 32 _ [.ref cm, .ref al] y807 X807 hx D rfl
  obtain ⟨T810, X810, e810, y810⟩ := gP y809 X807 hx hZ hown (w40 hw) e807 f808 D
  have f811 := f4_.ext E795
  have b812 := f6_.ext E795
  have f813 := f7_.ext E795
  have K814 := KK0.ext E795
  have y817 := rP 1 36 _ [.int 0, .ref kc, .ref al] y810 X810 hx D rfl
  have y818 := iP y817 X810 hx hZ e810 f811 D
  obtain ⟨_, T816, L816, X816, ⟨rfl, Nq816, eq816⟩, y816⟩ := cF y818 X810 hx hZ hown hml.symm (own_V10 hw) (rmGet1 l Z a0 hw [] al ed k_ed x1 x2 h795 n0 (Nat.le_trans Z0 K814.1) b812 f813 f8_) 0 b812.e e810 [.int 1] [] D
  have f820 := f11_.ext E795
  obtain ⟨T819, X819, e819, st819⟩ := castY X816 hx hZ hown (w55 hw) eq816 (Ins.self f820) (g := (mkF m 42 #[vr cm, vr wv, vr ca, vi 0, vd 4607182418800017408, .second, un, un] [.ref x2])) rfl rfl (D 42 rfl)
  have y821 := fun (τ : State) kt => y816 τ (st819 τ kt)
  have f822 := f12_.ext E795
  obtain ⟨T823, X823, e823, y823⟩ := own_getS y821 X819 hx hZ hown (w166 hw) e819 f822 rfl rfl (D 45 rfl)
  have f824 := f1_.ext E795
  have y825 := rP 3 53 [vr cm, vr wv, vr ca, vi 0, vd 4607182418800017408, .second, vr t1, vi 1] [] y823 X823 hx D rfl
  have y826 := rP 2 56 _ [.ref cm, .int 1] y825 X823 hx D rfl
  obtain ⟨T827, X827, e827, y827⟩ := gP y826 X823 hx hZ hown (w47 hw) e823 f824 D
  have f828 := f14_.ext E795
  have y829 := rP 3 65 _ [.int 1, .ref ca] y827 X827 hx D rfl
  have y830 := fun (τ : State) kt => y829 τ (XT.dup2 X827.here hx rfl (D 65 rfl) rfl rfl rfl kt)
  have y831 := dP y830 X827 hx hZ e827 V_ca D
  have y832 := rP 3 73 _ [.int 1, .ref t1, .double 4607182418800017408, .double 0, .int 1, .ref ca] y831 X827 hx D rfl
  have y833 := dP y832 X827 hx hZ e827 f828 D
  have y834 := own_dmulP y833 X827 hx D (own_ok_no (own_ok_mul own_okc_4607182418800017408 ok_xe (by decide)))
  have y835 := own_daddP y834 X827 hx D (own_ok_no (own_ok_add own_okc_0 (own_ok_mul own_okc_4607182418800017408 ok_xe (by decide)) (by decide)))
  obtain ⟨T836, h836, X836, e836, W836, V836, y836⟩ := own_dstK y835 X827 hx hZ e827 V_ca rfl rfl (D 76 rfl) ⟨by decide, by decide⟩ 1 rfl (Nat.le_of_ble_eq_true rfl)
  have ne837 := own_ltn f0_.lt sz_ca
  have f838 := f824.other W836 (Or.inl ne837)
  have y839 := rP 4 56 [vr cm, vr wv, vr ca, vi 0, vd 4607182418800017408, .second, vr t1, vi 2] [.ref cm, .int 2] y836 X836 hx D rfl
  obtain ⟨T840, X840, e840, y840⟩ := gP y839 X836 hx hZ hown (w47 hw) e836 f838 D
  have ne841 := own_ltn f5_.lt sz_ca
  have f842 := f797.other W836 ne841
  have y843 := rP 5 11 [vr cm, vr wv, vr ca, vi 1, vd 4607182418800017408, .second, vr t1, vi 2] [.ref wv, .int 1] y840 X840 hx D rfl
  have y844 := lP y843 X840 hx hZ e840 f842 D
  have y845 := rP 3 17 _ [.int 1, .ref wv] y844 X840 hx D rfl
  have y846 := dP y845 X840 hx hZ e840 f842 D
  have y847 := rP 4 24 [vr cm, vr wv, vr ca, vi 1, vd vx, .second, vr t1, vi 2] [(.int (cmpValue (FP.dcmp vx (0 : UInt64)) .l))] y846 X840 hx D rfl
  by_cases q : (cmpValue (FP.dcmp vx (0 : UInt64)) .l) = (0 : Int32)
  · skip
    have K848 := K814.wr W836 (Or.inr sz_ca)
    have y849 := fun (τ : State) kt => y847 τ (XS.ifYes X840.here hx rfl (pc0 := 24) (pc' := 83) rfl (D 24 rfl) rfl ((if0 _ _).trans (teq q).1) (by decide) (by decide) kt)
    have y850 := rP 4 11 [vr cm, vr wv, vr ca, vi 2, vd vx, .second, vr t1, vi 2] [.ref wv, .int 2] y849 X840 hx D rfl
    have y851 := lP y850 X840 hx hZ e840 f842 D
    have y852 := rP 2 90 _ [.ref ca] y851 X840 hx D rfl
    exact own_retA X840 hlk y852 hx hret rfl rfl (D 90 rfl) (by decide) (by decide) e840 ⟨(FP.dadd (0 : UInt64) (FP.dmul (4607182418800017408 : UInt64) xe)), ca, k795, rfl, (Fr.snoc X836 (Fr.app N0 Nq816) g_ca), K848, g_ca, sz_ca, V836, (own_ok_mono (own_ok_add own_okc_0 (own_ok_mul own_okc_4607182418800017408 ok_xe (by decide)) (by decide)) (by decide))⟩
  · skip
    have f853 := f798.other W836 (Or.inl ne837)
    have y854 := fun (τ : State) kt => y847 τ (XS.ifNo X840.here hx rfl (D 24 rfl) rfl ((if0 _ _).trans (feq q).1) kt)
    have y855 := rP 1 28 _ [.ref cm] y854 X840 hx D rfl
    obtain ⟨T856, X856, e856, y856⟩ := gP y855 X840 hx hZ hown (w35 hw) e840 f853 D
    have f857 := f808.other W836 (Or.inl ne837)
    have y858 := rP 1 32 _ [.ref cm, .ref al] y856 X856 hx D rfl
    obtain ⟨T859, X859, e859, y859⟩ := gP y858 X856 hx hZ hown (w40 hw) e856 f857 D
    have ne860 := own_ltn f4_.lt sz_ca
    have f861 := f811.other W836 ne860
    have ne862 := own_ltn f6_.e.lt sz_ca
    have b863 := b812.other W836 ne862
    have ne864 := own_ltn f7_.lt sz_ca
    have f865 := f813.other W836 ne864
    have K866 := K814.wr W836 (Or.inr sz_ca)
    have y869 := rP 1 36 _ [.int 1, .ref kc, .ref al] y859 X859 hx D rfl
    have y870 := iP y869 X859 hx hZ e859 f861 D
    obtain ⟨_, T868, L868, X868, ⟨rfl, Nq868, eq868⟩, y868⟩ := cF y870 X859 hx hZ hown hml.symm (own_V10 hw) (rmGet0 l Z a0 hw [] al ed k_ed x1 x2 h836 n0 (Nat.le_trans Z0 K866.1) b863 f865 f8_) 0 b863.e e859 [.int 0] [] D
    have f872 := f9_.keep K866
    obtain ⟨T871, X871, e871, st871⟩ := castY X868 hx hZ hown (w55 hw) eq868 (Ins.self f872) (g := (mkF m 42 #[vr cm, vr wv, vr ca, vi 1, vd vx, .second, vr t1, vi 2] [.ref x1])) rfl rfl (D 42 rfl)
    have y873 := fun (τ : State) kt => y868 τ (st871 τ kt)
    have ni875 : x1 ∉ [] := nin0
    have f874 := f10_.keep K866 ni875
    obtain ⟨T876, X876, e876, y876⟩ := own_getS y873 X871 hx hZ hown (w166 hw) e871 f874 rfl rfl (D 45 rfl)
    have y877 := rP 3 53 [vr cm, vr wv, vr ca, vi 1, vd vx, .second, vr t0, vi 1] [] y876 X876 hx D rfl
    have y878 := rP 2 56 _ [.ref cm, .int 1] y877 X876 hx D rfl
    obtain ⟨T879, X879, e879, y879⟩ := gP y878 X876 hx hZ hown (w47 hw) e876 f838 D
    have ni881 : t0 ∉ [] := nin0
    have f880 := f13_.keep K866 ni881
    have y882 := rP 3 65 _ [.int 1, .ref ca] y879 X879 hx D rfl
    have y883 := fun (τ : State) kt => y882 τ (XT.dup2 X879.here hx rfl (D 65 rfl) rfl rfl rfl kt)
    have y884 := dP y883 X879 hx hZ e879 V836 D
    have y885 := rP 3 73 _ [.int 1, .ref t0, .double vx, (.double (FP.dadd (0 : UInt64) (FP.dmul (4607182418800017408 : UInt64) xe))), .int 1, .ref ca] y884 X879 hx D rfl
    have y886 := dP y885 X879 hx hZ e879 f880 D
    have y887 := own_dmulP y886 X879 hx D (own_ok_no (own_ok_mul ok_vx own_okc_4607182418800017408 (by decide)))
    have y888 := own_daddP y887 X879 hx D (own_ok_no (own_ok_add (own_ok_add own_okc_0 (own_ok_mul own_okc_4607182418800017408 ok_xe (by decide)) (by decide)) (own_ok_mul ok_vx own_okc_4607182418800017408 (by decide)) (by decide)))
    obtain ⟨T889, h889, X889, e889, W889, V889, y889⟩ := own_dstK y888 X879 hx hZ e879 V836 rfl rfl (D 76 rfl) ⟨by decide, by decide⟩ 1 rfl (Nat.le_of_ble_eq_true rfl)
    have f890 := f838.other W889 (Or.inl ne837)
    have y891 := rP 4 56 [vr cm, vr wv, vr ca, vi 1, vd vx, .second, vr t0, vi 2] [.ref cm, .int 2] y889 X889 hx D rfl
    obtain ⟨T892, X892, e892, y892⟩ := gP y891 X889 hx hZ hown (w47 hw) e889 f890 D
    have f893 := f842.other W889 ne841
    have K894 := K866.wr W889 (Or.inr sz_ca)
    have y895 := rP 5 11 [vr cm, vr wv, vr ca, vi 2, vd vx, .second, vr t0, vi 2] [.ref wv, .int 2] y892 X892 hx D rfl
    have y896 := lP y895 X892 hx hZ e892 f893 D
    have y897 := rP 2 90 _ [.ref ca] y896 X892 hx D rfl
    exact own_retA X892 hlk y897 hx hret rfl rfl (D 90 rfl) (by decide) (by decide) e892 ⟨(FP.dadd (FP.dadd (0 : UInt64) (FP.dmul (4607182418800017408 : UInt64) xe)) (FP.dmul vx (4607182418800017408 : UInt64))), ca, k795, rfl, (Fr.snoc X889 (Fr.app (Fr.snoc X836 (Fr.app N0 Nq816) g_ca) Nq868) g_ca), K894, g_ca, sz_ca, V889, (own_ok_mono (own_ok_add (own_ok_add own_okc_0 (own_ok_mul own_okc_4607182418800017408 ok_xe (by decide)) (by decide)) (own_ok_mul ok_vx own_okc_4607182418800017408 (by decide)) (by decide)) (by decide))⟩
def Q_rmSw1 (Z : State) (mm : Addr) (r0 : Addr) (k_mm k_r0 : ClassId) (b0 : UInt64) (h0 : Heap) (n0 : Nat) (v : Option Value) (h : Heap) (L : List Loc) : Prop := v = none ∧ Fr n0 L ∧ Keep h0 h [mm] ∧ Arv Z h mm k_mm (.array .double) (1 : Int32) [.ref r0] .null ∧ OvrA Z k_mm .double "[D" ∧ Exa Z h mm "[[D"
theorem own_pn_sB : plainName sB = true := by first | (simp [plainName, overriddenIn]; done) | decide +kernel
theorem rmSw1 (l : Launch) (Z : State) (a0 : Array Value) (hw : own_Hw a0 Z) (ws : List Jvm.Cond) (mm : Addr) (r0 : Addr) (k_mm k_r0 : ClassId) (b0 : UInt64) (h0 : Heap) (n0 : Nat) (Z0 : n0 ≤ h0.size) (f0_ : Arv Z h0 mm k_mm (.array .double) (1 : Int32) [.ref r0] .null) (f1_ : OvrA Z k_mm .double "[D") (f2_ : Exa Z h0 mm "[[D") (f3_ : Arv Z h0 r0 k_r0 .double (1 : Int32) [.double b0] (.double 0)) (f4_ : Exa Z h0 r0 "[D") (gg_mm : n0 ≤ mm) : own_Met l Z own_mn25 prog_21_method_4_code 4 none ws ⟨0, 0, 0, 0⟩ #[.ref mm, .int 0, .int 0] h0 (Q_rmSw1 Z mm r0 k_mm k_r0 b0 h0 n0) := by
  refine own_begS sB n0 [mm] #[vr mm, vi 0, vi 0, un] oT24 (plainFor_of_name own_pn_sB) fun p e s m below meth c s₁ hx D hml hown hnm hret hlk hZ X0 e0 PS y0 N0 KK0 => ?_
  obtain ⟨cl898, Ar898, q898, S898, M898, H898, U898⟩ := id f0_
  obtain ⟨T899, h899, X899, e899, W899, st899⟩ := stR X0 hx hZ e0 Ar898 (j := (0 : Int32)) (inb_of S898 ⟨by decide, by decide⟩) rfl (Sto.ofVA Ar898 q898 f1_ (Ins.self f4_)) (g := (mkF m 9 #[vr mm, vi 0, vi 0, vr r0] [.ref r0, .int 0, .ref mm])) rfl rfl (D 9 rfl)
  have V899 : Arv Z h899 mm k_mm (.array .double) (1 : Int32) [.ref r0] .null := Arv.set Ar898 q898 S898 M898 H898 U898 rfl W899 0 rfl (Nat.le_of_ble_eq_true rfl)
  have N899 := Fr.snoc X899 N0 gg_mm
  have y900 := rP 2 2 _ [.int 0, .ref mm] y0 X0 hx D rfl
  have y901 := aP y900 X0 hx hZ e0 f0_ D
  have y902 := rP 5 8 [vr mm, vi 0, vi 0, vr r0] [.int 0, .ref mm, .int 0, .ref mm] y901 X0 hx D rfl
  have y903 := aP y902 X0 hx hZ e0 f0_ D
  have y904 := fun (τ : State) kt => y903 τ (st899 τ kt)
  obtain ⟨cl905, Ar905, q905, S905, M905, H905, U905⟩ := id V899
  have f907 := f4_.wr W899
  obtain ⟨T906, h906, X906, e906, W906, st906⟩ := stR X899 hx hZ e899 Ar905 (j := (0 : Int32)) (inb_of S905 ⟨by decide, by decide⟩) rfl (Sto.ofVA Ar905 q905 f1_ (Ins.self f907)) (g := (mkF m 13 #[vr mm, vi 0, vi 0, vr r0] [.ref r0, .int 0, .ref mm])) rfl rfl (D 13 rfl)
  have V906 : Arv Z h906 mm k_mm (.array .double) (1 : Int32) [.ref r0] .null := Arv.set Ar905 q905 S905 M905 H905 U905 rfl W906 0 rfl (Nat.le_of_ble_eq_true rfl)
  have N906 := Fr.snoc X906 N899 gg_mm
  have y908 := rP 3 13 _ [.ref r0, .int 0, .ref mm] y904 X899 hx D rfl
  have y909 := fun (τ : State) kt => y908 τ (st906 τ kt)
  have K910 := (KK0.wr W899 (Or.inl (by simp))).wr W906 (Or.inl (by simp))
  have f911 := f2_.keep K910
  exact own_retV X906 hlk y909 hx hret (D 14 rfl) (by decide) (by decide) e906 ⟨rfl, N906, K910, V906, f1_, f911⟩
def Q_rmSw20 (Z : State) (mm : Addr) (r0 : Addr) (k_mm k_r0 : ClassId) (b0 b1 : UInt64) (r1 : Addr) (h0 : Heap) (n0 : Nat) (v : Option Value) (h : Heap) (L : List Loc) : Prop := v = none ∧ Fr n0 L ∧ Keep h0 h [mm] ∧ Arv Z h mm k_mm (.array .double) (2 : Int32) [.ref r0, .ref r1] .null ∧ OvrA Z k_mm .double "[D" ∧ Exa Z h mm "[[D"
theorem rmSw20 (l : Launch) (Z : State) (a0 : Array Value) (hw : own_Hw a0 Z) (ws : List Jvm.Cond) (mm : Addr) (r0 : Addr) (k_mm k_r0 : ClassId) (b0 b1 : UInt64) (r1 : Addr) (h0 : Heap) (n0 : Nat) (Z0 : n0 ≤ h0.size) (f0_ : Arv Z h0 mm k_mm (.array .double) (2 : Int32) [.ref r0, .ref r1] .null) (f1_ : OvrA Z k_mm .double "[D") (f2_ : Exa Z h0 mm "[[D") (f3_ : Arv Z h0 r0 k_r0 .double (2 : Int32) [.double b0, .double b1] (.double 0)) (f4_ : Exa Z h0 r0 "[D") (gg_mm : n0 ≤ mm) : own_Met l Z own_mn25 prog_21_method_4_code 4 none ws ⟨0, 0, 0, 0⟩ #[.ref mm, .int 0, .int 0] h0 (Q_rmSw20 Z mm r0 k_mm k_r0 b0 b1 r1 h0 n0) := by
  refine own_begS sB n0 [mm] #[vr mm, vi 0, vi 0, un] oT24 (plainFor_of_name own_pn_sB) fun p e s m below meth c s₁ hx D hml hown hnm hret hlk hZ X0 e0 PS y0 N0 KK0 => ?_
  obtain ⟨cl912, Ar912, q912, S912, M912, H912, U912⟩ := id f0_
  obtain ⟨T913, h913, X913, e913, W913, st913⟩ := stR X0 hx hZ e0 Ar912 (j := (0 : Int32)) (inb_of S912 ⟨by decide, by decide⟩) rfl (Sto.ofVA Ar912 q912 f1_ (Ins.self f4_)) (g := (mkF m 9 #[vr mm, vi 0, vi 0, vr r0] [.ref r0, .int 0, .ref mm])) rfl rfl (D 9 rfl)
  have V913 : Arv Z h913 mm k_mm (.array .double) (2 : Int32) [.ref r0, .ref r1] .null := Arv.set Ar912 q912 S912 M912 H912 U912 rfl W913 0 rfl (Nat.le_of_ble_eq_true rfl)
  have N913 := Fr.snoc X913 N0 gg_mm
  have y914 := rP 2 2 _ [.int 0, .ref mm] y0 X0 hx D rfl
  have y915 := aP y914 X0 hx hZ e0 f0_ D
  have y916 := rP 5 8 [vr mm, vi 0, vi 0, vr r0] [.int 0, .ref mm, .int 0, .ref mm] y915 X0 hx D rfl
  have y917 := aP y916 X0 hx hZ e0 f0_ D
  have y918 := fun (τ : State) kt => y917 τ (st913 τ kt)
  obtain ⟨cl919, Ar919, q919, S919, M919, H919, U919⟩ := id V913
  have f921 := f4_.wr W913
  obtain ⟨T920, h920, X920, e920, W920, st920⟩ := stR X913 hx hZ e913 Ar919 (j := (0 : Int32)) (inb_of S919 ⟨by decide, by decide⟩) rfl (Sto.ofVA Ar919 q919 f1_ (Ins.self f921)) (g := (mkF m 13 #[vr mm, vi 0, vi 0, vr r0] [.ref r0, .int 0, .ref mm])) rfl rfl (D 13 rfl)
  have V920 : Arv Z h920 mm k_mm (.array .double) (2 : Int32) [.ref r0, .ref r1] .null := Arv.set Ar919 q919 S919 M919 H919 U919 rfl W920 0 rfl (Nat.le_of_ble_eq_true rfl)
  have N920 := Fr.snoc X920 N913 gg_mm
  have y922 := rP 3 13 _ [.ref r0, .int 0, .ref mm] y918 X913 hx D rfl
  have y923 := fun (τ : State) kt => y922 τ (st920 τ kt)
  have K924 := (KK0.wr W913 (Or.inl (by simp))).wr W920 (Or.inl (by simp))
  have f925 := f2_.keep K924
  exact own_retV X920 hlk y923 hx hret (D 14 rfl) (by decide) (by decide) e920 ⟨rfl, N920, K924, V920, f1_, f925⟩
def Q_rmSw21 (Z : State) (mm : Addr) (r1 : Addr) (k_mm k_r1 : ClassId) (b0 b1 : UInt64) (r0 : Addr) (h0 : Heap) (n0 : Nat) (v : Option Value) (h : Heap) (L : List Loc) : Prop := v = none ∧ Fr n0 L ∧ Keep h0 h [mm] ∧ Arv Z h mm k_mm (.array .double) (2 : Int32) [.ref r0, .ref r1] .null ∧ OvrA Z k_mm .double "[D" ∧ Exa Z h mm "[[D"
theorem rmSw21 (l : Launch) (Z : State) (a0 : Array Value) (hw : own_Hw a0 Z) (ws : List Jvm.Cond) (mm : Addr) (r1 : Addr) (k_mm k_r1 : ClassId) (b0 b1 : UInt64) (r0 : Addr) (h0 : Heap) (n0 : Nat) (Z0 : n0 ≤ h0.size) (f0_ : Arv Z h0 mm k_mm (.array .double) (2 : Int32) [.ref r0, .ref r1] .null) (f1_ : OvrA Z k_mm .double "[D") (f2_ : Exa Z h0 mm "[[D") (f3_ : Arv Z h0 r1 k_r1 .double (2 : Int32) [.double b0, .double b1] (.double 0)) (f4_ : Exa Z h0 r1 "[D") (gg_mm : n0 ≤ mm) : own_Met l Z own_mn25 prog_21_method_4_code 4 none ws ⟨0, 0, 0, 0⟩ #[.ref mm, .int 1, .int 1] h0 (Q_rmSw21 Z mm r1 k_mm k_r1 b0 b1 r0 h0 n0) := by
  refine own_begS sB n0 [mm] #[vr mm, vi 1, vi 1, un] oT24 (plainFor_of_name own_pn_sB) fun p e s m below meth c s₁ hx D hml hown hnm hret hlk hZ X0 e0 PS y0 N0 KK0 => ?_
  obtain ⟨cl926, Ar926, q926, S926, M926, H926, U926⟩ := id f0_
  obtain ⟨T927, h927, X927, e927, W927, st927⟩ := stR X0 hx hZ e0 Ar926 (j := (1 : Int32)) (inb_of S926 ⟨by decide, by decide⟩) rfl (Sto.ofVA Ar926 q926 f1_ (Ins.self f4_)) (g := (mkF m 9 #[vr mm, vi 1, vi 1, vr r1] [.ref r1, .int 1, .ref mm])) rfl rfl (D 9 rfl)
  have V927 : Arv Z h927 mm k_mm (.array .double) (2 : Int32) [.ref r0, .ref r1] .null := Arv.set Ar926 q926 S926 M926 H926 U926 rfl W927 1 rfl (Nat.le_of_ble_eq_true rfl)
  have N927 := Fr.snoc X927 N0 gg_mm
  have y928 := rP 2 2 _ [.int 1, .ref mm] y0 X0 hx D rfl
  have y929 := aP y928 X0 hx hZ e0 f0_ D
  have y930 := rP 5 8 [vr mm, vi 1, vi 1, vr r1] [.int 1, .ref mm, .int 1, .ref mm] y929 X0 hx D rfl
  have y931 := aP y930 X0 hx hZ e0 f0_ D
  have y932 := fun (τ : State) kt => y931 τ (st927 τ kt)
  obtain ⟨cl933, Ar933, q933, S933, M933, H933, U933⟩ := id V927
  have f935 := f4_.wr W927
  obtain ⟨T934, h934, X934, e934, W934, st934⟩ := stR X927 hx hZ e927 Ar933 (j := (1 : Int32)) (inb_of S933 ⟨by decide, by decide⟩) rfl (Sto.ofVA Ar933 q933 f1_ (Ins.self f935)) (g := (mkF m 13 #[vr mm, vi 1, vi 1, vr r1] [.ref r1, .int 1, .ref mm])) rfl rfl (D 13 rfl)
  have V934 : Arv Z h934 mm k_mm (.array .double) (2 : Int32) [.ref r0, .ref r1] .null := Arv.set Ar933 q933 S933 M933 H933 U933 rfl W934 1 rfl (Nat.le_of_ble_eq_true rfl)
  have N934 := Fr.snoc X934 N927 gg_mm
  have y936 := rP 3 13 _ [.ref r1, .int 1, .ref mm] y932 X927 hx D rfl
  have y937 := fun (τ : State) kt => y936 τ (st934 τ kt)
  have K938 := (KK0.wr W927 (Or.inl (by simp))).wr W934 (Or.inl (by simp))
  have f939 := f2_.keep K938
  exact own_retV X934 hlk y937 hx hret (D 14 rfl) (by decide) (by decide) e934 ⟨rfl, N934, K938, V934, f1_, f939⟩
def Q_rmOf1 (Z : State) (bs : Addr) (q0 : Addr) (k_bs k_q0 : ClassId)  (h0 : Heap) (n0 : Nat) (v : Option Value) (h : Heap) (L : List Loc) : Prop := ∃ (iv : Addr) (i0 : Addr) (k_iv : ClassId) (k_i0 : ClassId), v = some (.ref iv) ∧ Fr n0 L ∧ Keep h0 h [] ∧ n0 ≤ iv ∧ h0.size ≤ iv ∧ n0 ≤ i0 ∧ h0.size ≤ i0 ∧ Arv Z h iv k_iv (.array .double) (1 : Int32) [.ref i0] .null ∧ OvrA Z k_iv .double "[D" ∧ Exa Z h iv "[[D" ∧ Arv Z h i0 k_i0 .double (1 : Int32) [.double 4607182418800017408] (.double 0) ∧ Exa Z h i0 "[D"
theorem rmOf1 (l : Launch) (Z : State) (a0 : Array Value) (hw : own_Hw a0 Z) (ws : List Jvm.Cond) (bs : Addr) (q0 : Addr) (k_bs k_q0 : ClassId)  (h0 : Heap) (n0 : Nat) (Z0 : n0 ≤ h0.size) (f0_ : Arv Z h0 bs k_bs (.array .double) (1 : Int32) [.ref q0] .null) (f1_ : OvrA Z k_bs .double "[D") (f2_ : Exa Z h0 bs "[[D") (f3_ : Arv Z h0 q0 k_q0 .double (1 : Int32) [.double 4607182418800017408] (.double 0)) (f4_ : Exa Z h0 q0 "[D") : own_Met l Z own_mn26 prog_21_method_2_code 12 (some (.array (.array .double))) ws ⟨1, 4, 4, 16⟩ #[.ref bs] h0 (Q_rmOf1 Z bs q0 k_bs k_q0 h0 n0) := by
  refine own_begS sB n0 [] #[vr bs, un, un, un, un, un, un, un, un, un, un, un] oT23 (plainFor_of_name own_pn_sB) fun p e s m below meth c s₁ hx D hml hown hnm hret hlk hZ X0 e0 PS y0 N0 KK0 => ?_
  obtain ⟨T940, h940, k940, X940, e940, E940, A940, EX940, O940, st940⟩ := newRA X0 hx hZ hown (C := "[D") (ty := .double) (by decide) (w171 hw) (w143 hw) e0 (g := (mkF m 4 #[vr bs, vi 1, un, un, un, un, un, un, un, un, un, un] [.int 1])) rfl (D 4 rfl) rfl (by decide) (cap := 1) (by decide) (by decide) (by decide) (by decide) (ad := "[[D") (by decide)
  obtain ⟨mt, g940⟩ : ∃ z, z = h0.size := ⟨_, rfl⟩
  rw [← g940] at A940 EX940 st940
  have g_mt : n0 ≤ mt := Nat.le_trans (Nat.le_trans Z0 KK0.1) (Nat.le_of_eq g940.symm)
  have sz_mt : h0.size ≤ mt := Nat.le_trans KK0.1 (Nat.le_of_eq g940.symm)
  have V_mt : Arv Z h940 mt k940 (.array .double) (1 : Int32) [.null] .null := (Arv.new A940 (by decide)).pad (pad_rep [] .null 1)
  have y941 := rP 1 1 _ [.ref bs] y0 X0 hx D rfl
  have y942 := lP y941 X0 hx hZ e0 f0_ D
  have y943 := rP 1 3 [vr bs, vi 1, un, un, un, un, un, un, un, un, un, un] [] y942 X0 hx D rfl
  have y944 := rP 1 4 _ [.int 1] y943 X0 hx D rfl
  have y945 := fun (τ : State) kt => y944 τ (st940 τ kt)
  obtain ⟨T946, h946, cA946, cm946, X946, e946, E946, A946, O946, EX946, RW946, st946⟩ := gridM X940 hx hZ hown (C := "[D") (ad := "[[D") (ty := .double) (by decide) (by decide) (w172 hw) (w143 hw) (w42 hw) e940 (g := (mkF m 10 #[vr bs, vi 1, vr mt, un, un, un, un, un, un, un, un, un] [.int 1, .int 1])) rfl (D 10 rfl) rfl (by decide) (by decide) (N := 1) rfl rfl (cap := 1) (by decide) (by decide) (by decide) rfl rfl (by decide) (by decide)
  obtain ⟨iv, g946⟩ : ∃ z, z = h940.size := ⟨_, rfl⟩
  obtain ⟨i0, g946_0⟩ : ∃ z, z = h940.size + 1 + 0 := ⟨_, rfl⟩
  have V_iv : Arv Z h946 iv cA946 (.array .double) (1 : Int32) [.ref i0] .null := by rw [g946, g946_0]; exact A946
  have EX_iv : Exa Z h946 iv "[[D" := by rw [g946]; exact EX946
  rw [← g946] at st946
  have RR946_0 := RW946 0 i0 (by rw [g946_0]; rfl)
  have V_i0 : Arv Z h946 i0 cm946 .double (1 : Int32) [.double 0] (.double 0) := (Arv.new RR946_0.1 (by decide)).pad (pad_rep [] (.double 0) 1)
  have K947 := KK0.ext E940
  have g_iv : n0 ≤ iv := Nat.le_trans (Nat.le_trans Z0 K947.1) (Nat.le_of_eq g946.symm)
  have sz_iv : h0.size ≤ iv := Nat.le_trans K947.1 (Nat.le_of_eq g946.symm)
  have le_i0 : h940.size ≤ i0 := by omega
  have g_i0 : n0 ≤ i0 := Nat.le_trans (Nat.le_trans Z0 K947.1) (le_i0)
  have sz_i0 : h0.size ≤ i0 := Nat.le_trans K947.1 (le_i0)
  have ne_iv_i0 : iv ≠ i0 := by omega
  have y948 := rP 1 8 [vr bs, vi 1, vr mt, un, un, un, un, un, un, un, un, un] [] y945 X940 hx D rfl
  have y949 := rP 2 10 _ [.int 1, .int 1] y948 X940 hx D rfl
  have y950 := fun (τ : State) kt => y949 τ (st946 τ kt)
  have K951 := K947.ext E946
  have ni953 : bs ∉ [] := nin0
  have f952 := f0_.keep K951 ni953
  have ni956 : q0 ∉ [] := nin0
  have f955 := f3_.keep K951 ni956
  have f957 := f4_.keep K951
  obtain ⟨T954, h954, X954, e954, E954, A954, EX954, st954⟩ := cloneH (ad := "[D") X946 hx hZ hown (w173 hw) (w174 hw) (w178 hw) (w176 hw) (w177 hw) (w179 hw) e946 (Arv.arh f955) f957 (g := (mkF m 31 #[vr bs, vi 1, vr mt, vr iv, vi 0, un, un, un, un, un, un, un] [.ref q0, .int 0, .ref mt])) rfl hml.symm (rest := [.int 0, .ref mt]) rfl (D 31 rfl) (by decide) (W := 2) (cap := 1) (by show 2 * 0 + _ ≤ _; exact Nat.le_of_eq rfl) (by decide) (by decide) (by decide) (by decide)
  obtain ⟨m0, g954⟩ : ∃ z, z = h946.size := ⟨_, rfl⟩
  rw [← g954] at A954 EX954 st954
  have g_m0 : n0 ≤ m0 := Nat.le_trans (Nat.le_trans Z0 K951.1) (Nat.le_of_eq g954.symm)
  have sz_m0 : h0.size ≤ m0 := Nat.le_trans K951.1 (Nat.le_of_eq g954.symm)
  have V_m0 : Arv Z h954 m0 k_q0 .double (1 : Int32) [.double 4607182418800017408] (.double 0) := A954
  have y958 := rP 1 15 [vr bs, vi 1, vr mt, vr iv, un, un, un, un, un, un, un, un] [] y950 X946 hx D rfl
  have y959 := rP 2 18 [vr bs, vi 1, vr mt, vr iv, vi 0, un, un, un, un, un, un, un] [] y958 X946 hx D rfl
  have y960 := rP 7 30 _ [.int 0, .ref bs, .int 0, .ref mt] y959 X946 hx D rfl
  have y961 := aP y960 X946 hx hZ e946 f952 D
  have y962 := fun (τ : State) kt => y961 τ (st954 τ kt)
  obtain ⟨T963, X963, e963, st963⟩ := castY X954 hx hZ hown (w171 hw) e954 (Ins.self EX954) (g := (mkF m 34 #[vr bs, vi 1, vr mt, vr iv, vi 0, un, un, un, un, un, un, un] [.ref m0, .int 0, .ref mt])) rfl rfl (D 34 rfl)
  have y964 := fun (τ : State) kt => y962 τ (st963 τ kt)
  have f965 := (V_mt.ext E946).ext E954
  obtain ⟨cl966, Ar966, q966, S966, M966, H966, U966⟩ := id f965
  obtain ⟨T967, h967, X967, e967, W967, st967⟩ := stR X963 hx hZ e963 Ar966 (j := (0 : Int32)) (inb_of S966 ⟨by decide, by decide⟩) rfl (Sto.ofVA Ar966 q966 O940 (Ins.self EX954)) (g := (mkF m 37 #[vr bs, vi 1, vr mt, vr iv, vi 0, un, un, un, un, un, un, un] [.ref m0, .int 0, .ref mt])) rfl rfl (D 37 rfl)
  have V967 : Arv Z h967 mt k940 (.array .double) (1 : Int32) [.ref m0] .null := Arv.set Ar966 q966 S966 M966 H966 U966 rfl W967 0 rfl (Nat.le_of_ble_eq_true rfl)
  have N967 := Fr.snoc X967 N0 g_mt
  have y968 := fun (τ : State) kt => y964 τ (st967 τ kt)
  have ne969 := own_ltn V_mt.lt (Nat.le_of_eq g946.symm)
  have f970 := (V_iv.ext E954).other W967 (Ne.symm ne969)
  have ne971 := own_ltn V_mt.lt le_i0
  have f972 := (V_i0.ext E954).other W967 (Ne.symm ne971)
  have y973 := rP 2 41 _ [.int 0, .ref iv] y968 X967 hx D rfl
  have y974 := aP y973 X967 hx hZ e967 f970 D
  have y975 := rP 2 45 _ [.double 4607182418800017408, .int 0, .ref i0] y974 X967 hx D rfl
  obtain ⟨T976, h976, X976, e976, W976, V976, y976⟩ := own_dstK y975 X967 hx hZ e967 f972 rfl rfl (D 45 rfl) ⟨by decide, by decide⟩ 0 rfl (Nat.le_of_ble_eq_true rfl)
  have f977 := V967.other W976 ne971
  have ne978 := own_ltn (own_up V_mt.lt E946.1) (Nat.le_of_eq g954.symm)
  have ne979 := own_ltn V_i0.lt (Nat.le_of_eq g954.symm)
  have f980 := (V_m0.other W967 (Ne.symm ne978)).other W976 (Ne.symm ne979)
  have f981 := (((EX940.ext E946).ext E954).wr W967).wr W976
  have f982 := (EX954.wr W967).wr W976
  have K983 := ((K951.ext E954).wr W967 (Or.inr sz_mt)).wr W976 (Or.inr sz_i0)
  have y986 := rP 1 49 [vr bs, vi 1, vr mt, vr iv, vi 1, un, un, un, un, un, un, un] [] y976 X976 hx D rfl
  have y987 := rP 6 55 [vr bs, vi 1, vr mt, vr iv, vi 0, un, un, un, un, un, un, un] [] y986 X976 hx D rfl
  have y988 := rP 5 65 [vr bs, vi 1, vr mt, vr iv, vi 0, vi 0, un, un, un, un, un, un] [] y987 X976 hx D rfl
  have y989 := rP 4 71 [vr bs, vi 1, vr mt, vr iv, vi 0, vi 0, vi 1, un, un, un, un, un] [] y988 X976 hx D rfl
  have y990 := rP 5 114 _ [.int 0, .ref mt] y989 X976 hx D rfl
  have y991 := aP y990 X976 hx hZ e976 f977 D
  have y992 := rP 1 117 _ [.int 0, .ref m0] y991 X976 hx D rfl
  have y993 := dP y992 X976 hx hZ e976 f980 D
  have y994 := rP 2 120 _ [(.int (cmpValue (FP.dcmp (4607182418800017408 : UInt64) (0 : UInt64)) .l))] y993 X976 hx D rfl
  have y995 := nI y994 own_q8
  have y996 := rP 4 138 _ [.int 0, .int 0, .ref mt] y995 X976 hx D rfl
  obtain ⟨_, T985, L985, X985, ⟨rfl, Nq985, Kq985, p984_0, p984_1, p984_2⟩, y985⟩ := cS y996 X976 hx hZ hown hml.symm (own_V11 hw) (rmSw1 l Z a0 hw [] mt m0 k940 k_q0 (4607182418800017408 : UInt64) h976 n0 (Nat.le_trans Z0 K983.1) f977 O940 f981 f980 f982 g_mt) 0 e976 [.ref mt, .int 0, .int 0] [] D
  have f997 := (f970.other W976 ne_iv_i0).keep Kq985 (ninS (Ne.symm ne969) nin0)
  have f998 := (((EX_iv.ext E954).wr W967).wr W976).keep Kq985
  have f999 := V976.keep Kq985 (ninS (Ne.symm ne971) nin0)
  have f1000 := (((RR946_0.2.ext E954).wr W967).wr W976).keep Kq985
  have K1001 := K983.trans Kq985 (allS (Or.inr sz_mt) (all0))
  have y1004 := rP 3 146 _ [.int 0, .int 0, .ref iv] y985 X985 hx D rfl
  obtain ⟨_, T1003, L1003, X1003, ⟨rfl, Nq1003, Kq1003, p1002_0, p1002_1, p1002_2⟩, y1003⟩ := cS y1004 X985 hx hZ hown hml.symm (own_V11 hw) (rmSw1 l Z a0 hw [] iv i0 cA946 cm946 (4607182418800017408 : UInt64) T985.heap n0 (Nat.le_trans Z0 K1001.1) f997 O946 f998 f999 f1000 g_iv) 0 rfl [.ref iv, .int 0, .int 0] [] D
  have f1005 := p984_0.keep Kq1003 (ninS ne969 nin0)
  have ne1006 := own_ltn V_iv.lt (Nat.le_of_eq g954.symm)
  have f1007 := (f980.keep Kq985 (ninS (Ne.symm ne978) nin0)).keep Kq1003 (ninS (Ne.symm ne1006) nin0)
  have y1008 := rP 2 152 _ [.int 0, .ref mt] y1003 X1003 hx D rfl
  have y1009 := aP y1008 X1003 hx hZ rfl f1005 D
  have y1010 := rP 1 155 _ [.int 0, .ref m0] y1009 X1003 hx D rfl
  have y1011 := dP y1010 X1003 hx hZ rfl f1007 D
  have y1012 := rP 1 158 [vr bs, vi 1, vr mt, vr iv, vi 0, vi 0, vd 4607182418800017408, .second, un, un, un, un] [] y1011 X1003 hx D rfl
  have y1013 := rP 2 161 [vr bs, vi 1, vr mt, vr iv, vi 0, vi 0, vd 4607182418800017408, .second, vi 0, un, un, un] [] y1012 X1003 hx D rfl
  have y1014 := rP 5 170 _ [.int 0, .ref mt] y1013 X1003 hx D rfl
  have y1015 := aP y1014 X1003 hx hZ rfl f1005 D
  have y1016 := rP 1 173 _ [.int 0, .ref m0] y1015 X1003 hx D rfl
  have y1017 := fun (τ : State) kt => y1016 τ (XT.dup2 X1003.here hx rfl (D 173 rfl) rfl rfl rfl kt)
  have y1018 := dP y1017 X1003 hx hZ rfl f1007 D
  have y1019 := rP 1 177 _ [.double 4607182418800017408, .double 4607182418800017408, .int 0, .ref m0] y1018 X1003 hx D rfl
  have y1020 := own_ddivP y1019 X1003 hx D (own_ok_no own_okc_4607182418800017408)
  have y1021 := nD y1020 own_q10
  obtain ⟨T1022, h1022, X1022, e1022, W1022, V1022, y1022⟩ := own_dstK y1021 X1003 hx hZ rfl f1007 rfl rfl (D 178 rfl) ⟨by decide, by decide⟩ 0 rfl (Nat.le_of_ble_eq_true rfl)
  have f1023 := p1002_0.other W1022 ne1006
  have f1024 := (f999.keep Kq1003 (ninS (Ne.symm ne_iv_i0) nin0)).other W1022 ne979
  have y1025 := rP 2 182 _ [.int 0, .ref iv] y1022 X1022 hx D rfl
  have y1026 := aP y1025 X1022 hx hZ e1022 f1023 D
  have y1027 := rP 1 185 _ [.int 0, .ref i0] y1026 X1022 hx D rfl
  have y1028 := fun (τ : State) kt => y1027 τ (XT.dup2 X1022.here hx rfl (D 185 rfl) rfl rfl rfl kt)
  have y1029 := dP y1028 X1022 hx hZ e1022 f1024 D
  have y1030 := rP 1 189 _ [.double 4607182418800017408, .double 4607182418800017408, .int 0, .ref i0] y1029 X1022 hx D rfl
  have y1031 := own_ddivP y1030 X1022 hx D (own_ok_no own_okc_4607182418800017408)
  have y1032 := nD y1031 own_q10
  obtain ⟨T1033, h1033, X1033, e1033, W1033, V1033, y1033⟩ := own_dstK y1032 X1022 hx hZ e1022 f1024 rfl rfl (D 190 rfl) ⟨by decide, by decide⟩ 0 rfl (Nat.le_of_ble_eq_true rfl)
  have f1034 := (f1005.other W1022 ne978).other W1033 ne971
  have f1035 := V1022.other W1033 (Ne.symm ne979)
  have f1036 := f1023.other W1033 ne_iv_i0
  have f1037 := (p1002_2.wr W1022).wr W1033
  have f1038 := ((f1000.keep Kq1003).wr W1022).wr W1033
  have K1039 := ((K1001.trans Kq1003 (allS (Or.inr sz_iv) (all0))).wr W1022 (Or.inr sz_m0)).wr W1033 (Or.inr sz_i0)
  have y1040 := rP 1 194 [vr bs, vi 1, vr mt, vr iv, vi 0, vi 0, vd 4607182418800017408, .second, vi 1, un, un, un] [] y1033 X1033 hx D rfl
  have y1041 := rP 6 200 [vr bs, vi 1, vr mt, vr iv, vi 0, vi 0, vd 4607182418800017408, .second, vi 0, un, un, un] [] y1040 X1033 hx D rfl
  have y1042 := rP 5 209 _ [.int 0, .ref mt] y1041 X1033 hx D rfl
  have y1043 := aP y1042 X1033 hx hZ e1033 f1034 D
  have y1044 := rP 1 212 _ [.int 0, .ref m0] y1043 X1033 hx D rfl
  have y1045 := dP y1044 X1033 hx hZ e1033 f1035 D
  have y1046 := rP 1 215 [vr bs, vi 1, vr mt, vr iv, vi 0, vi 0, vd 4607182418800017408, .second, vi 0, vd 4607182418800017408, .second, un] [] y1045 X1033 hx D rfl
  have y1047 := rP 4 287 [vr bs, vi 1, vr mt, vr iv, vi 0, vi 0, vd 4607182418800017408, .second, vi 1, vd 4607182418800017408, .second, un] [] y1046 X1033 hx D rfl
  have y1048 := rP 5 293 [vr bs, vi 1, vr mt, vr iv, vi 1, vi 0, vd 4607182418800017408, .second, vi 1, vd 4607182418800017408, .second, un] [] y1047 X1033 hx D rfl
  have y1049 := rP 5 297 _ [.ref iv] y1048 X1033 hx D rfl
  exact own_retA X1033 hlk y1049 hx hret rfl rfl (D 297 rfl) (by decide) (by decide) e1033 ⟨iv, i0, cA946, cm946, rfl, (Fr.snoc X1033 (Fr.snoc X1022 (Fr.app (Fr.app (Fr.snoc X976 N967 g_i0) Nq985) Nq1003) g_m0) g_i0), K1039, g_iv, sz_iv, g_i0, sz_i0, f1036, p1002_1, f1037, V1033, f1038⟩
def Q_rmOf2 (Z : State) (bs : Addr) (q0 q1 : Addr) (k_bs k_q0 k_q1 : ClassId) (xe : UInt64) (h0 : Heap) (n0 : Nat) (v : Option Value) (h : Heap) (L : List Loc) : Prop := ∃ (vx : UInt64) (iv : Addr) (i0 : Addr) (i1 : Addr) (k_iv : ClassId) (k_i0 : ClassId) (k_i1 : ClassId), v = some (.ref iv) ∧ Fr n0 L ∧ Keep h0 h [] ∧ n0 ≤ iv ∧ h0.size ≤ iv ∧ n0 ≤ i0 ∧ h0.size ≤ i0 ∧ n0 ≤ i1 ∧ h0.size ≤ i1 ∧ i0 ≠ i1 ∧ Arv Z h iv k_iv (.array .double) (2 : Int32) [.ref i0, .ref i1] .null ∧ OvrA Z k_iv .double "[D" ∧ Exa Z h iv "[[D" ∧ Arv Z h i0 k_i0 .double (2 : Int32) [.double 4607182418800017408, .double 0] (.double 0) ∧ Exa Z h i0 "[D" ∧ Arv Z h i1 k_i1 .double (2 : Int32) [.double vx, .double 4607182418800017408] (.double 0) ∧ Exa Z h i1 "[D" ∧ own_ok 1 vx
theorem rmOf2 (l : Launch) (Z : State) (a0 : Array Value) (hw : own_Hw a0 Z) (ws : List Jvm.Cond) (bs : Addr) (q0 q1 : Addr) (k_bs k_q0 k_q1 : ClassId) (xe : UInt64) (h0 : Heap) (n0 : Nat) (Z0 : n0 ≤ h0.size) (f0_ : Arv Z h0 bs k_bs (.array .double) (2 : Int32) [.ref q0, .ref q1] .null) (f1_ : OvrA Z k_bs .double "[D") (f2_ : Exa Z h0 bs "[[D") (f3_ : Arv Z h0 q0 k_q0 .double (2 : Int32) [.double 4607182418800017408, .double 0] (.double 0)) (f4_ : Exa Z h0 q0 "[D") (f5_ : Arv Z h0 q1 k_q1 .double (2 : Int32) [.double xe, .double 4607182418800017408] (.double 0)) (f6_ : Exa Z h0 q1 "[D") (ne_q0_q1 : q0 ≠ q1) (ok_xe : own_ok 1 xe) : own_Met l Z own_mn26 prog_21_method_2_code 12 (some (.array (.array .double))) ws ⟨1, 6, 12, 16⟩ #[.ref bs] h0 (Q_rmOf2 Z bs q0 q1 k_bs k_q0 k_q1 xe h0 n0) := by
  refine own_begS sB n0 [] #[vr bs, un, un, un, un, un, un, un, un, un, un, un] oT23 (plainFor_of_name own_pn_sB) fun p e s m below meth c s₁ hx D hml hown hnm hret hlk hZ X0 e0 PS y0 N0 KK0 => ?_
  obtain ⟨T1050, h1050, k1050, X1050, e1050, E1050, A1050, EX1050, O1050, st1050⟩ := newRA X0 hx hZ hown (C := "[D") (ty := .double) (by decide) (w171 hw) (w143 hw) e0 (g := (mkF m 4 #[vr bs, vi 2, un, un, un, un, un, un, un, un, un, un] [.int 2])) rfl (D 4 rfl) rfl (by decide) (cap := 2) (by decide) (by decide) (by decide) (by decide) (ad := "[[D") (by decide)
  obtain ⟨mt, g1050⟩ : ∃ z, z = h0.size := ⟨_, rfl⟩
  rw [← g1050] at A1050 EX1050 st1050
  have g_mt : n0 ≤ mt := Nat.le_trans (Nat.le_trans Z0 KK0.1) (Nat.le_of_eq g1050.symm)
  have sz_mt : h0.size ≤ mt := Nat.le_trans KK0.1 (Nat.le_of_eq g1050.symm)
  have V_mt : Arv Z h1050 mt k1050 (.array .double) (2 : Int32) [.null, .null] .null := (Arv.new A1050 (by decide)).pad (pad_rep [] .null 2)
  have y1051 := rP 1 1 _ [.ref bs] y0 X0 hx D rfl
  have y1052 := lP y1051 X0 hx hZ e0 f0_ D
  have y1053 := rP 1 3 [vr bs, vi 2, un, un, un, un, un, un, un, un, un, un] [] y1052 X0 hx D rfl
  have y1054 := rP 1 4 _ [.int 2] y1053 X0 hx D rfl
  have y1055 := fun (τ : State) kt => y1054 τ (st1050 τ kt)
  obtain ⟨T1056, h1056, cA1056, cm1056, X1056, e1056, E1056, A1056, O1056, EX1056, RW1056, st1056⟩ := gridM X1050 hx hZ hown (C := "[D") (ad := "[[D") (ty := .double) (by decide) (by decide) (w172 hw) (w143 hw) (w42 hw) e1050 (g := (mkF m 10 #[vr bs, vi 2, vr mt, un, un, un, un, un, un, un, un, un] [.int 2, .int 2])) rfl (D 10 rfl) rfl (by decide) (by decide) (N := 2) rfl rfl (cap := 2) (by decide) (by decide) (by decide) rfl rfl (by decide) (by decide)
  obtain ⟨iv, g1056⟩ : ∃ z, z = h1050.size := ⟨_, rfl⟩
  obtain ⟨i0, g1056_0⟩ : ∃ z, z = h1050.size + 1 + 0 := ⟨_, rfl⟩
  obtain ⟨i1, g1056_1⟩ : ∃ z, z = h1050.size + 1 + 1 := ⟨_, rfl⟩
  have V_iv : Arv Z h1056 iv cA1056 (.array .double) (2 : Int32) [.ref i0, .ref i1] .null := by rw [g1056, g1056_0, g1056_1]; exact A1056
  have EX_iv : Exa Z h1056 iv "[[D" := by rw [g1056]; exact EX1056
  rw [← g1056] at st1056
  have RR1056_0 := RW1056 0 i0 (by rw [g1056_0]; rfl)
  have V_i0 : Arv Z h1056 i0 cm1056 .double (2 : Int32) [.double 0, .double 0] (.double 0) := (Arv.new RR1056_0.1 (by decide)).pad (pad_rep [] (.double 0) 2)
  have RR1056_1 := RW1056 1 i1 (by rw [g1056_1]; rfl)
  have V_i1 : Arv Z h1056 i1 cm1056 .double (2 : Int32) [.double 0, .double 0] (.double 0) := (Arv.new RR1056_1.1 (by decide)).pad (pad_rep [] (.double 0) 2)
  have K1057 := KK0.ext E1050
  have g_iv : n0 ≤ iv := Nat.le_trans (Nat.le_trans Z0 K1057.1) (Nat.le_of_eq g1056.symm)
  have sz_iv : h0.size ≤ iv := Nat.le_trans K1057.1 (Nat.le_of_eq g1056.symm)
  have le_i0 : h1050.size ≤ i0 := by omega
  have g_i0 : n0 ≤ i0 := Nat.le_trans (Nat.le_trans Z0 K1057.1) (le_i0)
  have sz_i0 : h0.size ≤ i0 := Nat.le_trans K1057.1 (le_i0)
  have le_i1 : h1050.size ≤ i1 := by omega
  have g_i1 : n0 ≤ i1 := Nat.le_trans (Nat.le_trans Z0 K1057.1) (le_i1)
  have sz_i1 : h0.size ≤ i1 := Nat.le_trans K1057.1 (le_i1)
  have ne_iv_i0 : iv ≠ i0 := by omega
  have ne_iv_i1 : iv ≠ i1 := by omega
  have ne_i0_i1 : i0 ≠ i1 := by omega
  have y1058 := rP 1 8 [vr bs, vi 2, vr mt, un, un, un, un, un, un, un, un, un] [] y1055 X1050 hx D rfl
  have y1059 := rP 2 10 _ [.int 2, .int 2] y1058 X1050 hx D rfl
  have y1060 := fun (τ : State) kt => y1059 τ (st1056 τ kt)
  have K1061 := K1057.ext E1056
  have ni1063 : bs ∉ [] := nin0
  have f1062 := f0_.keep K1061 ni1063
  have ni1066 : q0 ∉ [] := nin0
  have f1065 := f3_.keep K1061 ni1066
  have f1067 := f4_.keep K1061
  obtain ⟨T1064, h1064, X1064, e1064, E1064, A1064, EX1064, st1064⟩ := cloneH (ad := "[D") X1056 hx hZ hown (w173 hw) (w174 hw) (w178 hw) (w176 hw) (w177 hw) (w179 hw) e1056 (Arv.arh f1065) f1067 (g := (mkF m 31 #[vr bs, vi 2, vr mt, vr iv, vi 0, un, un, un, un, un, un, un] [.ref q0, .int 0, .ref mt])) rfl hml.symm (rest := [.int 0, .ref mt]) rfl (D 31 rfl) (by decide) (W := 2) (cap := 2) (by show 2 * 0 + _ ≤ _; exact Nat.le_of_eq rfl) (by decide) (by decide) (by decide) (by decide)
  obtain ⟨m0, g1064⟩ : ∃ z, z = h1056.size := ⟨_, rfl⟩
  rw [← g1064] at A1064 EX1064 st1064
  have g_m0 : n0 ≤ m0 := Nat.le_trans (Nat.le_trans Z0 K1061.1) (Nat.le_of_eq g1064.symm)
  have sz_m0 : h0.size ≤ m0 := Nat.le_trans K1061.1 (Nat.le_of_eq g1064.symm)
  have V_m0 : Arv Z h1064 m0 k_q0 .double (2 : Int32) [.double 4607182418800017408, .double 0] (.double 0) := A1064
  have y1068 := rP 1 15 [vr bs, vi 2, vr mt, vr iv, un, un, un, un, un, un, un, un] [] y1060 X1056 hx D rfl
  have y1069 := rP 2 18 [vr bs, vi 2, vr mt, vr iv, vi 0, un, un, un, un, un, un, un] [] y1068 X1056 hx D rfl
  have y1070 := rP 7 30 _ [.int 0, .ref bs, .int 0, .ref mt] y1069 X1056 hx D rfl
  have y1071 := aP y1070 X1056 hx hZ e1056 f1062 D
  have y1072 := fun (τ : State) kt => y1071 τ (st1064 τ kt)
  obtain ⟨T1073, X1073, e1073, st1073⟩ := castY X1064 hx hZ hown (w171 hw) e1064 (Ins.self EX1064) (g := (mkF m 34 #[vr bs, vi 2, vr mt, vr iv, vi 0, un, un, un, un, un, un, un] [.ref m0, .int 0, .ref mt])) rfl rfl (D 34 rfl)
  have y1074 := fun (τ : State) kt => y1072 τ (st1073 τ kt)
  have f1075 := (V_mt.ext E1056).ext E1064
  obtain ⟨cl1076, Ar1076, q1076, S1076, M1076, H1076, U1076⟩ := id f1075
  obtain ⟨T1077, h1077, X1077, e1077, W1077, st1077⟩ := stR X1073 hx hZ e1073 Ar1076 (j := (0 : Int32)) (inb_of S1076 ⟨by decide, by decide⟩) rfl (Sto.ofVA Ar1076 q1076 O1050 (Ins.self EX1064)) (g := (mkF m 37 #[vr bs, vi 2, vr mt, vr iv, vi 0, un, un, un, un, un, un, un] [.ref m0, .int 0, .ref mt])) rfl rfl (D 37 rfl)
  have V1077 : Arv Z h1077 mt k1050 (.array .double) (2 : Int32) [.ref m0, .null] .null := Arv.set Ar1076 q1076 S1076 M1076 H1076 U1076 rfl W1077 0 rfl (Nat.le_of_ble_eq_true rfl)
  have N1077 := Fr.snoc X1077 N0 g_mt
  have y1078 := fun (τ : State) kt => y1074 τ (st1077 τ kt)
  have ne1079 := own_ltn V_mt.lt (Nat.le_of_eq g1056.symm)
  have f1080 := (V_iv.ext E1064).other W1077 (Ne.symm ne1079)
  have ne1081 := own_ltn V_mt.lt le_i0
  have f1082 := (V_i0.ext E1064).other W1077 (Ne.symm ne1081)
  have y1083 := rP 2 41 _ [.int 0, .ref iv] y1078 X1077 hx D rfl
  have y1084 := aP y1083 X1077 hx hZ e1077 f1080 D
  have y1085 := rP 2 45 _ [.double 4607182418800017408, .int 0, .ref i0] y1084 X1077 hx D rfl
  obtain ⟨T1086, h1086, X1086, e1086, W1086, V1086, y1086⟩ := own_dstK y1085 X1077 hx hZ e1077 f1082 rfl rfl (D 45 rfl) ⟨by decide, by decide⟩ 0 rfl (Nat.le_of_ble_eq_true rfl)
  have K1087 := ((K1061.ext E1064).wr W1077 (Or.inr sz_mt)).wr W1086 (Or.inr sz_i0)
  have f1088 := f0_.keep K1087 ni1063
  have ni1091 : q1 ∉ [] := nin0
  have f1090 := f5_.keep K1087 ni1091
  have f1092 := f6_.keep K1087
  obtain ⟨T1089, h1089, X1089, e1089, E1089, A1089, EX1089, st1089⟩ := cloneH (ad := "[D") X1086 hx hZ hown (w173 hw) (w174 hw) (w178 hw) (w176 hw) (w177 hw) (w179 hw) e1086 (Arv.arh f1090) f1092 (g := (mkF m 31 #[vr bs, vi 2, vr mt, vr iv, vi 1, un, un, un, un, un, un, un] [.ref q1, .int 1, .ref mt])) rfl hml.symm (rest := [.int 1, .ref mt]) rfl (D 31 rfl) (by decide) (W := 2) (cap := 2) (by show 2 * 0 + _ ≤ _; exact Nat.le_of_eq rfl) (by decide) (by decide) (by decide) (by decide)
  obtain ⟨m1, g1089⟩ : ∃ z, z = h1086.size := ⟨_, rfl⟩
  rw [← g1089] at A1089 EX1089 st1089
  have g_m1 : n0 ≤ m1 := Nat.le_trans (Nat.le_trans Z0 K1087.1) (Nat.le_of_eq g1089.symm)
  have sz_m1 : h0.size ≤ m1 := Nat.le_trans K1087.1 (Nat.le_of_eq g1089.symm)
  have V_m1 : Arv Z h1089 m1 k_q1 .double (2 : Int32) [.double xe, .double 4607182418800017408] (.double 0) := A1089
  have y1093 := rP 1 49 [vr bs, vi 2, vr mt, vr iv, vi 1, un, un, un, un, un, un, un] [] y1086 X1086 hx D rfl
  have y1094 := rP 8 30 _ [.int 1, .ref bs, .int 1, .ref mt] y1093 X1086 hx D rfl
  have y1095 := aP y1094 X1086 hx hZ e1086 f1088 D
  have y1096 := fun (τ : State) kt => y1095 τ (st1089 τ kt)
  obtain ⟨T1097, X1097, e1097, st1097⟩ := castY X1089 hx hZ hown (w171 hw) e1089 (Ins.self EX1089) (g := (mkF m 34 #[vr bs, vi 2, vr mt, vr iv, vi 1, un, un, un, un, un, un, un] [.ref m1, .int 1, .ref mt])) rfl rfl (D 34 rfl)
  have y1098 := fun (τ : State) kt => y1096 τ (st1097 τ kt)
  have f1099 := (V1077.other W1086 ne1081).ext E1089
  obtain ⟨cl1100, Ar1100, q1100, S1100, M1100, H1100, U1100⟩ := id f1099
  obtain ⟨T1101, h1101, X1101, e1101, W1101, st1101⟩ := stR X1097 hx hZ e1097 Ar1100 (j := (1 : Int32)) (inb_of S1100 ⟨by decide, by decide⟩) rfl (Sto.ofVA Ar1100 q1100 O1050 (Ins.self EX1089)) (g := (mkF m 37 #[vr bs, vi 2, vr mt, vr iv, vi 1, un, un, un, un, un, un, un] [.ref m1, .int 1, .ref mt])) rfl rfl (D 37 rfl)
  have V1101 : Arv Z h1101 mt k1050 (.array .double) (2 : Int32) [.ref m0, .ref m1] .null := Arv.set Ar1100 q1100 S1100 M1100 H1100 U1100 rfl W1101 1 rfl (Nat.le_of_ble_eq_true rfl)
  have N1101 := Fr.snoc X1101 (Fr.snoc X1086 N1077 g_i0) g_mt
  have y1102 := fun (τ : State) kt => y1098 τ (st1101 τ kt)
  have f1103 := ((f1080.other W1086 ne_iv_i0).ext E1089).other W1101 (Ne.symm ne1079)
  have ne1104 := own_ltn V_mt.lt le_i1
  have f1105 := ((((V_i1.ext E1064).other W1077 (Ne.symm ne1104)).other W1086 (Ne.symm ne_i0_i1)).ext E1089).other W1101 (Ne.symm ne1104)
  have y1106 := rP 2 41 _ [.int 1, .ref iv] y1102 X1101 hx D rfl
  have y1107 := aP y1106 X1101 hx hZ e1101 f1103 D
  have y1108 := rP 2 45 _ [.double 4607182418800017408, .int 1, .ref i1] y1107 X1101 hx D rfl
  obtain ⟨T1109, h1109, X1109, e1109, W1109, V1109, y1109⟩ := own_dstK y1108 X1101 hx hZ e1101 f1105 rfl rfl (D 45 rfl) ⟨by decide, by decide⟩ 1 rfl (Nat.le_of_ble_eq_true rfl)
  have f1110 := V1101.other W1109 ne1104
  have ne1111 := own_ltn (own_up (own_up (own_up (own_up V_mt.lt E1056.1) E1064.1) (Keep.of_wr W1077).1) (Keep.of_wr W1086).1) (Nat.le_of_eq g1089.symm)
  have ne1112 := own_ltn (own_up (own_up (own_up V_i1.lt E1064.1) (Keep.of_wr W1077).1) (Keep.of_wr W1086).1) (Nat.le_of_eq g1089.symm)
  have f1113 := (V_m1.other W1101 (Ne.symm ne1111)).other W1109 (Ne.symm ne1112)
  have y1114 := rP 1 49 [vr bs, vi 2, vr mt, vr iv, vi 2, un, un, un, un, un, un, un] [] y1109 X1109 hx D rfl
  have y1115 := rP 6 55 [vr bs, vi 2, vr mt, vr iv, vi 0, un, un, un, un, un, un, un] [] y1114 X1109 hx D rfl
  have y1116 := rP 5 65 [vr bs, vi 2, vr mt, vr iv, vi 0, vi 0, un, un, un, un, un, un] [] y1115 X1109 hx D rfl
  have y1117 := rP 4 71 [vr bs, vi 2, vr mt, vr iv, vi 0, vi 0, vi 1, un, un, un, un, un] [] y1116 X1109 hx D rfl
  have y1118 := rP 5 80 _ [.int 1, .ref mt] y1117 X1109 hx D rfl
  have y1119 := aP y1118 X1109 hx hZ e1109 f1110 D
  have y1120 := rP 1 83 _ [.int 0, .ref m1] y1119 X1109 hx D rfl
  have y1121 := dP y1120 X1109 hx hZ e1109 f1113 D
  obtain ⟨T1122, X1122, e1122, y1122⟩ := own_absR (W := 0) y1121 X1109 hx hZ hown (w363 hw) (w109 hw) (w96 hw) (w110 hw) e1109 (own_ok_no ok_xe) rfl hml.symm rfl (Nat.le_of_eq rfl) (D 84 rfl) (by decide) (by decide) (by decide) (by decide)
  have ne1123 := own_ltn (own_up V_mt.lt E1056.1) (Nat.le_of_eq g1064.symm)
  have ne1124 := own_ltn V_i0.lt (Nat.le_of_eq g1064.symm)
  have ne1125 := own_ltn V_i1.lt (Nat.le_of_eq g1064.symm)
  have f1126 := ((((V_m0.other W1077 (Ne.symm ne1123)).other W1086 (Ne.symm ne1124)).ext E1089).other W1101 (Ne.symm ne1123)).other W1109 (Ne.symm ne1125)
  have y1127 := rP 2 90 _ [.int 0, .ref mt, (.double (xe &&& (9223372036854775807 : UInt64)))] y1122 X1122 hx D rfl
  have y1128 := aP y1127 X1122 hx hZ e1122 f1110 D
  have y1129 := rP 1 93 _ [.int 0, .ref m0, (.double (xe &&& (9223372036854775807 : UInt64)))] y1128 X1122 hx D rfl
  have y1130 := dP y1129 X1122 hx hZ e1122 f1126 D
  obtain ⟨T1131, X1131, e1131, y1131⟩ := own_absR (W := 2) y1130 X1122 hx hZ hown (w363 hw) (w109 hw) (w96 hw) (w110 hw) e1122 (own_ok_no own_okc_4607182418800017408) rfl hml.symm rfl (Nat.le_of_eq rfl) (D 94 rfl) (by decide) (by decide) (by decide) (by decide)
  have f1132 := ((((((EX1050.ext E1056).ext E1064).wr W1077).wr W1086).ext E1089).wr W1101).wr W1109
  have f1133 := ((((EX1064.wr W1077).wr W1086).ext E1089).wr W1101).wr W1109
  have K1134 := ((K1087.ext E1089).wr W1101 (Or.inr sz_mt)).wr W1109 (Or.inr sz_i1)
  have y1137 := nD y1131 own_q11
  have y1138 := rP 1 98 _ [(.int (cmpValue (FP.dcmp (xe &&& (9223372036854775807 : UInt64)) (4607182418800017408 : UInt64)) .l))] y1137 X1131 hx D rfl
  have y1139 := fun (τ : State) kt => y1138 τ (XS.ifYes X1131.here hx rfl (pc0 := 98) (pc' := 105) rfl (D 98 rfl) rfl ((if0 _ _).trans (flt (own_le1 ok_xe)).2.2.2) (by decide) (by decide) kt)
  have y1140 := rP 1 108 [vr bs, vi 2, vr mt, vr iv, vi 0, vi 0, vi 2, un, un, un, un, un] [] y1139 X1131 hx D rfl
  have y1141 := rP 6 114 _ [.int 0, .ref mt] y1140 X1131 hx D rfl
  have y1142 := aP y1141 X1131 hx hZ e1131 f1110 D
  have y1143 := rP 1 117 _ [.int 0, .ref m0] y1142 X1131 hx D rfl
  have y1144 := dP y1143 X1131 hx hZ e1131 f1126 D
  have y1145 := rP 2 120 _ [(.int (cmpValue (FP.dcmp (4607182418800017408 : UInt64) (0 : UInt64)) .l))] y1144 X1131 hx D rfl
  have y1146 := nI y1145 own_q8
  have y1147 := rP 4 138 _ [.int 0, .int 0, .ref mt] y1146 X1131 hx D rfl
  obtain ⟨_, T1136, L1136, X1136, ⟨rfl, Nq1136, Kq1136, p1135_0, p1135_1, p1135_2⟩, y1136⟩ := cS y1147 X1131 hx hZ hown hml.symm (own_V11 hw) (rmSw20 l Z a0 hw [] mt m0 k1050 k_q0 (4607182418800017408 : UInt64) (0 : UInt64) m1 h1109 n0 (Nat.le_trans Z0 K1134.1) f1110 O1050 f1132 f1126 f1133 g_mt) 0 e1131 [.ref mt, .int 0, .int 0] [] D
  have f1148 := (f1103.other W1109 ne_iv_i1).keep Kq1136 (ninS (Ne.symm ne1079) nin0)
  have f1149 := ((((((EX_iv.ext E1064).wr W1077).wr W1086).ext E1089).wr W1101).wr W1109).keep Kq1136
  have f1150 := (((V1086.ext E1089).other W1101 (Ne.symm ne1081)).other W1109 ne_i0_i1).keep Kq1136 (ninS (Ne.symm ne1081) nin0)
  have f1151 := ((((((RR1056_0.2.ext E1064).wr W1077).wr W1086).ext E1089).wr W1101).wr W1109).keep Kq1136
  have K1152 := K1134.trans Kq1136 (allS (Or.inr sz_mt) (all0))
  have y1155 := rP 3 146 _ [.int 0, .int 0, .ref iv] y1136 X1136 hx D rfl
  obtain ⟨_, T1154, L1154, X1154, ⟨rfl, Nq1154, Kq1154, p1153_0, p1153_1, p1153_2⟩, y1154⟩ := cS y1155 X1136 hx hZ hown hml.symm (own_V11 hw) (rmSw20 l Z a0 hw [] iv i0 cA1056 cm1056 (4607182418800017408 : UInt64) (0 : UInt64) i1 T1136.heap n0 (Nat.le_trans Z0 K1152.1) f1148 O1056 f1149 f1150 f1151 g_iv) 0 rfl [.ref iv, .int 0, .int 0] [] D
  have f1156 := p1135_0.keep Kq1154 (ninS ne1079 nin0)
  have ne1157 := own_ltn V_iv.lt (Nat.le_of_eq g1064.symm)
  have f1158 := (f1126.keep Kq1136 (ninS (Ne.symm ne1123) nin0)).keep Kq1154 (ninS (Ne.symm ne1157) nin0)
  have y1159 := rP 2 152 _ [.int 0, .ref mt] y1154 X1154 hx D rfl
  have y1160 := aP y1159 X1154 hx hZ rfl f1156 D
  have y1161 := rP 1 155 _ [.int 0, .ref m0] y1160 X1154 hx D rfl
  have y1162 := dP y1161 X1154 hx hZ rfl f1158 D
  have y1163 := rP 1 158 [vr bs, vi 2, vr mt, vr iv, vi 0, vi 0, vd 4607182418800017408, .second, un, un, un, un] [] y1162 X1154 hx D rfl
  have y1164 := rP 2 161 [vr bs, vi 2, vr mt, vr iv, vi 0, vi 0, vd 4607182418800017408, .second, vi 0, un, un, un] [] y1163 X1154 hx D rfl
  have y1165 := rP 5 170 _ [.int 0, .ref mt] y1164 X1154 hx D rfl
  have y1166 := aP y1165 X1154 hx hZ rfl f1156 D
  have y1167 := rP 1 173 _ [.int 0, .ref m0] y1166 X1154 hx D rfl
  have y1168 := fun (τ : State) kt => y1167 τ (XT.dup2 X1154.here hx rfl (D 173 rfl) rfl rfl rfl kt)
  have y1169 := dP y1168 X1154 hx hZ rfl f1158 D
  have y1170 := rP 1 177 _ [.double 4607182418800017408, .double 4607182418800017408, .int 0, .ref m0] y1169 X1154 hx D rfl
  have y1171 := own_ddivP y1170 X1154 hx D (own_ok_no own_okc_4607182418800017408)
  have y1172 := nD y1171 own_q10
  obtain ⟨T1173, h1173, X1173, e1173, W1173, V1173, y1173⟩ := own_dstK y1172 X1154 hx hZ rfl f1158 rfl rfl (D 178 rfl) ⟨by decide, by decide⟩ 0 rfl (Nat.le_of_ble_eq_true rfl)
  have f1174 := p1153_0.other W1173 ne1157
  have f1175 := (f1150.keep Kq1154 (ninS (Ne.symm ne_iv_i0) nin0)).other W1173 ne1124
  have y1176 := rP 2 182 _ [.int 0, .ref iv] y1173 X1173 hx D rfl
  have y1177 := aP y1176 X1173 hx hZ e1173 f1174 D
  have y1178 := rP 1 185 _ [.int 0, .ref i0] y1177 X1173 hx D rfl
  have y1179 := fun (τ : State) kt => y1178 τ (XT.dup2 X1173.here hx rfl (D 185 rfl) rfl rfl rfl kt)
  have y1180 := dP y1179 X1173 hx hZ e1173 f1175 D
  have y1181 := rP 1 189 _ [.double 4607182418800017408, .double 4607182418800017408, .int 0, .ref i0] y1180 X1173 hx D rfl
  have y1182 := own_ddivP y1181 X1173 hx D (own_ok_no own_okc_4607182418800017408)
  have y1183 := nD y1182 own_q10
  obtain ⟨T1184, h1184, X1184, e1184, W1184, V1184, y1184⟩ := own_dstK y1183 X1173 hx hZ e1173 f1175 rfl rfl (D 190 rfl) ⟨by decide, by decide⟩ 0 rfl (Nat.le_of_ble_eq_true rfl)
  have f1185 := (f1156.other W1173 ne1123).other W1184 ne1081
  have f1186 := V1173.other W1184 (Ne.symm ne1124)
  have y1187 := rP 1 194 [vr bs, vi 2, vr mt, vr iv, vi 0, vi 0, vd 4607182418800017408, .second, vi 1, un, un, un] [] y1184 X1184 hx D rfl
  have y1188 := rP 6 170 _ [.int 0, .ref mt] y1187 X1184 hx D rfl
  have y1189 := aP y1188 X1184 hx hZ e1184 f1185 D
  have y1190 := rP 1 173 _ [.int 1, .ref m0] y1189 X1184 hx D rfl
  have y1191 := fun (τ : State) kt => y1190 τ (XT.dup2 X1184.here hx rfl (D 173 rfl) rfl rfl rfl kt)
  have y1192 := dP y1191 X1184 hx hZ e1184 f1186 D
  have y1193 := rP 1 177 _ [.double 4607182418800017408, .double 0, .int 1, .ref m0] y1192 X1184 hx D rfl
  have y1194 := own_ddivP y1193 X1184 hx D (own_ok_no own_okc_0)
  have y1195 := nD y1194 own_q12
  obtain ⟨T1196, h1196, X1196, e1196, W1196, V1196, y1196⟩ := own_dstK y1195 X1184 hx hZ e1184 f1186 rfl rfl (D 178 rfl) ⟨by decide, by decide⟩ 1 rfl (Nat.le_of_ble_eq_true rfl)
  have f1197 := (f1174.other W1184 ne_iv_i0).other W1196 ne1157
  have f1198 := V1184.other W1196 ne1124
  have y1199 := rP 2 182 _ [.int 0, .ref iv] y1196 X1196 hx D rfl
  have y1200 := aP y1199 X1196 hx hZ e1196 f1197 D
  have y1201 := rP 1 185 _ [.int 1, .ref i0] y1200 X1196 hx D rfl
  have y1202 := fun (τ : State) kt => y1201 τ (XT.dup2 X1196.here hx rfl (D 185 rfl) rfl rfl rfl kt)
  have y1203 := dP y1202 X1196 hx hZ e1196 f1198 D
  have y1204 := rP 1 189 _ [.double 4607182418800017408, .double 0, .int 1, .ref i0] y1203 X1196 hx D rfl
  have y1205 := own_ddivP y1204 X1196 hx D (own_ok_no own_okc_0)
  have y1206 := nD y1205 own_q12
  obtain ⟨T1207, h1207, X1207, e1207, W1207, V1207, y1207⟩ := own_dstK y1206 X1196 hx hZ e1196 f1198 rfl rfl (D 190 rfl) ⟨by decide, by decide⟩ 1 rfl (Nat.le_of_ble_eq_true rfl)
  have f1208 := (f1185.other W1196 ne1123).other W1207 ne1081
  have f1209 := V1196.other W1207 (Ne.symm ne1124)
  have ne1210 := own_ltn (own_up (own_up (own_up V_iv.lt E1064.1) (Keep.of_wr W1077).1) (Keep.of_wr W1086).1) (Nat.le_of_eq g1089.symm)
  have ne1211 := own_ltn (own_up (own_up V_m0.lt (Keep.of_wr W1077).1) (Keep.of_wr W1086).1) (Nat.le_of_eq g1089.symm)
  have ne1212 := own_ltn (own_up (own_up (own_up V_i0.lt E1064.1) (Keep.of_wr W1077).1) (Keep.of_wr W1086).1) (Nat.le_of_eq g1089.symm)
  have f1213 := (((((f1113.keep Kq1136 (ninS (Ne.symm ne1111) nin0)).keep Kq1154 (ninS (Ne.symm ne1210) nin0)).other W1173 (Ne.symm ne1211)).other W1184 (Ne.symm ne1212)).other W1196 (Ne.symm ne1211)).other W1207 (Ne.symm ne1212)
  have y1214 := rP 1 194 [vr bs, vi 2, vr mt, vr iv, vi 0, vi 0, vd 4607182418800017408, .second, vi 2, un, un, un] [] y1207 X1207 hx D rfl
  have y1215 := rP 6 200 [vr bs, vi 2, vr mt, vr iv, vi 0, vi 0, vd 4607182418800017408, .second, vi 0, un, un, un] [] y1214 X1207 hx D rfl
  have y1216 := rP 5 209 _ [.int 0, .ref mt] y1215 X1207 hx D rfl
  have y1217 := aP y1216 X1207 hx hZ e1207 f1208 D
  have y1218 := rP 1 212 _ [.int 0, .ref m0] y1217 X1207 hx D rfl
  have y1219 := dP y1218 X1207 hx hZ e1207 f1209 D
  have y1220 := rP 1 215 [vr bs, vi 2, vr mt, vr iv, vi 0, vi 0, vd 4607182418800017408, .second, vi 0, vd 4607182418800017408, .second, un] [] y1219 X1207 hx D rfl
  have y1221 := rP 4 287 [vr bs, vi 2, vr mt, vr iv, vi 0, vi 0, vd 4607182418800017408, .second, vi 1, vd 4607182418800017408, .second, un] [] y1220 X1207 hx D rfl
  have y1222 := rP 6 209 _ [.int 1, .ref mt] y1221 X1207 hx D rfl
  have y1223 := aP y1222 X1207 hx hZ e1207 f1208 D
  have y1224 := rP 1 212 _ [.int 0, .ref m1] y1223 X1207 hx D rfl
  have y1225 := dP y1224 X1207 hx hZ e1207 f1213 D
  have y1226 := rP 1 215 [vr bs, vi 2, vr mt, vr iv, vi 0, vi 0, vd 4607182418800017408, .second, vi 1, vd xe, .second, un] [] y1225 X1207 hx D rfl
  have y1227 := rP 6 226 _ [(.int (cmpValue (FP.dcmp xe (0 : UInt64)) .l))] y1226 X1207 hx D rfl
  by_cases q : (cmpValue (FP.dcmp xe (0 : UInt64)) .l) = (0 : Int32)
  · skip
    have f1228 := ((((p1135_2.keep Kq1154).wr W1173).wr W1184).wr W1196).wr W1207
    have f1229 := (((((((EX1089.wr W1101).wr W1109).keep Kq1136).keep Kq1154).wr W1173).wr W1184).wr W1196).wr W1207
    have K1230 := ((((K1152.trans Kq1154 (allS (Or.inr sz_iv) (all0))).wr W1173 (Or.inr sz_m0)).wr W1184 (Or.inr sz_i0)).wr W1196 (Or.inr sz_m0)).wr W1207 (Or.inr sz_i0)
    have y1233 := fun (τ : State) kt => y1227 τ (XS.ifYes X1207.here hx rfl (pc0 := 226) (pc' := 284) rfl (D 226 rfl) rfl ((if0 _ _).trans (teq q).1) (by decide) (by decide) kt)
    have y1234 := rP 1 287 [vr bs, vi 2, vr mt, vr iv, vi 0, vi 0, vd 4607182418800017408, .second, vi 2, vd xe, .second, un] [] y1233 X1207 hx D rfl
    have y1235 := rP 5 293 [vr bs, vi 2, vr mt, vr iv, vi 1, vi 0, vd 4607182418800017408, .second, vi 2, vd xe, .second, un] [] y1234 X1207 hx D rfl
    have y1236 := rP 6 65 [vr bs, vi 2, vr mt, vr iv, vi 1, vi 1, vd 4607182418800017408, .second, vi 2, vd xe, .second, un] [] y1235 X1207 hx D rfl
    have y1237 := rP 3 69 _ [.int 2] y1236 X1207 hx D rfl
    have y1238 := fun (τ : State) kt => y1237 τ (XS.istore X1207.here hx rfl (D 69 rfl) rfl (l' := #[vr bs, vi 2, vr mt, vr iv, vi 1, vi 1, vi 2, un, vi 2, vd xe, .second, un]) rfl kt)
    have y1239 := rP 5 114 _ [.int 1, .ref mt] y1238 X1207 hx D rfl
    have y1240 := aP y1239 X1207 hx hZ e1207 f1208 D
    have y1241 := rP 1 117 _ [.int 1, .ref m1] y1240 X1207 hx D rfl
    have y1242 := dP y1241 X1207 hx hZ e1207 f1213 D
    have y1243 := rP 2 120 _ [(.int (cmpValue (FP.dcmp (4607182418800017408 : UInt64) (0 : UInt64)) .l))] y1242 X1207 hx D rfl
    have y1244 := nI y1243 own_q8
    have y1245 := rP 4 138 _ [.int 1, .int 1, .ref mt] y1244 X1207 hx D rfl
    obtain ⟨_, T1232, L1232, X1232, ⟨rfl, Nq1232, Kq1232, p1231_0, p1231_1, p1231_2⟩, y1232⟩ := cS y1245 X1207 hx hZ hown hml.symm (own_V11 hw) (rmSw21 l Z a0 hw [] mt m1 k1050 k_q1 xe (4607182418800017408 : UInt64) m0 h1207 n0 (Nat.le_trans Z0 K1230.1) f1208 p1135_1 f1228 f1213 f1229 g_mt) 0 e1207 [.ref mt, .int 1, .int 1] [] D
    have f1246 := (f1197.other W1207 ne_iv_i0).keep Kq1232 (ninS (Ne.symm ne1079) nin0)
    have f1247 := ((((p1153_2.wr W1173).wr W1184).wr W1196).wr W1207).keep Kq1232
    have f1248 := ((((((V1109.keep Kq1136 (ninS (Ne.symm ne1104) nin0)).keep Kq1154 (ninS (Ne.symm ne_iv_i1) nin0)).other W1173 ne1125).other W1184 (Ne.symm ne_i0_i1)).other W1196 ne1125).other W1207 (Ne.symm ne_i0_i1)).keep Kq1232 (ninS (Ne.symm ne1104) nin0)
    have f1249 := ((((((((((((RR1056_1.2.ext E1064).wr W1077).wr W1086).ext E1089).wr W1101).wr W1109).keep Kq1136).keep Kq1154).wr W1173).wr W1184).wr W1196).wr W1207).keep Kq1232
    have K1250 := K1230.trans Kq1232 (allS (Or.inr sz_mt) (all0))
    have y1253 := rP 3 146 _ [.int 1, .int 1, .ref iv] y1232 X1232 hx D rfl
    obtain ⟨_, T1252, L1252, X1252, ⟨rfl, Nq1252, Kq1252, p1251_0, p1251_1, p1251_2⟩, y1252⟩ := cS y1253 X1232 hx hZ hown hml.symm (own_V11 hw) (rmSw21 l Z a0 hw [] iv i1 cA1056 cm1056 (0 : UInt64) (4607182418800017408 : UInt64) i0 T1232.heap n0 (Nat.le_trans Z0 K1250.1) f1246 p1153_1 f1247 f1248 f1249 g_iv) 0 rfl [.ref iv, .int 1, .int 1] [] D
    have f1254 := p1231_0.keep Kq1252 (ninS ne1079 nin0)
    have f1255 := (f1213.keep Kq1232 (ninS (Ne.symm ne1111) nin0)).keep Kq1252 (ninS (Ne.symm ne1210) nin0)
    have y1256 := rP 2 152 _ [.int 1, .ref mt] y1252 X1252 hx D rfl
    have y1257 := aP y1256 X1252 hx hZ rfl f1254 D
    have y1258 := rP 1 155 _ [.int 1, .ref m1] y1257 X1252 hx D rfl
    have y1259 := dP y1258 X1252 hx hZ rfl f1255 D
    have y1260 := rP 1 158 [vr bs, vi 2, vr mt, vr iv, vi 1, vi 1, vd 4607182418800017408, .second, vi 2, vd xe, .second, un] [] y1259 X1252 hx D rfl
    have y1261 := rP 2 161 [vr bs, vi 2, vr mt, vr iv, vi 1, vi 1, vd 4607182418800017408, .second, vi 0, vd xe, .second, un] [] y1260 X1252 hx D rfl
    have y1262 := rP 5 170 _ [.int 1, .ref mt] y1261 X1252 hx D rfl
    have y1263 := aP y1262 X1252 hx hZ rfl f1254 D
    have y1264 := rP 1 173 _ [.int 0, .ref m1] y1263 X1252 hx D rfl
    have y1265 := fun (τ : State) kt => y1264 τ (XT.dup2 X1252.here hx rfl (D 173 rfl) rfl rfl rfl kt)
    have y1266 := dP y1265 X1252 hx hZ rfl f1255 D
    have y1267 := rP 1 177 _ [.double 4607182418800017408, .double xe, .int 0, .ref m1] y1266 X1252 hx D rfl
    have y1268 := own_ddivP y1267 X1252 hx D (own_ok_no (own_ok_div1 ok_xe))
    obtain ⟨T1269, h1269, X1269, e1269, W1269, V1269, y1269⟩ := own_dstK y1268 X1252 hx hZ rfl f1255 rfl rfl (D 178 rfl) ⟨by decide, by decide⟩ 0 rfl (Nat.le_of_ble_eq_true rfl)
    have f1270 := p1251_0.other W1269 ne1210
    have f1271 := (f1248.keep Kq1252 (ninS (Ne.symm ne_iv_i1) nin0)).other W1269 ne1112
    have y1272 := rP 2 182 _ [.int 1, .ref iv] y1269 X1269 hx D rfl
    have y1273 := aP y1272 X1269 hx hZ e1269 f1270 D
    have y1274 := rP 1 185 _ [.int 0, .ref i1] y1273 X1269 hx D rfl
    have y1275 := fun (τ : State) kt => y1274 τ (XT.dup2 X1269.here hx rfl (D 185 rfl) rfl rfl rfl kt)
    have y1276 := dP y1275 X1269 hx hZ e1269 f1271 D
    have y1277 := rP 1 189 _ [.double 4607182418800017408, .double 0, .int 0, .ref i1] y1276 X1269 hx D rfl
    have y1278 := own_ddivP y1277 X1269 hx D (own_ok_no own_okc_0)
    have y1279 := nD y1278 own_q12
    obtain ⟨T1280, h1280, X1280, e1280, W1280, V1280, y1280⟩ := own_dstK y1279 X1269 hx hZ e1269 f1271 rfl rfl (D 190 rfl) ⟨by decide, by decide⟩ 0 rfl (Nat.le_of_ble_eq_true rfl)
    have f1281 := (f1254.other W1269 ne1111).other W1280 ne1104
    have f1282 := V1269.other W1280 (Ne.symm ne1112)
    have y1283 := rP 1 194 [vr bs, vi 2, vr mt, vr iv, vi 1, vi 1, vd 4607182418800017408, .second, vi 1, vd xe, .second, un] [] y1280 X1280 hx D rfl
    have y1284 := rP 6 170 _ [.int 1, .ref mt] y1283 X1280 hx D rfl
    have y1285 := aP y1284 X1280 hx hZ e1280 f1281 D
    have y1286 := rP 1 173 _ [.int 1, .ref m1] y1285 X1280 hx D rfl
    have y1287 := fun (τ : State) kt => y1286 τ (XT.dup2 X1280.here hx rfl (D 173 rfl) rfl rfl rfl kt)
    have y1288 := dP y1287 X1280 hx hZ e1280 f1282 D
    have y1289 := rP 1 177 _ [.double 4607182418800017408, .double 4607182418800017408, .int 1, .ref m1] y1288 X1280 hx D rfl
    have y1290 := own_ddivP y1289 X1280 hx D (own_ok_no own_okc_4607182418800017408)
    have y1291 := nD y1290 own_q10
    obtain ⟨T1292, h1292, X1292, e1292, W1292, V1292, y1292⟩ := own_dstK y1291 X1280 hx hZ e1280 f1282 rfl rfl (D 178 rfl) ⟨by decide, by decide⟩ 1 rfl (Nat.le_of_ble_eq_true rfl)
    have f1293 := (f1270.other W1280 ne_iv_i1).other W1292 ne1210
    have f1294 := V1280.other W1292 ne1112
    have y1295 := rP 2 182 _ [.int 1, .ref iv] y1292 X1292 hx D rfl
    have y1296 := aP y1295 X1292 hx hZ e1292 f1293 D
    have y1297 := rP 1 185 _ [.int 1, .ref i1] y1296 X1292 hx D rfl
    have y1298 := fun (τ : State) kt => y1297 τ (XT.dup2 X1292.here hx rfl (D 185 rfl) rfl rfl rfl kt)
    have y1299 := dP y1298 X1292 hx hZ e1292 f1294 D
    have y1300 := rP 1 189 _ [.double 4607182418800017408, .double 4607182418800017408, .int 1, .ref i1] y1299 X1292 hx D rfl
    have y1301 := own_ddivP y1300 X1292 hx D (own_ok_no own_okc_4607182418800017408)
    have y1302 := nD y1301 own_q10
    obtain ⟨T1303, h1303, X1303, e1303, W1303, V1303, y1303⟩ := own_dstK y1302 X1292 hx hZ e1292 f1294 rfl rfl (D 190 rfl) ⟨by decide, by decide⟩ 1 rfl (Nat.le_of_ble_eq_true rfl)
    have f1304 := (f1281.other W1292 ne1111).other W1303 ne1104
    have f1305 := (((((f1209.keep Kq1232 (ninS (Ne.symm ne1123) nin0)).keep Kq1252 (ninS (Ne.symm ne1157) nin0)).other W1269 ne1211).other W1280 (Ne.symm ne1125)).other W1292 ne1211).other W1303 (Ne.symm ne1125)
    have f1306 := V1292.other W1303 (Ne.symm ne1112)
    have f1307 := f1293.other W1303 ne_iv_i1
    have f1308 := (((p1251_2.wr W1269).wr W1280).wr W1292).wr W1303
    have f1309 := (((((V1207.keep Kq1232 (ninS (Ne.symm ne1081) nin0)).keep Kq1252 (ninS (Ne.symm ne_iv_i0) nin0)).other W1269 ne1212).other W1280 ne_i0_i1).other W1292 ne1212).other W1303 ne_i0_i1
    have f1310 := ((((((((((f1151.keep Kq1154).wr W1173).wr W1184).wr W1196).wr W1207).keep Kq1232).keep Kq1252).wr W1269).wr W1280).wr W1292).wr W1303
    have f1311 := ((((f1249.keep Kq1252).wr W1269).wr W1280).wr W1292).wr W1303
    have K1312 := ((((K1250.trans Kq1252 (allS (Or.inr sz_iv) (all0))).wr W1269 (Or.inr sz_m1)).wr W1280 (Or.inr sz_i1)).wr W1292 (Or.inr sz_m1)).wr W1303 (Or.inr sz_i1)
    have y1313 := rP 1 194 [vr bs, vi 2, vr mt, vr iv, vi 1, vi 1, vd 4607182418800017408, .second, vi 2, vd xe, .second, un] [] y1303 X1303 hx D rfl
    have y1314 := rP 6 200 [vr bs, vi 2, vr mt, vr iv, vi 1, vi 1, vd 4607182418800017408, .second, vi 0, vd xe, .second, un] [] y1313 X1303 hx D rfl
    have y1315 := rP 5 209 _ [.int 0, .ref mt] y1314 X1303 hx D rfl
    have y1316 := aP y1315 X1303 hx hZ e1303 f1304 D
    have y1317 := rP 1 212 _ [.int 1, .ref m0] y1316 X1303 hx D rfl
    have y1318 := dP y1317 X1303 hx hZ e1303 f1305 D
    have y1319 := rP 1 215 [vr bs, vi 2, vr mt, vr iv, vi 1, vi 1, vd 4607182418800017408, .second, vi 0, vd 0, .second, un] [] y1318 X1303 hx D rfl
    have y1320 := rP 6 226 _ [(.int (cmpValue (FP.dcmp (0 : UInt64) (0 : UInt64)) .l))] y1319 X1303 hx D rfl
    have y1321 := nI y1320 own_q9
    have y1322 := rP 2 287 [vr bs, vi 2, vr mt, vr iv, vi 1, vi 1, vd 4607182418800017408, .second, vi 1, vd 0, .second, un] [] y1321 X1303 hx D rfl
    have y1323 := rP 6 209 _ [.int 1, .ref mt] y1322 X1303 hx D rfl
    have y1324 := aP y1323 X1303 hx hZ e1303 f1304 D
    have y1325 := rP 1 212 _ [.int 1, .ref m1] y1324 X1303 hx D rfl
    have y1326 := dP y1325 X1303 hx hZ e1303 f1306 D
    have y1327 := rP 1 215 [vr bs, vi 2, vr mt, vr iv, vi 1, vi 1, vd 4607182418800017408, .second, vi 1, vd 4607182418800017408, .second, un] [] y1326 X1303 hx D rfl
    have y1328 := rP 4 287 [vr bs, vi 2, vr mt, vr iv, vi 1, vi 1, vd 4607182418800017408, .second, vi 2, vd 4607182418800017408, .second, un] [] y1327 X1303 hx D rfl
    have y1329 := rP 5 293 [vr bs, vi 2, vr mt, vr iv, vi 2, vi 1, vd 4607182418800017408, .second, vi 2, vd 4607182418800017408, .second, un] [] y1328 X1303 hx D rfl
    have y1330 := rP 5 297 _ [.ref iv] y1329 X1303 hx D rfl
    exact own_retA X1303 hlk y1330 hx hret rfl rfl (D 297 rfl) (by decide) (by decide) e1303 ⟨(0 : UInt64), iv, i0, i1, cA1056, cm1056, cm1056, rfl, (Fr.snoc X1303 (Fr.snoc X1292 (Fr.snoc X1280 (Fr.snoc X1269 (Fr.app (Fr.app (Fr.snoc X1207 (Fr.snoc X1196 (Fr.snoc X1184 (Fr.snoc X1173 (Fr.app (Fr.app (Fr.snoc X1109 N1101 g_i1) Nq1136) Nq1154) g_m0) g_i0) g_m0) g_i0) Nq1232) Nq1252) g_m1) g_i1) g_m1) g_i1), K1312, g_iv, sz_iv, g_i0, sz_i0, g_i1, sz_i1, ne_i0_i1, f1307, p1251_1, f1308, f1309, f1310, V1303, f1311, (own_ok_mono own_okc_0 (by decide))⟩
  · skip
    have y1331 := fun (τ : State) kt => y1227 τ (XS.ifNo X1207.here hx rfl (D 226 rfl) rfl ((if0 _ _).trans (feq q).1) kt)
    have y1332 := rP 2 232 [vr bs, vi 2, vr mt, vr iv, vi 0, vi 0, vd 4607182418800017408, .second, vi 1, vd xe, .second, vi 0] [] y1331 X1207 hx D rfl
    have y1333 := rP 5 241 _ [.int 1, .ref mt] y1332 X1207 hx D rfl
    have y1334 := aP y1333 X1207 hx hZ e1207 f1208 D
    have y1335 := rP 1 244 _ [.int 0, .ref m1] y1334 X1207 hx D rfl
    have y1336 := fun (τ : State) kt => y1335 τ (XT.dup2 X1207.here hx rfl (D 244 rfl) rfl rfl rfl kt)
    have y1337 := dP y1336 X1207 hx hZ e1207 f1213 D
    have y1338 := rP 3 251 _ [.int 0, .ref mt, .double xe, .double xe, .int 0, .ref m1] y1337 X1207 hx D rfl
    have y1339 := aP y1338 X1207 hx hZ e1207 f1208 D
    have y1340 := rP 1 254 _ [.int 0, .ref m0, .double xe, .double xe, .int 0, .ref m1] y1339 X1207 hx D rfl
    have y1341 := dP y1340 X1207 hx hZ e1207 f1209 D
    have y1342 := own_dmulP y1341 X1207 hx D (own_ok_no (own_ok_mul ok_xe own_okc_4607182418800017408 (by decide)))
    have y1343 := own_dsubP y1342 X1207 hx D (own_ok_no (own_ok_sub ok_xe (own_ok_mul ok_xe own_okc_4607182418800017408 (by decide)) (by decide)))
    obtain ⟨T1344, h1344, X1344, e1344, W1344, V1344, y1344⟩ := own_dstK y1343 X1207 hx hZ e1207 f1213 rfl rfl (D 257 rfl) ⟨by decide, by decide⟩ 0 rfl (Nat.le_of_ble_eq_true rfl)
    have f1345 := (f1197.other W1207 ne_iv_i0).other W1344 ne1210
    have f1346 := ((((((V1109.keep Kq1136 (ninS (Ne.symm ne1104) nin0)).keep Kq1154 (ninS (Ne.symm ne_iv_i1) nin0)).other W1173 ne1125).other W1184 (Ne.symm ne_i0_i1)).other W1196 ne1125).other W1207 (Ne.symm ne_i0_i1)).other W1344 ne1112
    have f1347 := V1207.other W1344 ne1212
    have y1348 := rP 2 261 _ [.int 1, .ref iv] y1344 X1344 hx D rfl
    have y1349 := aP y1348 X1344 hx hZ e1344 f1345 D
    have y1350 := rP 1 264 _ [.int 0, .ref i1] y1349 X1344 hx D rfl
    have y1351 := fun (τ : State) kt => y1350 τ (XT.dup2 X1344.here hx rfl (D 264 rfl) rfl rfl rfl kt)
    have y1352 := dP y1351 X1344 hx hZ e1344 f1346 D
    have y1353 := rP 3 271 _ [.int 0, .ref iv, .double xe, .double 0, .int 0, .ref i1] y1352 X1344 hx D rfl
    have y1354 := aP y1353 X1344 hx hZ e1344 f1345 D
    have y1355 := rP 1 274 _ [.int 0, .ref i0, .double xe, .double 0, .int 0, .ref i1] y1354 X1344 hx D rfl
    have y1356 := dP y1355 X1344 hx hZ e1344 f1347 D
    have y1357 := own_dmulP y1356 X1344 hx D (own_ok_no (own_ok_mul ok_xe own_okc_4607182418800017408 (by decide)))
    have y1358 := own_dsubP y1357 X1344 hx D (own_ok_no (own_ok_sub own_okc_0 (own_ok_mul ok_xe own_okc_4607182418800017408 (by decide)) (by decide)))
    obtain ⟨T1359, h1359, X1359, e1359, W1359, V1359, y1359⟩ := own_dstK y1358 X1344 hx hZ e1344 f1346 rfl rfl (D 277 rfl) ⟨by decide, by decide⟩ 0 rfl (Nat.le_of_ble_eq_true rfl)
    have f1360 := (f1208.other W1344 ne1111).other W1359 ne1104
    have f1361 := V1344.other W1359 (Ne.symm ne1112)
    have f1362 := (f1209.other W1344 ne1211).other W1359 (Ne.symm ne1125)
    have y1363 := rP 1 281 [vr bs, vi 2, vr mt, vr iv, vi 0, vi 0, vd 4607182418800017408, .second, vi 1, vd xe, .second, vi 1] [] y1359 X1359 hx D rfl
    have y1364 := rP 6 241 _ [.int 1, .ref mt] y1363 X1359 hx D rfl
    have y1365 := aP y1364 X1359 hx hZ e1359 f1360 D
    have y1366 := rP 1 244 _ [.int 1, .ref m1] y1365 X1359 hx D rfl
    have y1367 := fun (τ : State) kt => y1366 τ (XT.dup2 X1359.here hx rfl (D 244 rfl) rfl rfl rfl kt)
    have y1368 := dP y1367 X1359 hx hZ e1359 f1361 D
    have y1369 := rP 3 251 _ [.int 0, .ref mt, .double xe, .double 4607182418800017408, .int 1, .ref m1] y1368 X1359 hx D rfl
    have y1370 := aP y1369 X1359 hx hZ e1359 f1360 D
    have y1371 := rP 1 254 _ [.int 1, .ref m0, .double xe, .double 4607182418800017408, .int 1, .ref m1] y1370 X1359 hx D rfl
    have y1372 := dP y1371 X1359 hx hZ e1359 f1362 D
    have y1373 := own_dmulP y1372 X1359 hx D (own_ok_no (own_sz_ok (own_sz_mul ok_xe (Or.inl rfl))))
    have y1374 := own_dsubP y1373 X1359 hx D (own_ok_no (own_ok_sub own_okc_4607182418800017408 (own_sz_ok (own_sz_mul ok_xe (Or.inl rfl))) (by decide)))
    have y1375 := nD y1374 (own_u0 (own_sz_mul ok_xe (Or.inl rfl)))
    obtain ⟨T1376, h1376, X1376, e1376, W1376, V1376, y1376⟩ := own_dstK y1375 X1359 hx hZ e1359 f1361 rfl rfl (D 257 rfl) ⟨by decide, by decide⟩ 1 rfl (Nat.le_of_ble_eq_true rfl)
    have f1377 := (f1345.other W1359 ne_iv_i1).other W1376 ne1210
    have f1378 := V1359.other W1376 ne1112
    have f1379 := (f1347.other W1359 ne_i0_i1).other W1376 ne1212
    have y1380 := rP 2 261 _ [.int 1, .ref iv] y1376 X1376 hx D rfl
    have y1381 := aP y1380 X1376 hx hZ e1376 f1377 D
    have y1382 := rP 1 264 _ [.int 1, .ref i1] y1381 X1376 hx D rfl
    have y1383 := fun (τ : State) kt => y1382 τ (XT.dup2 X1376.here hx rfl (D 264 rfl) rfl rfl rfl kt)
    have y1384 := dP y1383 X1376 hx hZ e1376 f1378 D
    have y1385 := rP 3 271 _ [.int 0, .ref iv, .double xe, .double 4607182418800017408, .int 1, .ref i1] y1384 X1376 hx D rfl
    have y1386 := aP y1385 X1376 hx hZ e1376 f1377 D
    have y1387 := rP 1 274 _ [.int 1, .ref i0, .double xe, .double 4607182418800017408, .int 1, .ref i1] y1386 X1376 hx D rfl
    have y1388 := dP y1387 X1376 hx hZ e1376 f1379 D
    have y1389 := own_dmulP y1388 X1376 hx D (own_ok_no (own_sz_ok (own_sz_mul ok_xe (Or.inl rfl))))
    have y1390 := own_dsubP y1389 X1376 hx D (own_ok_no (own_ok_sub own_okc_4607182418800017408 (own_sz_ok (own_sz_mul ok_xe (Or.inl rfl))) (by decide)))
    have y1391 := nD y1390 (own_u0 (own_sz_mul ok_xe (Or.inl rfl)))
    obtain ⟨T1392, h1392, X1392, e1392, W1392, V1392, y1392⟩ := own_dstK y1391 X1376 hx hZ e1376 f1378 rfl rfl (D 277 rfl) ⟨by decide, by decide⟩ 1 rfl (Nat.le_of_ble_eq_true rfl)
    have f1393 := (f1360.other W1376 ne1111).other W1392 ne1104
    have f1394 := V1376.other W1392 (Ne.symm ne1112)
    have f1395 := ((((((((p1135_2.keep Kq1154).wr W1173).wr W1184).wr W1196).wr W1207).wr W1344).wr W1359).wr W1376).wr W1392
    have f1396 := (((((((((((EX1089.wr W1101).wr W1109).keep Kq1136).keep Kq1154).wr W1173).wr W1184).wr W1196).wr W1207).wr W1344).wr W1359).wr W1376).wr W1392
    have K1397 := ((((((((K1152.trans Kq1154 (allS (Or.inr sz_iv) (all0))).wr W1173 (Or.inr sz_m0)).wr W1184 (Or.inr sz_i0)).wr W1196 (Or.inr sz_m0)).wr W1207 (Or.inr sz_i0)).wr W1344 (Or.inr sz_m1)).wr W1359 (Or.inr sz_i1)).wr W1376 (Or.inr sz_m1)).wr W1392 (Or.inr sz_i1)
    have y1400 := rP 1 281 [vr bs, vi 2, vr mt, vr iv, vi 0, vi 0, vd 4607182418800017408, .second, vi 1, vd xe, .second, vi 2] [] y1392 X1392 hx D rfl
    have y1401 := rP 5 287 [vr bs, vi 2, vr mt, vr iv, vi 0, vi 0, vd 4607182418800017408, .second, vi 2, vd xe, .second, vi 2] [] y1400 X1392 hx D rfl
    have y1402 := rP 5 293 [vr bs, vi 2, vr mt, vr iv, vi 1, vi 0, vd 4607182418800017408, .second, vi 2, vd xe, .second, vi 2] [] y1401 X1392 hx D rfl
    have y1403 := rP 6 65 [vr bs, vi 2, vr mt, vr iv, vi 1, vi 1, vd 4607182418800017408, .second, vi 2, vd xe, .second, vi 2] [] y1402 X1392 hx D rfl
    have y1404 := rP 3 69 _ [.int 2] y1403 X1392 hx D rfl
    have y1405 := fun (τ : State) kt => y1404 τ (XS.istore X1392.here hx rfl (D 69 rfl) rfl (l' := #[vr bs, vi 2, vr mt, vr iv, vi 1, vi 1, vi 2, un, vi 2, vd xe, .second, vi 2]) rfl kt)
    have y1406 := rP 5 114 _ [.int 1, .ref mt] y1405 X1392 hx D rfl
    have y1407 := aP y1406 X1392 hx hZ e1392 f1393 D
    have y1408 := rP 1 117 _ [.int 1, .ref m1] y1407 X1392 hx D rfl
    have y1409 := dP y1408 X1392 hx hZ e1392 f1394 D
    have y1410 := rP 2 120 _ [(.int (cmpValue (FP.dcmp (4607182418800017408 : UInt64) (0 : UInt64)) .l))] y1409 X1392 hx D rfl
    have y1411 := nI y1410 own_q8
    have y1412 := rP 4 138 _ [.int 1, .int 1, .ref mt] y1411 X1392 hx D rfl
    obtain ⟨_, T1399, L1399, X1399, ⟨rfl, Nq1399, Kq1399, p1398_0, p1398_1, p1398_2⟩, y1399⟩ := cS y1412 X1392 hx hZ hown hml.symm (own_V11 hw) (rmSw21 l Z a0 hw [] mt m1 k1050 k_q1 (FP.dsub xe (FP.dmul xe (4607182418800017408 : UInt64))) (4607182418800017408 : UInt64) m0 h1392 n0 (Nat.le_trans Z0 K1397.1) f1393 p1135_1 f1395 f1394 f1396 g_mt) 0 e1392 [.ref mt, .int 1, .int 1] [] D
    have f1413 := (f1377.other W1392 ne_iv_i1).keep Kq1399 (ninS (Ne.symm ne1079) nin0)
    have f1414 := ((((((((p1153_2.wr W1173).wr W1184).wr W1196).wr W1207).wr W1344).wr W1359).wr W1376).wr W1392).keep Kq1399
    have f1415 := V1392.keep Kq1399 (ninS (Ne.symm ne1104) nin0)
    have f1416 := ((((((((((((((((RR1056_1.2.ext E1064).wr W1077).wr W1086).ext E1089).wr W1101).wr W1109).keep Kq1136).keep Kq1154).wr W1173).wr W1184).wr W1196).wr W1207).wr W1344).wr W1359).wr W1376).wr W1392).keep Kq1399
    have K1417 := K1397.trans Kq1399 (allS (Or.inr sz_mt) (all0))
    have y1420 := rP 3 146 _ [.int 1, .int 1, .ref iv] y1399 X1399 hx D rfl
    obtain ⟨_, T1419, L1419, X1419, ⟨rfl, Nq1419, Kq1419, p1418_0, p1418_1, p1418_2⟩, y1419⟩ := cS y1420 X1399 hx hZ hown hml.symm (own_V11 hw) (rmSw21 l Z a0 hw [] iv i1 cA1056 cm1056 (FP.dsub (0 : UInt64) (FP.dmul xe (4607182418800017408 : UInt64))) (4607182418800017408 : UInt64) i0 T1399.heap n0 (Nat.le_trans Z0 K1417.1) f1413 p1153_1 f1414 f1415 f1416 g_iv) 0 rfl [.ref iv, .int 1, .int 1] [] D
    have f1421 := p1398_0.keep Kq1419 (ninS ne1079 nin0)
    have f1422 := (f1394.keep Kq1399 (ninS (Ne.symm ne1111) nin0)).keep Kq1419 (ninS (Ne.symm ne1210) nin0)
    have y1423 := rP 2 152 _ [.int 1, .ref mt] y1419 X1419 hx D rfl
    have y1424 := aP y1423 X1419 hx hZ rfl f1421 D
    have y1425 := rP 1 155 _ [.int 1, .ref m1] y1424 X1419 hx D rfl
    have y1426 := dP y1425 X1419 hx hZ rfl f1422 D
    have y1427 := rP 1 158 [vr bs, vi 2, vr mt, vr iv, vi 1, vi 1, vd 4607182418800017408, .second, vi 2, vd xe, .second, vi 2] [] y1426 X1419 hx D rfl
    have y1428 := rP 2 161 [vr bs, vi 2, vr mt, vr iv, vi 1, vi 1, vd 4607182418800017408, .second, vi 0, vd xe, .second, vi 2] [] y1427 X1419 hx D rfl
    have y1429 := rP 5 170 _ [.int 1, .ref mt] y1428 X1419 hx D rfl
    have y1430 := aP y1429 X1419 hx hZ rfl f1421 D
    have y1431 := rP 1 173 _ [.int 0, .ref m1] y1430 X1419 hx D rfl
    have y1432 := fun (τ : State) kt => y1431 τ (XT.dup2 X1419.here hx rfl (D 173 rfl) rfl rfl rfl kt)
    have y1433 := dP y1432 X1419 hx hZ rfl f1422 D
    have y1434 := rP 1 177 _ [.double 4607182418800017408, (.double (FP.dsub xe (FP.dmul xe (4607182418800017408 : UInt64)))), .int 0, .ref m1] y1433 X1419 hx D rfl
    have y1435 := own_ddivP y1434 X1419 hx D (own_ok_no (own_ok_div1 (own_ok_sub ok_xe (own_ok_mul ok_xe own_okc_4607182418800017408 (by decide)) (by decide))))
    obtain ⟨T1436, h1436, X1436, e1436, W1436, V1436, y1436⟩ := own_dstK y1435 X1419 hx hZ rfl f1422 rfl rfl (D 178 rfl) ⟨by decide, by decide⟩ 0 rfl (Nat.le_of_ble_eq_true rfl)
    have f1437 := p1418_0.other W1436 ne1210
    have f1438 := (f1415.keep Kq1419 (ninS (Ne.symm ne_iv_i1) nin0)).other W1436 ne1112
    have y1439 := rP 2 182 _ [.int 1, .ref iv] y1436 X1436 hx D rfl
    have y1440 := aP y1439 X1436 hx hZ e1436 f1437 D
    have y1441 := rP 1 185 _ [.int 0, .ref i1] y1440 X1436 hx D rfl
    have y1442 := fun (τ : State) kt => y1441 τ (XT.dup2 X1436.here hx rfl (D 185 rfl) rfl rfl rfl kt)
    have y1443 := dP y1442 X1436 hx hZ e1436 f1438 D
    have y1444 := rP 1 189 _ [.double 4607182418800017408, (.double (FP.dsub (0 : UInt64) (FP.dmul xe (4607182418800017408 : UInt64)))), .int 0, .ref i1] y1443 X1436 hx D rfl
    have y1445 := own_ddivP y1444 X1436 hx D (own_ok_no (own_ok_div1 (own_ok_sub own_okc_0 (own_ok_mul ok_xe own_okc_4607182418800017408 (by decide)) (by decide))))
    obtain ⟨T1446, h1446, X1446, e1446, W1446, V1446, y1446⟩ := own_dstK y1445 X1436 hx hZ e1436 f1438 rfl rfl (D 190 rfl) ⟨by decide, by decide⟩ 0 rfl (Nat.le_of_ble_eq_true rfl)
    have f1447 := (f1421.other W1436 ne1111).other W1446 ne1104
    have f1448 := V1436.other W1446 (Ne.symm ne1112)
    have y1449 := rP 1 194 [vr bs, vi 2, vr mt, vr iv, vi 1, vi 1, vd 4607182418800017408, .second, vi 1, vd xe, .second, vi 2] [] y1446 X1446 hx D rfl
    have y1450 := rP 6 170 _ [.int 1, .ref mt] y1449 X1446 hx D rfl
    have y1451 := aP y1450 X1446 hx hZ e1446 f1447 D
    have y1452 := rP 1 173 _ [.int 1, .ref m1] y1451 X1446 hx D rfl
    have y1453 := fun (τ : State) kt => y1452 τ (XT.dup2 X1446.here hx rfl (D 173 rfl) rfl rfl rfl kt)
    have y1454 := dP y1453 X1446 hx hZ e1446 f1448 D
    have y1455 := rP 1 177 _ [.double 4607182418800017408, .double 4607182418800017408, .int 1, .ref m1] y1454 X1446 hx D rfl
    have y1456 := own_ddivP y1455 X1446 hx D (own_ok_no own_okc_4607182418800017408)
    have y1457 := nD y1456 own_q10
    obtain ⟨T1458, h1458, X1458, e1458, W1458, V1458, y1458⟩ := own_dstK y1457 X1446 hx hZ e1446 f1448 rfl rfl (D 178 rfl) ⟨by decide, by decide⟩ 1 rfl (Nat.le_of_ble_eq_true rfl)
    have f1459 := (f1437.other W1446 ne_iv_i1).other W1458 ne1210
    have f1460 := V1446.other W1458 ne1112
    have y1461 := rP 2 182 _ [.int 1, .ref iv] y1458 X1458 hx D rfl
    have y1462 := aP y1461 X1458 hx hZ e1458 f1459 D
    have y1463 := rP 1 185 _ [.int 1, .ref i1] y1462 X1458 hx D rfl
    have y1464 := fun (τ : State) kt => y1463 τ (XT.dup2 X1458.here hx rfl (D 185 rfl) rfl rfl rfl kt)
    have y1465 := dP y1464 X1458 hx hZ e1458 f1460 D
    have y1466 := rP 1 189 _ [.double 4607182418800017408, .double 4607182418800017408, .int 1, .ref i1] y1465 X1458 hx D rfl
    have y1467 := own_ddivP y1466 X1458 hx D (own_ok_no own_okc_4607182418800017408)
    have y1468 := nD y1467 own_q10
    obtain ⟨T1469, h1469, X1469, e1469, W1469, V1469, y1469⟩ := own_dstK y1468 X1458 hx hZ e1458 f1460 rfl rfl (D 190 rfl) ⟨by decide, by decide⟩ 1 rfl (Nat.le_of_ble_eq_true rfl)
    have f1470 := (f1447.other W1458 ne1111).other W1469 ne1104
    have f1471 := (((((((f1362.other W1376 ne1211).other W1392 (Ne.symm ne1125)).keep Kq1399 (ninS (Ne.symm ne1123) nin0)).keep Kq1419 (ninS (Ne.symm ne1157) nin0)).other W1436 ne1211).other W1446 (Ne.symm ne1125)).other W1458 ne1211).other W1469 (Ne.symm ne1125)
    have f1472 := V1458.other W1469 (Ne.symm ne1112)
    have f1473 := f1459.other W1469 ne_iv_i1
    have f1474 := (((p1418_2.wr W1436).wr W1446).wr W1458).wr W1469
    have f1475 := ((((((f1379.other W1392 ne_i0_i1).keep Kq1399 (ninS (Ne.symm ne1081) nin0)).keep Kq1419 (ninS (Ne.symm ne_iv_i0) nin0)).other W1436 ne1212).other W1446 ne_i0_i1).other W1458 ne1212).other W1469 ne_i0_i1
    have f1476 := ((((((((((((((f1151.keep Kq1154).wr W1173).wr W1184).wr W1196).wr W1207).wr W1344).wr W1359).wr W1376).wr W1392).keep Kq1399).keep Kq1419).wr W1436).wr W1446).wr W1458).wr W1469
    have f1477 := ((((f1416.keep Kq1419).wr W1436).wr W1446).wr W1458).wr W1469
    have K1478 := ((((K1417.trans Kq1419 (allS (Or.inr sz_iv) (all0))).wr W1436 (Or.inr sz_m1)).wr W1446 (Or.inr sz_i1)).wr W1458 (Or.inr sz_m1)).wr W1469 (Or.inr sz_i1)
    have y1479 := rP 1 194 [vr bs, vi 2, vr mt, vr iv, vi 1, vi 1, vd 4607182418800017408, .second, vi 2, vd xe, .second, vi 2] [] y1469 X1469 hx D rfl
    have y1480 := rP 6 200 [vr bs, vi 2, vr mt, vr iv, vi 1, vi 1, vd 4607182418800017408, .second, vi 0, vd xe, .second, vi 2] [] y1479 X1469 hx D rfl
    have y1481 := rP 5 209 _ [.int 0, .ref mt] y1480 X1469 hx D rfl
    have y1482 := aP y1481 X1469 hx hZ e1469 f1470 D
    have y1483 := rP 1 212 _ [.int 1, .ref m0] y1482 X1469 hx D rfl
    have y1484 := dP y1483 X1469 hx hZ e1469 f1471 D
    have y1485 := rP 1 215 [vr bs, vi 2, vr mt, vr iv, vi 1, vi 1, vd 4607182418800017408, .second, vi 0, vd 0, .second, vi 2] [] y1484 X1469 hx D rfl
    have y1486 := rP 6 226 _ [(.int (cmpValue (FP.dcmp (0 : UInt64) (0 : UInt64)) .l))] y1485 X1469 hx D rfl
    have y1487 := nI y1486 own_q9
    have y1488 := rP 2 287 [vr bs, vi 2, vr mt, vr iv, vi 1, vi 1, vd 4607182418800017408, .second, vi 1, vd 0, .second, vi 2] [] y1487 X1469 hx D rfl
    have y1489 := rP 6 209 _ [.int 1, .ref mt] y1488 X1469 hx D rfl
    have y1490 := aP y1489 X1469 hx hZ e1469 f1470 D
    have y1491 := rP 1 212 _ [.int 1, .ref m1] y1490 X1469 hx D rfl
    have y1492 := dP y1491 X1469 hx hZ e1469 f1472 D
    have y1493 := rP 1 215 [vr bs, vi 2, vr mt, vr iv, vi 1, vi 1, vd 4607182418800017408, .second, vi 1, vd 4607182418800017408, .second, vi 2] [] y1492 X1469 hx D rfl
    have y1494 := rP 4 287 [vr bs, vi 2, vr mt, vr iv, vi 1, vi 1, vd 4607182418800017408, .second, vi 2, vd 4607182418800017408, .second, vi 2] [] y1493 X1469 hx D rfl
    have y1495 := rP 5 293 [vr bs, vi 2, vr mt, vr iv, vi 2, vi 1, vd 4607182418800017408, .second, vi 2, vd 4607182418800017408, .second, vi 2] [] y1494 X1469 hx D rfl
    have y1496 := rP 5 297 _ [.ref iv] y1495 X1469 hx D rfl
    exact own_retA X1469 hlk y1496 hx hret rfl rfl (D 297 rfl) (by decide) (by decide) e1469 ⟨(FP.ddiv (FP.dsub (0 : UInt64) (FP.dmul xe (4607182418800017408 : UInt64))) (4607182418800017408 : UInt64)), iv, i0, i1, cA1056, cm1056, cm1056, rfl, (Fr.snoc X1469 (Fr.snoc X1458 (Fr.snoc X1446 (Fr.snoc X1436 (Fr.app (Fr.app (Fr.snoc X1392 (Fr.snoc X1376 (Fr.snoc X1359 (Fr.snoc X1344 (Fr.snoc X1207 (Fr.snoc X1196 (Fr.snoc X1184 (Fr.snoc X1173 (Fr.app (Fr.app (Fr.snoc X1109 N1101 g_i1) Nq1136) Nq1154) g_m0) g_i0) g_m0) g_i0) g_m1) g_i1) g_m1) g_i1) Nq1399) Nq1419) g_m1) g_i1) g_m1) g_i1), K1478, g_iv, sz_iv, g_i0, sz_i0, g_i1, sz_i1, ne_i0_i1, f1473, p1418_1, f1474, f1475, f1476, V1469, f1477, (own_ok_mono (own_ok_div1 (own_ok_sub own_okc_0 (own_ok_mul ok_xe own_okc_4607182418800017408 (by decide)) (by decide))) (by decide))⟩
def Q_rmIvS (Z : State) (cm : Addr) (kr kc sd bvs al ed x1 x2 t0 t1 : Addr) (k_kr k_kc k_sd k_bvs k_ed k_t0 k_t1 : ClassId) (cv0 cv1 xe : UInt64) (sg : Int32) (pn0 zn0 pn1 zn1 uu bv0 p0 z0 p1 z1 : UInt64) (du : Addr) (h0 : Heap) (n0 : Nat) (v : Option Value) (h : Heap) (L : List Loc) : Prop := ∃ (bv : UInt64) (iv : Addr) (i0 : Addr) (kv : Addr) (k_iv : ClassId) (k_i0 : ClassId) (k_kv : ClassId), v = none ∧ Fr n0 L ∧ Keep h0 h [cm, bvs, x1, x2] ∧ n0 ≤ iv ∧ h0.size ≤ iv ∧ n0 ≤ i0 ∧ h0.size ≤ i0 ∧ n0 ≤ kv ∧ h0.size ≤ kv ∧ i0 ≠ kv ∧ own_BC Z h cm (.int 1) (.int 2) (.int 2000) (.ref al) (.ref sd) (.ref bvs) (.ref kr) (.ref kc) (.ref iv) (.ref kv) (.double uu) (.ref du) (.int 0) ∧ Arv Z h iv k_iv (.array .double) (1 : Int32) [.ref i0] .null ∧ OvrA Z k_iv .double "[D" ∧ Exa Z h iv "[[D" ∧ Arv Z h i0 k_i0 .double (1 : Int32) [.double 4607182418800017408] (.double 0) ∧ Exa Z h i0 "[D" ∧ Arv Z h kv k_kv .double (1 : Int32) [.double 4607182418800017408] (.double 0) ∧ Arv Z h bvs k_bvs .double (1 : Int32) [.double bv] (.double 0) ∧ own_BD Z h x1 (.ref t0) (.double cv0) (.double pn0) (.double zn0) (.int 0) ∧ own_BD Z h x2 (.ref t1) (.double cv1) (.double pn1) (.double zn1) (.int 1) ∧ own_ok 1 bv
theorem rmIvS (l : Launch) (Z : State) (a0 : Array Value) (hw : own_Hw a0 Z) (ws : List Jvm.Cond) (cm : Addr) (kr kc sd bvs al ed x1 x2 t0 t1 : Addr) (k_kr k_kc k_sd k_bvs k_ed k_t0 k_t1 : ClassId) (cv0 cv1 xe : UInt64) (sg : Int32) (pn0 zn0 pn1 zn1 uu bv0 p0 z0 p1 z1 : UInt64) (du : Addr) (h0 : Heap) (n0 : Nat) (Z0 : n0 ≤ h0.size) (f0_ : own_BC Z h0 cm (.int 1) (.int 2) (.int 2000) (.ref al) (.ref sd) (.ref bvs) (.ref kr) (.ref kc) .null .null (.double uu) (.ref du) (.int 0)) (f1_ : Arv Z h0 kr k_kr .int 1 [.int 0] (.int 0)) (f2_ : Arv Z h0 kc k_kc .int 1 [.int 1] (.int 0)) (f3_ : Arv Z h0 sd k_sd .int 1 [.int sg] (.int 0)) (f4_ : Arv Z h0 bvs k_bvs .double (1 : Int32) [.double bv0] (.double 0)) (f5_ : own_BA Z h0 al (.ref ed) (.int 2) (.int 2)) (f6_ : Arv Z h0 ed k_ed (.object "java/lang/Object") (10 : Int32) [.ref x1, .ref x2, .null, .null, .null, .null, .null, .null, .null, .null] .null) (f7_ : Ovr Z k_ed "java/lang/Object") (f8_ : own_BD Z h0 x1 (.ref t0) (.double cv0) (.double p0) (.double z0) (.int 0)) (f9_ : own_BD Z h0 x2 (.ref t1) (.double cv1) (.double p1) (.double z1) (.int 1)) (f10_ : Arv Z h0 t0 k_t0 .double (2 : Int32) [.double 0, .double 4607182418800017408] (.double 0)) (f11_ : Arv Z h0 t1 k_t1 .double (2 : Int32) [.double 4607182418800017408, .double xe] (.double 0)) (ne_kr_kc : kr ≠ kc) (ne_kr_sd : kr ≠ sd) (ne_kc_sd : kc ≠ sd) (ne_bvs_t0 : bvs ≠ t0) (ne_bvs_t1 : bvs ≠ t1) (ne_x1_x2 : x1 ≠ x2) (ne_t0_t1 : t0 ≠ t1) (gg_cm : n0 ≤ cm) (gg_bvs : n0 ≤ bvs) (gg_x1 : n0 ≤ x1) (gg_x2 : n0 ≤ x2) (hR0 : own_R1 sg (4607182418800017408 : UInt64) pn0 zn0) (hR1 : own_R1 sg xe pn1 zn1) (hs0 : ¬ (sg = (0 : Int32))) (hsd : own_ok 1 (FP.i2d (-sg))) (ok_xe : own_ok 1 xe) : own_Met l Z own_mn27 prog_26_method_29_code 7 none ws ⟨4, 9, 13, 74⟩ #[.ref cm] h0 (Q_rmIvS Z cm kr kc sd bvs al ed x1 x2 t0 t1 k_kr k_kc k_sd k_bvs k_ed k_t0 k_t1 cv0 cv1 xe sg pn0 zn0 pn1 zn1 uu bv0 p0 z0 p1 z1 du h0 n0) := by
  refine own_begS sC n0 [cm, bvs, x1, x2] #[vr cm, un, un, un, un, un, un] oT18 (plainFor_of_name own_pn_sC) fun p e s m below meth c s₁ hx D hml hown hnm hret hlk hZ X0 e0 PS y0 N0 KK0 => ?_
  have y1497 := rP 1 1 _ [.ref cm] y0 X0 hx D rfl
  obtain ⟨T1498, X1498, e1498, y1498⟩ := gP y1497 X0 hx hZ hown (w38 hw) e0 f0_.f6 D
  obtain ⟨T1499, h1499, cA1499, cm1499, X1499, e1499, E1499, A1499, O1499, EX1499, RW1499, st1499⟩ := gridM X1498 hx hZ hown (C := "[D") (ad := "[[D") (ty := .double) (by decide) (by decide) (w142 hw) (w143 hw) (w42 hw) e1498 (g := (mkF m 8 #[vr cm, vi 1, un, un, un, un, un] [.int 1, .int 1])) rfl (D 8 rfl) rfl (by decide) (by decide) (N := 1) rfl rfl (cap := 1) (by decide) (by decide) (by decide) rfl rfl (by decide) (by decide)
  obtain ⟨gm, g1499⟩ : ∃ z, z = h0.size := ⟨_, rfl⟩
  obtain ⟨g0, g1499_0⟩ : ∃ z, z = h0.size + 1 + 0 := ⟨_, rfl⟩
  have V_gm : Arv Z h1499 gm cA1499 (.array .double) (1 : Int32) [.ref g0] .null := by rw [g1499, g1499_0]; exact A1499
  have EX_gm : Exa Z h1499 gm "[[D" := by rw [g1499]; exact EX1499
  rw [← g1499] at st1499
  have RR1499_0 := RW1499 0 g0 (by rw [g1499_0]; rfl)
  have V_g0 : Arv Z h1499 g0 cm1499 .double (1 : Int32) [.double 0] (.double 0) := (Arv.new RR1499_0.1 (by decide)).pad (pad_rep [] (.double 0) 1)
  have g_gm : n0 ≤ gm := Nat.le_trans (Nat.le_trans Z0 KK0.1) (Nat.le_of_eq g1499.symm)
  have sz_gm : h0.size ≤ gm := Nat.le_trans KK0.1 (Nat.le_of_eq g1499.symm)
  have le_g0 : h0.size ≤ g0 := by omega
  have g_g0 : n0 ≤ g0 := Nat.le_trans (Nat.le_trans Z0 KK0.1) (le_g0)
  have sz_g0 : h0.size ≤ g0 := Nat.le_trans KK0.1 (le_g0)
  have ne_gm_g0 : gm ≠ g0 := by omega
  have y1500 := lP y1498 X1498 hx hZ e1498 f1_ D
  have y1501 := rP 3 8 [vr cm, vi 1, un, un, un, un, un] [.int 1, .int 1] y1500 X1498 hx D rfl
  have y1502 := fun (τ : State) kt => y1501 τ (st1499 τ kt)
  have b1503 := f0_.ext E1499
  have y1504 := rP 3 15 [vr cm, vi 1, vr gm, vi 0, un, un, un] [] y1502 X1499 hx D rfl
  have y1505 := rP 10 31 [vr cm, vi 1, vr gm, vi 0, vi 0, un, un] [.int 0, .ref gm] y1504 X1499 hx D rfl
  have y1506 := aP y1505 X1499 hx hZ e1499 V_gm D
  have y1507 := rP 2 35 _ [.ref cm, .int 0, .ref g0] y1506 X1499 hx D rfl
  obtain ⟨T1508, X1508, e1508, y1508⟩ := gP y1507 X1499 hx hZ hown (w35 hw) e1499 b1503.f3 D
  have y1509 := rP 1 39 _ [.ref cm, .ref al, .int 0, .ref g0] y1508 X1508 hx D rfl
  obtain ⟨T1510, X1510, e1510, y1510⟩ := gP y1509 X1508 hx hZ hown (w40 hw) e1508 b1503.f7 D
  have f1511 := f2_.ext E1499
  have b1512 := f5_.ext E1499
  have f1513 := f6_.ext E1499
  have K1514 := KK0.ext E1499
  have y1517 := rP 1 44 _ [.int 0, .ref kc, .ref al, .int 0, .ref g0] y1510 X1510 hx D rfl
  have y1518 := iP y1517 X1510 hx hZ e1510 f1511 D
  obtain ⟨_, T1516, L1516, X1516, ⟨rfl, Nq1516, eq1516⟩, y1516⟩ := cF y1518 X1510 hx hZ hown hml.symm (own_V10 hw) (rmGet1 l Z a0 hw [] al ed k_ed x1 x2 h1499 n0 (Nat.le_trans Z0 K1514.1) b1512 f1513 f7_) 2 b1512.e e1510 [.int 1] [.int 0, .ref g0] D
  have b1520 := f9_.ext E1499
  obtain ⟨T1519, X1519, e1519, st1519⟩ := castY X1516 hx hZ hown (w55 hw) eq1516 (Ins.self b1520.e) (g := (mkF m 50 #[vr cm, vi 1, vr gm, vi 0, vi 0, un, un] [.ref x2, .int 0, .ref g0])) rfl rfl (D 50 rfl)
  have y1521 := fun (τ : State) kt => y1516 τ (st1519 τ kt)
  obtain ⟨T1522, X1522, e1522, y1522⟩ := own_getS y1521 X1519 hx hZ hown (w166 hw) e1519 b1520.f0 rfl rfl (D 53 rfl)
  have y1523 := rP 1 57 _ [.ref cm, .ref t1, .int 0, .ref g0] y1522 X1522 hx D rfl
  obtain ⟨T1524, X1524, e1524, y1524⟩ := gP y1523 X1522 hx hZ hown (w38 hw) e1522 b1503.f6 D
  have f1525 := f1_.ext E1499
  have f1526 := f11_.ext E1499
  have y1527 := rP 1 61 _ [.int 0, .ref kr, .ref t1, .int 0, .ref g0] y1524 X1524 hx D rfl
  have y1528 := iP y1527 X1524 hx hZ e1524 f1525 D
  have y1529 := dP y1528 X1524 hx hZ e1524 f1526 D
  obtain ⟨T1530, h1530, X1530, e1530, W1530, V1530, y1530⟩ := own_dstK y1529 X1524 hx hZ e1524 V_g0 rfl rfl (D 63 rfl) ⟨by decide, by decide⟩ 0 rfl (Nat.le_of_ble_eq_true rfl)
  have f1531 := V_gm.other W1530 ne_gm_g0
  have f1532 := EX_gm.wr W1530
  have f1533 := RR1499_0.2.wr W1530
  have K1534 := K1514.wr W1530 (Or.inr sz_g0)
  have y1537 := rP 6 73 [vr cm, vi 1, vr gm, vi 1, vi 1, un, un] [] y1530 X1530 hx D rfl
  have y1538 := rP 6 78 _ [.ref gm, .ref cm] y1537 X1530 hx D rfl
  obtain ⟨_, T1536, L1536, X1536, ⟨iv, i0, k_iv, k_i0, rfl, Nq1536, Kq1536, g1535_iv, z1535_iv, g1535_i0, z1535_i0, p1535_0, p1535_1, p1535_2, p1535_3, p1535_4⟩, y1536⟩ := cS y1538 X1530 hx hZ hown hml.symm (own_V12 hw) (rmOf1 l Z a0 hw [] gm g0 cA1499 cm1499 h1530 n0 (Nat.le_trans Z0 K1534.1) f1531 O1499 f1532 V1530 f1533) 1 e1530 [.ref gm] [.ref cm] D
  have sz_iv := Nat.le_trans K1534.1 z1535_iv
  have sz_i0 := Nat.le_trans K1534.1 z1535_i0
  have ne1539 := own_ltn f0_.e.lt sz_g0
  have b1540 := (b1503.other W1530 ne1539).keep Kq1536 nin0
  obtain ⟨T1541, h1541, X1541, e1541, W1541, fw1541, y1541⟩ := own_putK y1536 X1536 hx hZ hown (w106 hw) Via.refl rfl b1540.f8 b1540.e (Or.inl (w107 hw)) (w3 hw) (.array (.array .double)) (by decide) rfl rfl rfl rfl (D 81 rfl)
  have b1542 := b1540.p8 hw W1541
  have K1543 := (K1534.trans Kq1536 (all0)).wr W1541 (Or.inl (by simp))
  have ni1545 : kr ∉ [cm, bvs, x1, x2] := ninS (Ne.symm (Exa.neArv f0_.e f1_ (w3 hw))) (ninS (own_arv_ne f1_ f4_ (by decide)) (ninS (Ne.symm (Exa.neArv f8_.e f1_ (w56 hw))) (ninS (Ne.symm (Exa.neArv f9_.e f1_ (w56 hw))) nin0)))
  have f1544 := f1_.keep K1543 ni1545
  have y1548 := rP 2 86 _ [.int 0, .ref cm] y1541 X1541 hx D rfl
  obtain ⟨_, T1547, L1547, X1547, ⟨rfl, Nq1547, eq1547⟩, y1547⟩ := cP y1548 X1541 hx hZ hown hml.symm (own_V13 hw) (rmKi1 l Z a0 hw [] cm kr k_kr h1541 n0 (Nat.le_trans Z0 K1543.1) b1542.e b1542.f6 f1544) 0 b1542.e e1541 [.int 0] [] D
  obtain ⟨T1549, h1549, k1549, X1549, e1549, E1549, A1549, st1549⟩ := newP (aty := .double) X1547 hx hZ (w42 hw) eq1547 (g := (mkF m 92 #[vr cm, vi 1, vr gm, vi 0, vi 1, un, un] [.int 1, .ref cm])) rfl (D 92 rfl) rfl (by decide) (cap := 1) (by decide) (by decide) (by decide) (by decide)
  obtain ⟨kv, g1549⟩ : ∃ z, z = h1541.size := ⟨_, rfl⟩
  rw [← g1549] at A1549 st1549
  have g_kv : n0 ≤ kv := Nat.le_trans (Nat.le_trans Z0 K1543.1) (Nat.le_of_eq g1549.symm)
  have sz_kv : h0.size ≤ kv := Nat.le_trans K1543.1 (Nat.le_of_eq g1549.symm)
  have V_kv : Arv Z h1549 kv k1549 .double (1 : Int32) [.double 0] (.double 0) := (Arv.new A1549 (by decide)).pad (pad_rep [] (.double 0) 1)
  have y1550 := rP 3 92 [vr cm, vi 1, vr gm, vi 0, vi 1, un, un] [.int 1, .ref cm] y1547 X1547 hx D rfl
  have y1551 := fun (τ : State) kt => y1550 τ (st1549 τ kt)
  have b1552 := b1542.ext E1549
  obtain ⟨T1553, h1553, X1553, e1553, W1553, fw1553, y1553⟩ := own_putK y1551 X1549 hx hZ hown (w188 hw) Via.refl e1549 b1552.f9 b1552.e (Or.inl (w189 hw)) (w3 hw) (.array .double) (by decide) rfl rfl rfl rfl (D 94 rfl)
  have b1554 := b1552.p9 hw W1553
  have y1555 := rP 6 107 [vr cm, vi 1, vr gm, vi 0, vi 0, un, un] [.ref cm] y1553 X1553 hx D rfl
  obtain ⟨T1556, X1556, e1556, y1556⟩ := gP y1555 X1553 hx hZ hown (w188 hw) e1553 b1554.f9 D
  have y1557 := rP 2 113 _ [.ref cm, .int 0, .ref kv] y1556 X1556 hx D rfl
  obtain ⟨T1558, X1558, e1558, y1558⟩ := gP y1557 X1556 hx hZ hown (w106 hw) e1556 b1554.f8 D
  have ne1559 := own_ltn f0_.e.lt sz_iv
  have f1560 := ((p1535_0.other W1541 (Ne.symm ne1559)).ext E1549).other W1553 (Ne.symm ne1559)
  have ne1561 := own_ltn f0_.e.lt sz_i0
  have f1562 := ((p1535_3.other W1541 (Ne.symm ne1561)).ext E1549).other W1553 (Ne.symm ne1561)
  have ne1563 := own_ltn f0_.e.lt sz_kv
  have f1564 := V_kv.other W1553 (Ne.symm ne1563)
  have y1565 := rP 1 118 _ [.int 0, .ref iv, .int 0, .ref kv] y1558 X1558 hx D rfl
  have y1566 := aP y1565 X1558 hx hZ e1558 f1560 D
  have y1567 := rP 1 120 _ [.int 0, .ref i0, .int 0, .ref kv] y1566 X1558 hx D rfl
  have y1568 := dP y1567 X1558 hx hZ e1558 f1562 D
  obtain ⟨T1569, h1569, X1569, e1569, W1569, V1569, y1569⟩ := own_dstK y1568 X1558 hx hZ e1558 f1564 rfl rfl (D 121 rfl) ⟨by decide, by decide⟩ 0 rfl (Nat.le_of_ble_eq_true rfl)
  have b1570 := b1554.other W1569 ne1563
  have y1571 := rP 7 130 [vr cm, vi 1, vr gm, vi 0, vi 1, un, un] [.ref cm, .ref cm] y1569 X1569 hx D rfl
  obtain ⟨T1572, X1572, e1572, y1572⟩ := gP y1571 X1569 hx hZ hown (w188 hw) e1569 b1570.f9 D
  have K1573 := ((K1543.ext E1549).wr W1553 (Or.inl (by simp))).wr W1569 (Or.inr sz_kv)
  have ni1575 : kc ∉ [cm, bvs, x1, x2] := ninS (Ne.symm (Exa.neArv f0_.e f2_ (w3 hw))) (ninS (own_arv_ne f2_ f4_ (by decide)) (ninS (Ne.symm (Exa.neArv f8_.e f2_ (w56 hw))) (ninS (Ne.symm (Exa.neArv f9_.e f2_ (w56 hw))) nin0)))
  have f1574 := f2_.keep K1573 ni1575
  have ni1577 : al ∉ [cm, bvs, x1, x2] := ninS (Ne.symm (Exa.ne f0_.e f5_.e (by decide))) (ninS (Exa.neArv f5_.e f4_ (w12 hw)) (ninS (Exa.ne f5_.e f8_.e (by decide)) (ninS (Exa.ne f5_.e f9_.e (by decide)) nin0)))
  have b1576 := f5_.keep K1573 ni1577
  have ni1579 : ed ∉ [cm, bvs, x1, x2] := ninS (Ne.symm (Exa.neArv f0_.e f6_ (w3 hw))) (ninS (Ne.symm (own_arv_ne f4_ f6_ (by decide))) (ninS (Ne.symm (Exa.neArv f8_.e f6_ (w56 hw))) (ninS (Ne.symm (Exa.neArv f9_.e f6_ (w56 hw))) nin0)))
  have f1578 := f6_.keep K1573 ni1579
  have ne1580 := own_ltn f9_.e.lt sz_g0
  have ne1581 := own_ltn f9_.e.lt sz_kv
  have b1582 := (((((b1520.other W1530 ne1580).keep Kq1536 nin0).other W1541 (Ne.symm (Exa.ne f0_.e f9_.e (by decide)))).ext E1549).other W1553 (Ne.symm (Exa.ne f0_.e f9_.e (by decide)))).other W1569 ne1581
  have ni1584 : t1 ∉ [cm, bvs, x1, x2] := ninS (Ne.symm (Exa.neArv f0_.e f11_ (w3 hw))) (ninS (Ne.symm ne_bvs_t1) (ninS (Ne.symm (Exa.neArv f8_.e f11_ (w56 hw))) (ninS (Ne.symm (Exa.neArv f9_.e f11_ (w56 hw))) nin0)))
  have f1583 := f11_.keep K1573 ni1584
  have ne1585 := own_ltn f11_.lt sz_kv
  obtain ⟨_, T1587, L1587, X1587, ⟨ca, k_ca, rfl, Nq1587, Kq1587, g1586_ca, z1586_ca, p1586_0⟩, y1587⟩ := cP y1572 X1572 hx hZ hown hml.symm (own_V14 hw) (rmCbP l Z a0 hw [] cm kv kc al ed x2 t1 k_kc k1549 k_ed k_t1 xe x1 h1569 n0 (Nat.le_trans Z0 K1573.1) b1570.e b1570.f1 b1570.f3 b1570.f7 f1574 V1569 b1576 f1578 f7_ b1582.e b1582.f0 f1583 (Ne.symm ne1585) ok_xe) 0 b1570.e e1572 [.ref kv] [] D
  have sz_ca := Nat.le_trans K1573.1 z1586_ca
  have b1588 := b1570.keep Kq1587 nin0
  have y1589 := rP 3 141 [vr cm, vi 1, vr gm, vi 0, vr ca, vi 0, un] [] y1587 X1587 hx D rfl
  have y1590 := rP 2 144 _ [.ref cm, .int 0] y1589 X1587 hx D rfl
  obtain ⟨T1591, X1591, e1591, y1591⟩ := gP y1590 X1587 hx hZ hown (w45 hw) rfl b1588.f0 D
  have y1592 := rP 2 151 _ [.ref cm] y1591 X1591 hx D rfl
  obtain ⟨T1593, X1593, e1593, y1593⟩ := gP y1592 X1591 hx hZ hown (w53 hw) e1591 b1588.f5 D
  have y1594 := rP 2 157 _ [.ref cm, .int 0, .ref bvs] y1593 X1593 hx D rfl
  obtain ⟨T1595, X1595, e1595, y1595⟩ := gP y1594 X1593 hx hZ hown (w51 hw) e1593 b1588.f4 D
  have K1596 := K1573.trans Kq1587 (all0)
  have ni1598 : sd ∉ [cm, bvs, x1, x2] := ninS (Ne.symm (Exa.neArv f0_.e f3_ (w3 hw))) (ninS (own_arv_ne f3_ f4_ (by decide)) (ninS (Ne.symm (Exa.neArv f8_.e f3_ (w56 hw))) (ninS (Ne.symm (Exa.neArv f9_.e f3_ (w56 hw))) nin0)))
  have f1597 := f3_.keep K1596 ni1598
  have y1599 := rP 1 162 _ [.int 0, .ref sd, .int 0, .ref bvs] y1595 X1595 hx D rfl
  have y1600 := iP y1599 X1595 hx hZ e1595 f1597 D
  have y1601 := fun (τ : State) kt => y1600 τ (XS.ifYes X1595.here hx rfl (pc0 := 163) (pc' := 170) rfl (D 163 rfl) rfl ((if0 _ _).trans (feq hs0).2) (by decide) (by decide) kt)
  have y1602 := rP 2 172 _ [.ref cm, .double 0, .int 0, .ref bvs] y1601 X1595 hx D rfl
  obtain ⟨T1603, X1603, e1603, y1603⟩ := gP y1602 X1595 hx hZ hown (w51 hw) e1595 b1588.f4 D
  have y1604 := rP 1 177 _ [.int 0, .ref sd, .double 0, .int 0, .ref bvs] y1603 X1603 hx D rfl
  have y1605 := iP y1604 X1603 hx hZ e1603 f1597 D
  have y1606 := rP 6 186 _ [.int 1, .ref ca, (.double (FP.i2d (-sg))), .double 0, .int 0, .ref bvs] y1605 X1603 hx D rfl
  have y1607 := dP y1606 X1603 hx hZ e1603 p1586_0 D
  have y1608 := own_dmulP y1607 X1603 hx D (own_ok_no (own_ok_mul hsd (own_ok_add own_okc_0 (own_ok_mul own_okc_4607182418800017408 ok_xe (by decide)) (by decide)) (by decide)))
  obtain ⟨T1609, X1609, e1609, y1609⟩ := own_maxR (W := 2) y1608 X1603 hx hZ hown (w111 hw) (w112 hw) (w96 hw) (w113 hw) e1603 (own_ok_no own_okc_0) (own_ok_no (own_ok_mul hsd (own_ok_add own_okc_0 (own_ok_mul own_okc_4607182418800017408 ok_xe (by decide)) (by decide)) (by decide))) rfl hml.symm rfl (Nat.le_of_eq rfl) (D 188 rfl) (by decide) (by decide) (by decide) (by decide)
  have ne1610 := own_ltn f4_.lt sz_g0
  have ne1611 := own_ltn f4_.lt sz_kv
  have f1612 := (((((((f4_.ext E1499).other W1530 ne1610).keep Kq1536 nin0).other W1541 (Ne.symm (Exa.neArv f0_.e f4_ (w3 hw)))).ext E1549).other W1553 (Ne.symm (Exa.neArv f0_.e f4_ (w3 hw)))).other W1569 ne1611).keep Kq1587 nin0
  obtain ⟨T1613, h1613, X1613, e1613, W1613, V1613, y1613⟩ := own_dstK y1609 X1609 hx hZ e1609 f1612 rfl rfl (D 191 rfl) ⟨by decide, by decide⟩ 0 rfl (Nat.le_of_ble_eq_true rfl)
  have b1614 := b1588.other W1613 (Exa.neArv f0_.e f4_ (w3 hw))
  have y1615 := rP 4 144 [vr cm, vi 1, vr gm, vi 0, vr ca, vi 1, un] [.ref cm, .int 1] y1613 X1613 hx D rfl
  obtain ⟨T1616, X1616, e1616, y1616⟩ := gP y1615 X1613 hx hZ hown (w45 hw) e1613 b1614.f0 D
  have y1617 := rP 7 208 [vr cm, vi 1, vr gm, vi 0, vr ca, vi 0, un] [.ref cm] y1616 X1616 hx D rfl
  obtain ⟨T1618, X1618, e1618, y1618⟩ := gP y1617 X1616 hx hZ hown (w188 hw) e1616 b1614.f9 D
  have y1619 := rP 3 215 _ [.ref cm, .double 0, .int 0, .ref kv] y1618 X1618 hx D rfl
  obtain ⟨T1620, X1620, e1620, y1620⟩ := gP y1619 X1618 hx hZ hown (w188 hw) e1618 b1614.f9 D
  have f1621 := (V1569.keep Kq1587 nin0).other W1613 (Ne.symm ne1611)
  have y1622 := rP 1 220 _ [.int 0, .ref kv, .double 0, .int 0, .ref kv] y1620 X1620 hx D rfl
  have y1623 := dP y1622 X1620 hx hZ e1620 f1621 D
  obtain ⟨T1624, X1624, e1624, y1624⟩ := own_maxR (W := 2) y1623 X1620 hx hZ hown (w111 hw) (w112 hw) (w96 hw) (w113 hw) e1620 (own_ok_no own_okc_0) (own_ok_no own_okc_4607182418800017408) rfl hml.symm rfl (Nat.le_of_eq rfl) (D 221 rfl) (by decide) (by decide) (by decide) (by decide)
  have y1625 := nD y1624 own_q13
  obtain ⟨T1626, h1626, X1626, e1626, W1626, V1626, y1626⟩ := own_dstK y1625 X1624 hx hZ e1624 f1621 rfl rfl (D 224 rfl) ⟨by decide, by decide⟩ 0 rfl (Nat.le_of_ble_eq_true rfl)
  have b1627 := b1614.other W1626 ne1563
  have y1628 := rP 6 232 [vr cm, vi 1, vr gm, vi 0, vr ca, vi 1, un] [.ref cm] y1626 X1626 hx D rfl
  obtain ⟨T1629, X1629, e1629, y1629⟩ := gP y1628 X1626 hx hZ hown (w35 hw) e1626 b1627.f3 D
  have K1630 := (K1596.wr W1613 (Or.inl (by simp))).wr W1626 (Or.inr sz_kv)
  have b1631 := f5_.keep K1630 ni1577
  obtain ⟨_, T1633, L1633, X1633, ⟨it, rfl, Nq1633, Kq1633, g1632_it, z1632_it, p1632_0⟩, y1633⟩ := cF y1629 X1629 hx hZ hown hml.symm (own_V7 hw) (rmIt l Z a0 hw [] al ed h1626 n0 (Nat.le_trans Z0 K1630.1) b1631) 0 b1631.e e1629 [] [] D
  have sz_it := Nat.le_trans K1630.1 z1632_it
  have b1634 := b1631.keep Kq1633 nin0
  have K1635 := K1630.trans Kq1633 (all0)
  have y1638 := rP 2 244 [vr cm, vi 1, vr gm, vi 0, vr ca, vr it, un] [.ref it] y1633 X1633 hx D rfl
  obtain ⟨_, T1637, L1637, X1637, ⟨rfl, Nq1637, eq1637⟩, y1637⟩ := cF y1638 X1633 hx hZ hown hml.symm (own_V8 hw) (rmHn0 l Z a0 hw [] it al ed T1633.heap n0 (Nat.le_trans Z0 K1635.1) p1632_0 b1634) 0 p1632_0.e rfl [] [] D
  have f1639 := f6_.keep K1635 ni1579
  have y1642 := rP 2 254 _ [.ref it] y1637 X1637 hx D rfl
  obtain ⟨_, T1641, L1641, X1641, ⟨rfl, Nq1641, Kq1641, p1640_0⟩, y1641⟩ := cF y1642 X1637 hx hZ hown hml.symm (own_V9 hw) (rmNx0 l Z a0 hw [] it al ed k_ed x1 x2 T1633.heap n0 (Nat.le_trans Z0 K1635.1) p1632_0 b1634 f1639 f7_ g1632_it) 0 p1632_0.e eq1637 [] [] D
  have ne1644 := own_ltn f8_.e.lt sz_g0
  have ne1645 := own_ltn f8_.e.lt sz_kv
  have ne1646 := own_ltn f8_.e.lt sz_it
  have b1647 := (((((((((((f8_.ext E1499).other W1530 ne1644).keep Kq1536 nin0).other W1541 (Ne.symm (Exa.ne f0_.e f8_.e (by decide)))).ext E1549).other W1553 (Ne.symm (Exa.ne f0_.e f8_.e (by decide)))).other W1569 ne1645).keep Kq1587 nin0).other W1613 (Exa.neArv f8_.e f4_ (w56 hw))).other W1626 ne1645).keep Kq1633 nin0).keep Kq1641 (ninS ne1646 nin0)
  obtain ⟨T1643, X1643, e1643, st1643⟩ := castY X1641 hx hZ hown (w55 hw) rfl (Ins.self b1647.e) (g := (mkF m 259 #[vr cm, vi 1, vr gm, vi 0, vr ca, vr it, un] [.ref x1])) rfl rfl (D 259 rfl)
  have y1648 := fun (τ : State) kt => y1641 τ (st1643 τ kt)
  have ne1649 := own_ltn f0_.e.lt sz_it
  have b1650 := (b1627.keep Kq1633 nin0).keep Kq1641 (ninS ne1649 nin0)
  have K1651 := K1635.trans Kq1641 (allS (Or.inr sz_it) (all0))
  have f1652 := f3_.keep K1651 ni1598
  have ni1654 : t0 ∉ [cm, bvs, x1, x2] := ninS (Ne.symm (Exa.neArv f0_.e f10_ (w3 hw))) (ninS (Ne.symm ne_bvs_t0) (ninS (Ne.symm (Exa.neArv f8_.e f10_ (w56 hw))) (ninS (Ne.symm (Exa.neArv f9_.e f10_ (w56 hw))) nin0)))
  have f1653 := f10_.keep K1651 ni1654
  have y1657 := rP 3 267 [vr cm, vi 1, vr gm, vi 0, vr ca, vr it, vr x1] [.ref x1, .ref cm] y1648 X1643 hx D rfl
  obtain ⟨_, T1656, L1656, X1656, ⟨rfl, Nq1656, Kq1656, p1655_0⟩, y1656⟩ := cP y1657 X1643 hx hZ hown hml.symm (own_V15 hw) (rmAfS l Z a0 hw [] cm x1 sd t0 k_sd k_t0 cv0 p0 z0 (0 : UInt64) (4607182418800017408 : UInt64) (0 : Int32) sg pn0 zn0 T1641.heap n0 (Nat.le_trans Z0 K1651.1) b1650.e b1650.f0 b1650.f4 f1652 b1647 f1653 gg_x1 hR0 own_okc_4607182418800017408) 0 b1650.e e1643 [.ref x1] [] D
  have b1658 := p1640_0.keep Kq1656 (ninS (Ne.symm ne1646) nin0)
  have K1659 := K1651.trans Kq1656 (allS (Or.inl (by simp)) (all0))
  have b1660 := f5_.keep K1659 ni1577
  have y1663 := rP 2 244 _ [.ref it] y1656 X1656 hx D rfl
  obtain ⟨_, T1662, L1662, X1662, ⟨rfl, Nq1662, eq1662⟩, y1662⟩ := cF y1663 X1656 hx hZ hown hml.symm (own_V8 hw) (rmHn1 l Z a0 hw [] it al ed T1656.heap n0 (Nat.le_trans Z0 K1659.1) b1658 b1660) 0 b1658.e rfl [] [] D
  have f1664 := f6_.keep K1659 ni1579
  have y1667 := rP 2 254 _ [.ref it] y1662 X1662 hx D rfl
  obtain ⟨_, T1666, L1666, X1666, ⟨rfl, Nq1666, Kq1666, p1665_0⟩, y1666⟩ := cF y1667 X1662 hx hZ hown hml.symm (own_V9 hw) (rmNx1 l Z a0 hw [] it al ed k_ed x1 x2 T1656.heap n0 (Nat.le_trans Z0 K1659.1) b1658 b1660 f1664 f7_ g1632_it) 0 b1658.e eq1662 [] [] D
  have ne1669 := own_ltn f9_.e.lt sz_it
  have b1670 := ((((((b1582.keep Kq1587 nin0).other W1613 (Exa.neArv f9_.e f4_ (w56 hw))).other W1626 ne1581).keep Kq1633 nin0).keep Kq1641 (ninS ne1669 nin0)).keep Kq1656 (ninS (Ne.symm ne_x1_x2) nin0)).keep Kq1666 (ninS ne1669 nin0)
  obtain ⟨T1668, X1668, e1668, st1668⟩ := castY X1666 hx hZ hown (w55 hw) rfl (Ins.self b1670.e) (g := (mkF m 259 #[vr cm, vi 1, vr gm, vi 0, vr ca, vr it, vr x1] [.ref x2])) rfl rfl (D 259 rfl)
  have y1671 := fun (τ : State) kt => y1666 τ (st1668 τ kt)
  have b1672 := (b1650.keep Kq1656 (ninS (Exa.ne f0_.e f8_.e (by decide)) nin0)).keep Kq1666 (ninS ne1649 nin0)
  have K1673 := K1659.trans Kq1666 (allS (Or.inr sz_it) (all0))
  have f1674 := f3_.keep K1673 ni1598
  have f1675 := f11_.keep K1673 ni1584
  have y1678 := rP 3 267 [vr cm, vi 1, vr gm, vi 0, vr ca, vr it, vr x2] [.ref x2, .ref cm] y1671 X1668 hx D rfl
  obtain ⟨_, T1677, L1677, X1677, ⟨rfl, Nq1677, Kq1677, p1676_0⟩, y1677⟩ := cP y1678 X1668 hx hZ hown hml.symm (own_V15 hw) (rmAfS l Z a0 hw [] cm x2 sd t1 k_sd k_t1 cv1 p1 z1 (4607182418800017408 : UInt64) xe (1 : Int32) sg pn1 zn1 T1666.heap n0 (Nat.le_trans Z0 K1673.1) b1672.e b1672.f0 b1672.f4 f1674 b1670 f1675 gg_x2 hR1 ok_xe) 0 b1672.e e1668 [.ref x2] [] D
  have b1679 := p1665_0.keep Kq1677 (ninS (Ne.symm ne1669) nin0)
  have K1680 := K1673.trans Kq1677 (allS (Or.inl (by simp)) (all0))
  have b1681 := f5_.keep K1680 ni1577
  have y1684 := rP 2 244 _ [.ref it] y1677 X1677 hx D rfl
  obtain ⟨_, T1683, L1683, X1683, ⟨rfl, Nq1683, eq1683⟩, y1683⟩ := cF y1684 X1677 hx hZ hown hml.symm (own_V8 hw) (rmHn2 l Z a0 hw [] it al ed T1677.heap n0 (Nat.le_trans Z0 K1680.1) b1679 b1681) 0 b1679.e rfl [] [] D
  have b1685 := b1672.keep Kq1677 (ninS (Exa.ne f0_.e f9_.e (by decide)) nin0)
  have y1686 := rP 3 275 _ [.int 0, .ref cm] y1683 X1683 hx D rfl
  obtain ⟨T1687, h1687, X1687, e1687, W1687, fw1687, y1687⟩ := own_putK y1686 X1683 hx hZ hown (w243 hw) Via.refl eq1683 b1685.f12 b1685.e (Or.inl (w244 hw)) (w3 hw) .int (by decide) rfl rfl rfl rfl (D 275 rfl)
  have b1688 := b1685.p12 hw W1687
  have ne1689 := own_ltn (own_up p1535_0.lt (Keep.of_wr W1541).1) (Nat.le_of_eq g1549.symm)
  have ne1690 := own_ltn f4_.lt sz_iv
  have ne1691 := own_ltn (own_up (own_up (own_up (own_up (own_up (own_up (own_up p1535_0.lt (Keep.of_wr W1541).1) E1549.1) (Keep.of_wr W1553).1) (Keep.of_wr W1569).1) Kq1587.1) (Keep.of_wr W1613).1) (Keep.of_wr W1626).1) z1632_it
  have ne1692 := own_ltn f8_.e.lt sz_iv
  have ne1693 := own_ltn f9_.e.lt sz_iv
  have f1694 := (((((((((f1560.other W1569 ne1689).keep Kq1587 nin0).other W1613 (Ne.symm ne1690)).other W1626 ne1689).keep Kq1633 nin0).keep Kq1641 (ninS ne1691 nin0)).keep Kq1656 (ninS (Ne.symm ne1692) nin0)).keep Kq1666 (ninS ne1691 nin0)).keep Kq1677 (ninS (Ne.symm ne1693) nin0)).other W1687 (Ne.symm ne1559)
  have f1695 := ((((((((((((p1535_2.wr W1541).ext E1549).wr W1553).wr W1569).keep Kq1587).wr W1613).wr W1626).keep Kq1633).keep Kq1641).keep Kq1656).keep Kq1666).keep Kq1677).wr W1687
  have ne1696 := own_ltn (own_up p1535_3.lt (Keep.of_wr W1541).1) (Nat.le_of_eq g1549.symm)
  have ne1697 := own_ltn f4_.lt sz_i0
  have ne1698 := own_ltn (own_up (own_up (own_up (own_up (own_up (own_up (own_up p1535_3.lt (Keep.of_wr W1541).1) E1549.1) (Keep.of_wr W1553).1) (Keep.of_wr W1569).1) Kq1587.1) (Keep.of_wr W1613).1) (Keep.of_wr W1626).1) z1632_it
  have ne1699 := own_ltn f8_.e.lt sz_i0
  have ne1700 := own_ltn f9_.e.lt sz_i0
  have f1701 := (((((((((f1562.other W1569 ne1696).keep Kq1587 nin0).other W1613 (Ne.symm ne1697)).other W1626 ne1696).keep Kq1633 nin0).keep Kq1641 (ninS ne1698 nin0)).keep Kq1656 (ninS (Ne.symm ne1699) nin0)).keep Kq1666 (ninS ne1698 nin0)).keep Kq1677 (ninS (Ne.symm ne1700) nin0)).other W1687 (Ne.symm ne1561)
  have f1702 := ((((((((((((p1535_4.wr W1541).ext E1549).wr W1553).wr W1569).keep Kq1587).wr W1613).wr W1626).keep Kq1633).keep Kq1641).keep Kq1656).keep Kq1666).keep Kq1677).wr W1687
  have ne1703 := own_ltn (own_up (own_up (own_up (own_up (own_up V_kv.lt (Keep.of_wr W1553).1) (Keep.of_wr W1569).1) Kq1587.1) (Keep.of_wr W1613).1) (Keep.of_wr W1626).1) z1632_it
  have f1704 := (((((V1626.keep Kq1633 nin0).keep Kq1641 (ninS ne1703 nin0)).keep Kq1656 (ninS (Ne.symm ne1645) nin0)).keep Kq1666 (ninS ne1703 nin0)).keep Kq1677 (ninS (Ne.symm ne1581) nin0)).other W1687 (Ne.symm ne1563)
  have ne1705 := own_ltn f4_.lt sz_it
  have f1706 := ((((((V1613.other W1626 ne1611).keep Kq1633 nin0).keep Kq1641 (ninS ne1705 nin0)).keep Kq1656 (ninS (Ne.symm (Exa.neArv f8_.e f4_ (w56 hw))) nin0)).keep Kq1666 (ninS ne1705 nin0)).keep Kq1677 (ninS (Ne.symm (Exa.neArv f9_.e f4_ (w56 hw))) nin0)).other W1687 (Ne.symm (Exa.neArv f0_.e f4_ (w3 hw)))
  have b1707 := ((p1655_0.keep Kq1666 (ninS ne1646 nin0)).keep Kq1677 (ninS ne_x1_x2 nin0)).other W1687 (Ne.symm (Exa.ne f0_.e f8_.e (by decide)))
  have b1708 := p1676_0.other W1687 (Ne.symm (Exa.ne f0_.e f9_.e (by decide)))
  have K1709 := K1680.wr W1687 (Or.inl (by simp))
  exact own_retV X1687 hlk y1687 hx hret (D 278 rfl) (by decide) (by decide) e1687 ⟨(Native.java_lang_Math.nans.pick64 true (0 : UInt64) (FP.dmul (FP.i2d (-sg)) (FP.dadd (0 : UInt64) (FP.dmul (4607182418800017408 : UInt64) xe)))), iv, i0, kv, k_iv, k_i0, k1549, rfl, (Fr.snoc X1687 (Fr.app (Fr.app (Fr.app (Fr.app (Fr.app (Fr.app (Fr.app (Fr.app (Fr.snoc X1626 (Fr.snoc X1613 (Fr.app (Fr.snoc X1569 (Fr.snoc X1553 (Fr.app (Fr.snoc X1541 (Fr.app (Fr.snoc X1530 (Fr.app N0 Nq1516) g_g0) Nq1536) gg_cm) Nq1547) gg_cm) g_kv) Nq1587) gg_bvs) g_kv) Nq1633) Nq1637) Nq1641) Nq1656) Nq1662) Nq1666) Nq1677) Nq1683) gg_cm), K1709, g1535_iv, sz_iv, g1535_i0, sz_i0, g_kv, sz_kv, ne1696, b1688, f1694, p1535_1, f1695, f1701, f1702, f1704, f1706, b1707, b1708, (own_ok_mono (own_ok_max (k := 1) own_okc_0 (own_ok_mul hsd (own_ok_add own_okc_0 (own_ok_mul own_okc_4607182418800017408 ok_xe (by decide)) (by decide)) (by decide)) (by decide) (by decide)) (by decide))⟩
def Q_rmIv2 (Z : State) (cm : Addr) (kr kc sd bvs al ed x1 x2 t0 t1 : Addr) (k_kr k_kc k_sd k_bvs k_ed k_t0 k_t1 : ClassId) (cv0 cv1 xe uu bv0 p0 z0 p1 z1 : UInt64) (iv0 kv0 du : Addr) (h0 : Heap) (n0 : Nat) (v : Option Value) (h : Heap) (L : List Loc) : Prop := ∃ (vx : UInt64) (kx : UInt64) (iv : Addr) (i0 : Addr) (i1 : Addr) (kv : Addr) (k_iv : ClassId) (k_i0 : ClassId) (k_i1 : ClassId) (k_kv : ClassId), v = none ∧ Fr n0 L ∧ Keep h0 h [cm, bvs, x1, x2] ∧ n0 ≤ iv ∧ h0.size ≤ iv ∧ n0 ≤ i0 ∧ h0.size ≤ i0 ∧ n0 ≤ i1 ∧ h0.size ≤ i1 ∧ n0 ≤ kv ∧ h0.size ≤ kv ∧ i0 ≠ i1 ∧ i0 ≠ kv ∧ i1 ≠ kv ∧ own_BC Z h cm (.int 1) (.int 2) (.int 2000) (.ref al) (.ref sd) (.ref bvs) (.ref kr) (.ref kc) (.ref iv) (.ref kv) (.double uu) (.ref du) (.int 0) ∧ Arv Z h iv k_iv (.array .double) (2 : Int32) [.ref i0, .ref i1] .null ∧ OvrA Z k_iv .double "[D" ∧ Exa Z h iv "[[D" ∧ Arv Z h i0 k_i0 .double (2 : Int32) [.double 4607182418800017408, .double 0] (.double 0) ∧ Exa Z h i0 "[D" ∧ Arv Z h i1 k_i1 .double (2 : Int32) [.double vx, .double 4607182418800017408] (.double 0) ∧ Exa Z h i1 "[D" ∧ Arv Z h kv k_kv .double (2 : Int32) [.double 4607182418800017408, .double kx] (.double 0) ∧ own_BD Z h x1 (.ref t0) (.double cv0) (.double 0) (.double 0) (.int 1) ∧ own_BD Z h x2 (.ref t1) (.double cv1) (.double 0) (.double 0) (.int 1) ∧ own_ok 1 vx ∧ own_ok 1 kx
theorem rmIv2 (l : Launch) (Z : State) (a0 : Array Value) (hw : own_Hw a0 Z) (ws : List Jvm.Cond) (cm : Addr) (kr kc sd bvs al ed x1 x2 t0 t1 : Addr) (k_kr k_kc k_sd k_bvs k_ed k_t0 k_t1 : ClassId) (cv0 cv1 xe uu bv0 p0 z0 p1 z1 : UInt64) (iv0 kv0 du : Addr) (h0 : Heap) (n0 : Nat) (Z0 : n0 ≤ h0.size) (f0_ : own_BC Z h0 cm (.int 1) (.int 2) (.int 2000) (.ref al) (.ref sd) (.ref bvs) (.ref kr) (.ref kc) (.ref iv0) (.ref kv0) (.double uu) (.ref du) (.int 1)) (f1_ : Arv Z h0 kr k_kr .int 2 [.int 0, .int 1] (.int 0)) (f2_ : Arv Z h0 kc k_kc .int 2 [.int 1, .int 0] (.int 0)) (f3_ : Arv Z h0 sd k_sd .int 1 [.int 0] (.int 0)) (f4_ : Arv Z h0 bvs k_bvs .double (1 : Int32) [.double bv0] (.double 0)) (f5_ : own_BA Z h0 al (.ref ed) (.int 2) (.int 2)) (f6_ : Arv Z h0 ed k_ed (.object "java/lang/Object") (10 : Int32) [.ref x1, .ref x2, .null, .null, .null, .null, .null, .null, .null, .null] .null) (f7_ : Ovr Z k_ed "java/lang/Object") (f8_ : own_BD Z h0 x1 (.ref t0) (.double cv0) (.double p0) (.double z0) (.int 1)) (f9_ : own_BD Z h0 x2 (.ref t1) (.double cv1) (.double p1) (.double z1) (.int 1)) (f10_ : Arv Z h0 t0 k_t0 .double (2 : Int32) [.double 0, .double 4607182418800017408] (.double 0)) (f11_ : Arv Z h0 t1 k_t1 .double (2 : Int32) [.double 4607182418800017408, .double xe] (.double 0)) (ne_kr_kc : kr ≠ kc) (ne_kr_sd : kr ≠ sd) (ne_kc_sd : kc ≠ sd) (ne_bvs_t0 : bvs ≠ t0) (ne_bvs_t1 : bvs ≠ t1) (ne_x1_x2 : x1 ≠ x2) (ne_t0_t1 : t0 ≠ t1) (gg_cm : n0 ≤ cm) (gg_bvs : n0 ≤ bvs) (gg_x1 : n0 ≤ x1) (gg_x2 : n0 ≤ x2) (ok_xe : own_ok 1 xe) : own_Met l Z own_mn27 prog_26_method_29_code 7 none ws ⟨4, 12, 26, 74⟩ #[.ref cm] h0 (Q_rmIv2 Z cm kr kc sd bvs al ed x1 x2 t0 t1 k_kr k_kc k_sd k_bvs k_ed k_t0 k_t1 cv0 cv1 xe uu bv0 p0 z0 p1 z1 iv0 kv0 du h0 n0) := by
  refine own_begS sC n0 [cm, bvs, x1, x2] #[vr cm, un, un, un, un, un, un] oT18 (plainFor_of_name own_pn_sC) fun p e s m below meth c s₁ hx D hml hown hnm hret hlk hZ X0 e0 PS y0 N0 KK0 => ?_
  have y1710 := rP 1 1 _ [.ref cm] y0 X0 hx D rfl
  obtain ⟨T1711, X1711, e1711, y1711⟩ := gP y1710 X0 hx hZ hown (w38 hw) e0 f0_.f6 D
  obtain ⟨T1712, h1712, cA1712, cm1712, X1712, e1712, E1712, A1712, O1712, EX1712, RW1712, st1712⟩ := gridM X1711 hx hZ hown (C := "[D") (ad := "[[D") (ty := .double) (by decide) (by decide) (w142 hw) (w143 hw) (w42 hw) e1711 (g := (mkF m 8 #[vr cm, vi 2, un, un, un, un, un] [.int 2, .int 2])) rfl (D 8 rfl) rfl (by decide) (by decide) (N := 2) rfl rfl (cap := 2) (by decide) (by decide) (by decide) rfl rfl (by decide) (by decide)
  obtain ⟨gm, g1712⟩ : ∃ z, z = h0.size := ⟨_, rfl⟩
  obtain ⟨g0, g1712_0⟩ : ∃ z, z = h0.size + 1 + 0 := ⟨_, rfl⟩
  obtain ⟨g1, g1712_1⟩ : ∃ z, z = h0.size + 1 + 1 := ⟨_, rfl⟩
  have V_gm : Arv Z h1712 gm cA1712 (.array .double) (2 : Int32) [.ref g0, .ref g1] .null := by rw [g1712, g1712_0, g1712_1]; exact A1712
  have EX_gm : Exa Z h1712 gm "[[D" := by rw [g1712]; exact EX1712
  rw [← g1712] at st1712
  have RR1712_0 := RW1712 0 g0 (by rw [g1712_0]; rfl)
  have V_g0 : Arv Z h1712 g0 cm1712 .double (2 : Int32) [.double 0, .double 0] (.double 0) := (Arv.new RR1712_0.1 (by decide)).pad (pad_rep [] (.double 0) 2)
  have RR1712_1 := RW1712 1 g1 (by rw [g1712_1]; rfl)
  have V_g1 : Arv Z h1712 g1 cm1712 .double (2 : Int32) [.double 0, .double 0] (.double 0) := (Arv.new RR1712_1.1 (by decide)).pad (pad_rep [] (.double 0) 2)
  have g_gm : n0 ≤ gm := Nat.le_trans (Nat.le_trans Z0 KK0.1) (Nat.le_of_eq g1712.symm)
  have sz_gm : h0.size ≤ gm := Nat.le_trans KK0.1 (Nat.le_of_eq g1712.symm)
  have le_g0 : h0.size ≤ g0 := by omega
  have g_g0 : n0 ≤ g0 := Nat.le_trans (Nat.le_trans Z0 KK0.1) (le_g0)
  have sz_g0 : h0.size ≤ g0 := Nat.le_trans KK0.1 (le_g0)
  have le_g1 : h0.size ≤ g1 := by omega
  have g_g1 : n0 ≤ g1 := Nat.le_trans (Nat.le_trans Z0 KK0.1) (le_g1)
  have sz_g1 : h0.size ≤ g1 := Nat.le_trans KK0.1 (le_g1)
  have ne_gm_g0 : gm ≠ g0 := by omega
  have ne_gm_g1 : gm ≠ g1 := by omega
  have ne_g0_g1 : g0 ≠ g1 := by omega
  have y1713 := lP y1711 X1711 hx hZ e1711 f1_ D
  have y1714 := rP 3 8 [vr cm, vi 2, un, un, un, un, un] [.int 2, .int 2] y1713 X1711 hx D rfl
  have y1715 := fun (τ : State) kt => y1714 τ (st1712 τ kt)
  have b1716 := f0_.ext E1712
  have y1717 := rP 3 15 [vr cm, vi 2, vr gm, vi 0, un, un, un] [] y1715 X1712 hx D rfl
  have y1718 := rP 10 31 [vr cm, vi 2, vr gm, vi 0, vi 0, un, un] [.int 0, .ref gm] y1717 X1712 hx D rfl
  have y1719 := aP y1718 X1712 hx hZ e1712 V_gm D
  have y1720 := rP 2 35 _ [.ref cm, .int 0, .ref g0] y1719 X1712 hx D rfl
  obtain ⟨T1721, X1721, e1721, y1721⟩ := gP y1720 X1712 hx hZ hown (w35 hw) e1712 b1716.f3 D
  have y1722 := rP 1 39 _ [.ref cm, .ref al, .int 0, .ref g0] y1721 X1721 hx D rfl
  obtain ⟨T1723, X1723, e1723, y1723⟩ := gP y1722 X1721 hx hZ hown (w40 hw) e1721 b1716.f7 D
  have f1724 := f2_.ext E1712
  have b1725 := f5_.ext E1712
  have f1726 := f6_.ext E1712
  have K1727 := KK0.ext E1712
  have y1730 := rP 1 44 _ [.int 0, .ref kc, .ref al, .int 0, .ref g0] y1723 X1723 hx D rfl
  have y1731 := iP y1730 X1723 hx hZ e1723 f1724 D
  obtain ⟨_, T1729, L1729, X1729, ⟨rfl, Nq1729, eq1729⟩, y1729⟩ := cF y1731 X1723 hx hZ hown hml.symm (own_V10 hw) (rmGet1 l Z a0 hw [] al ed k_ed x1 x2 h1712 n0 (Nat.le_trans Z0 K1727.1) b1725 f1726 f7_) 2 b1725.e e1723 [.int 1] [.int 0, .ref g0] D
  have b1733 := f9_.ext E1712
  obtain ⟨T1732, X1732, e1732, st1732⟩ := castY X1729 hx hZ hown (w55 hw) eq1729 (Ins.self b1733.e) (g := (mkF m 50 #[vr cm, vi 2, vr gm, vi 0, vi 0, un, un] [.ref x2, .int 0, .ref g0])) rfl rfl (D 50 rfl)
  have y1734 := fun (τ : State) kt => y1729 τ (st1732 τ kt)
  obtain ⟨T1735, X1735, e1735, y1735⟩ := own_getS y1734 X1732 hx hZ hown (w166 hw) e1732 b1733.f0 rfl rfl (D 53 rfl)
  have y1736 := rP 1 57 _ [.ref cm, .ref t1, .int 0, .ref g0] y1735 X1735 hx D rfl
  obtain ⟨T1737, X1737, e1737, y1737⟩ := gP y1736 X1735 hx hZ hown (w38 hw) e1735 b1716.f6 D
  have f1738 := f1_.ext E1712
  have f1739 := f11_.ext E1712
  have y1740 := rP 1 61 _ [.int 0, .ref kr, .ref t1, .int 0, .ref g0] y1737 X1737 hx D rfl
  have y1741 := iP y1740 X1737 hx hZ e1737 f1738 D
  have y1742 := dP y1741 X1737 hx hZ e1737 f1739 D
  obtain ⟨T1743, h1743, X1743, e1743, W1743, V1743, y1743⟩ := own_dstK y1742 X1737 hx hZ e1737 V_g0 rfl rfl (D 63 rfl) ⟨by decide, by decide⟩ 0 rfl (Nat.le_of_ble_eq_true rfl)
  have f1744 := V_gm.other W1743 ne_gm_g0
  have ne1745 := own_ltn f0_.e.lt sz_g0
  have b1746 := b1716.other W1743 ne1745
  have y1747 := rP 7 31 [vr cm, vi 2, vr gm, vi 0, vi 1, un, un] [.int 0, .ref gm] y1743 X1743 hx D rfl
  have y1748 := aP y1747 X1743 hx hZ e1743 f1744 D
  have y1749 := rP 2 35 _ [.ref cm, .int 1, .ref g0] y1748 X1743 hx D rfl
  obtain ⟨T1750, X1750, e1750, y1750⟩ := gP y1749 X1743 hx hZ hown (w35 hw) e1743 b1746.f3 D
  have y1751 := rP 1 39 _ [.ref cm, .ref al, .int 1, .ref g0] y1750 X1750 hx D rfl
  obtain ⟨T1752, X1752, e1752, y1752⟩ := gP y1751 X1750 hx hZ hown (w40 hw) e1750 b1746.f7 D
  have ne1753 := own_ltn f2_.lt sz_g0
  have f1754 := f1724.other W1743 ne1753
  have ne1755 := own_ltn f5_.e.lt sz_g0
  have b1756 := b1725.other W1743 ne1755
  have ne1757 := own_ltn f6_.lt sz_g0
  have f1758 := f1726.other W1743 ne1757
  have K1759 := K1727.wr W1743 (Or.inr sz_g0)
  have y1762 := rP 1 44 _ [.int 1, .ref kc, .ref al, .int 1, .ref g0] y1752 X1752 hx D rfl
  have y1763 := iP y1762 X1752 hx hZ e1752 f1754 D
  obtain ⟨_, T1761, L1761, X1761, ⟨rfl, Nq1761, eq1761⟩, y1761⟩ := cF y1763 X1752 hx hZ hown hml.symm (own_V10 hw) (rmGet0 l Z a0 hw [] al ed k_ed x1 x2 h1743 n0 (Nat.le_trans Z0 K1759.1) b1756 f1758 f7_) 2 b1756.e e1752 [.int 0] [.int 1, .ref g0] D
  have ne1765 := own_ltn f8_.e.lt sz_g0
  have b1766 := (f8_.ext E1712).other W1743 ne1765
  obtain ⟨T1764, X1764, e1764, st1764⟩ := castY X1761 hx hZ hown (w55 hw) eq1761 (Ins.self b1766.e) (g := (mkF m 50 #[vr cm, vi 2, vr gm, vi 0, vi 1, un, un] [.ref x1, .int 1, .ref g0])) rfl rfl (D 50 rfl)
  have y1767 := fun (τ : State) kt => y1761 τ (st1764 τ kt)
  obtain ⟨T1768, X1768, e1768, y1768⟩ := own_getS y1767 X1764 hx hZ hown (w166 hw) e1764 b1766.f0 rfl rfl (D 53 rfl)
  have y1769 := rP 1 57 _ [.ref cm, .ref t0, .int 1, .ref g0] y1768 X1768 hx D rfl
  obtain ⟨T1770, X1770, e1770, y1770⟩ := gP y1769 X1768 hx hZ hown (w38 hw) e1768 b1746.f6 D
  have ne1771 := own_ltn f1_.lt sz_g0
  have f1772 := f1738.other W1743 ne1771
  have ni1774 : t0 ∉ [cm, bvs, x1, x2] := ninS (Ne.symm (Exa.neArv f0_.e f10_ (w3 hw))) (ninS (Ne.symm ne_bvs_t0) (ninS (Ne.symm (Exa.neArv f8_.e f10_ (w56 hw))) (ninS (Ne.symm (Exa.neArv f9_.e f10_ (w56 hw))) nin0)))
  have f1773 := f10_.keep K1759 ni1774
  have y1775 := rP 1 61 _ [.int 0, .ref kr, .ref t0, .int 1, .ref g0] y1770 X1770 hx D rfl
  have y1776 := iP y1775 X1770 hx hZ e1770 f1772 D
  have y1777 := dP y1776 X1770 hx hZ e1770 f1773 D
  obtain ⟨T1778, h1778, X1778, e1778, W1778, V1778, y1778⟩ := own_dstK y1777 X1770 hx hZ e1770 V1743 rfl rfl (D 63 rfl) ⟨by decide, by decide⟩ 1 rfl (Nat.le_of_ble_eq_true rfl)
  have f1779 := f1744.other W1778 ne_gm_g0
  have b1780 := b1746.other W1778 ne1745
  have y1781 := rP 6 73 [vr cm, vi 2, vr gm, vi 1, vi 2, un, un] [] y1778 X1778 hx D rfl
  have y1782 := rP 11 31 [vr cm, vi 2, vr gm, vi 1, vi 0, un, un] [.int 1, .ref gm] y1781 X1778 hx D rfl
  have y1783 := aP y1782 X1778 hx hZ e1778 f1779 D
  have y1784 := rP 2 35 _ [.ref cm, .int 0, .ref g1] y1783 X1778 hx D rfl
  obtain ⟨T1785, X1785, e1785, y1785⟩ := gP y1784 X1778 hx hZ hown (w35 hw) e1778 b1780.f3 D
  have y1786 := rP 1 39 _ [.ref cm, .ref al, .int 0, .ref g1] y1785 X1785 hx D rfl
  obtain ⟨T1787, X1787, e1787, y1787⟩ := gP y1786 X1785 hx hZ hown (w40 hw) e1785 b1780.f7 D
  have f1788 := f1754.other W1778 ne1753
  have b1789 := b1756.other W1778 ne1755
  have f1790 := f1758.other W1778 ne1757
  have K1791 := K1759.wr W1778 (Or.inr sz_g0)
  have y1794 := rP 1 44 _ [.int 0, .ref kc, .ref al, .int 0, .ref g1] y1787 X1787 hx D rfl
  have y1795 := iP y1794 X1787 hx hZ e1787 f1788 D
  obtain ⟨_, T1793, L1793, X1793, ⟨rfl, Nq1793, eq1793⟩, y1793⟩ := cF y1795 X1787 hx hZ hown hml.symm (own_V10 hw) (rmGet1 l Z a0 hw [] al ed k_ed x1 x2 h1778 n0 (Nat.le_trans Z0 K1791.1) b1789 f1790 f7_) 2 b1789.e e1787 [.int 1] [.int 0, .ref g1] D
  have ne1797 := own_ltn f9_.e.lt sz_g0
  have b1798 := (b1733.other W1743 ne1797).other W1778 ne1797
  obtain ⟨T1796, X1796, e1796, st1796⟩ := castY X1793 hx hZ hown (w55 hw) eq1793 (Ins.self b1798.e) (g := (mkF m 50 #[vr cm, vi 2, vr gm, vi 1, vi 0, un, un] [.ref x2, .int 0, .ref g1])) rfl rfl (D 50 rfl)
  have y1799 := fun (τ : State) kt => y1793 τ (st1796 τ kt)
  obtain ⟨T1800, X1800, e1800, y1800⟩ := own_getS y1799 X1796 hx hZ hown (w166 hw) e1796 b1798.f0 rfl rfl (D 53 rfl)
  have y1801 := rP 1 57 _ [.ref cm, .ref t1, .int 0, .ref g1] y1800 X1800 hx D rfl
  obtain ⟨T1802, X1802, e1802, y1802⟩ := gP y1801 X1800 hx hZ hown (w38 hw) e1800 b1780.f6 D
  have f1803 := f1772.other W1778 ne1771
  have ni1805 : t1 ∉ [cm, bvs, x1, x2] := ninS (Ne.symm (Exa.neArv f0_.e f11_ (w3 hw))) (ninS (Ne.symm ne_bvs_t1) (ninS (Ne.symm (Exa.neArv f8_.e f11_ (w56 hw))) (ninS (Ne.symm (Exa.neArv f9_.e f11_ (w56 hw))) nin0)))
  have f1804 := f11_.keep K1791 ni1805
  have f1806 := (V_g1.other W1743 (Ne.symm ne_g0_g1)).other W1778 (Ne.symm ne_g0_g1)
  have y1807 := rP 1 61 _ [.int 1, .ref kr, .ref t1, .int 0, .ref g1] y1802 X1802 hx D rfl
  have y1808 := iP y1807 X1802 hx hZ e1802 f1803 D
  have y1809 := dP y1808 X1802 hx hZ e1802 f1804 D
  obtain ⟨T1810, h1810, X1810, e1810, W1810, V1810, y1810⟩ := own_dstK y1809 X1802 hx hZ e1802 f1806 rfl rfl (D 63 rfl) ⟨by decide, by decide⟩ 0 rfl (Nat.le_of_ble_eq_true rfl)
  have f1811 := f1779.other W1810 ne_gm_g1
  have ne1812 := own_ltn f0_.e.lt sz_g1
  have b1813 := b1780.other W1810 ne1812
  have y1814 := rP 7 31 [vr cm, vi 2, vr gm, vi 1, vi 1, un, un] [.int 1, .ref gm] y1810 X1810 hx D rfl
  have y1815 := aP y1814 X1810 hx hZ e1810 f1811 D
  have y1816 := rP 2 35 _ [.ref cm, .int 1, .ref g1] y1815 X1810 hx D rfl
  obtain ⟨T1817, X1817, e1817, y1817⟩ := gP y1816 X1810 hx hZ hown (w35 hw) e1810 b1813.f3 D
  have y1818 := rP 1 39 _ [.ref cm, .ref al, .int 1, .ref g1] y1817 X1817 hx D rfl
  obtain ⟨T1819, X1819, e1819, y1819⟩ := gP y1818 X1817 hx hZ hown (w40 hw) e1817 b1813.f7 D
  have ne1820 := own_ltn f2_.lt sz_g1
  have f1821 := f1788.other W1810 ne1820
  have ne1822 := own_ltn f5_.e.lt sz_g1
  have b1823 := b1789.other W1810 ne1822
  have ne1824 := own_ltn f6_.lt sz_g1
  have f1825 := f1790.other W1810 ne1824
  have K1826 := K1791.wr W1810 (Or.inr sz_g1)
  have y1829 := rP 1 44 _ [.int 1, .ref kc, .ref al, .int 1, .ref g1] y1819 X1819 hx D rfl
  have y1830 := iP y1829 X1819 hx hZ e1819 f1821 D
  obtain ⟨_, T1828, L1828, X1828, ⟨rfl, Nq1828, eq1828⟩, y1828⟩ := cF y1830 X1819 hx hZ hown hml.symm (own_V10 hw) (rmGet0 l Z a0 hw [] al ed k_ed x1 x2 h1810 n0 (Nat.le_trans Z0 K1826.1) b1823 f1825 f7_) 2 b1823.e e1819 [.int 0] [.int 1, .ref g1] D
  have ne1832 := own_ltn f8_.e.lt sz_g1
  have b1833 := (b1766.other W1778 ne1765).other W1810 ne1832
  obtain ⟨T1831, X1831, e1831, st1831⟩ := castY X1828 hx hZ hown (w55 hw) eq1828 (Ins.self b1833.e) (g := (mkF m 50 #[vr cm, vi 2, vr gm, vi 1, vi 1, un, un] [.ref x1, .int 1, .ref g1])) rfl rfl (D 50 rfl)
  have y1834 := fun (τ : State) kt => y1828 τ (st1831 τ kt)
  obtain ⟨T1835, X1835, e1835, y1835⟩ := own_getS y1834 X1831 hx hZ hown (w166 hw) e1831 b1833.f0 rfl rfl (D 53 rfl)
  have y1836 := rP 1 57 _ [.ref cm, .ref t0, .int 1, .ref g1] y1835 X1835 hx D rfl
  obtain ⟨T1837, X1837, e1837, y1837⟩ := gP y1836 X1835 hx hZ hown (w38 hw) e1835 b1813.f6 D
  have ne1838 := own_ltn f1_.lt sz_g1
  have f1839 := f1803.other W1810 ne1838
  have f1840 := f10_.keep K1826 ni1774
  have y1841 := rP 1 61 _ [.int 1, .ref kr, .ref t0, .int 1, .ref g1] y1837 X1837 hx D rfl
  have y1842 := iP y1841 X1837 hx hZ e1837 f1839 D
  have y1843 := dP y1842 X1837 hx hZ e1837 f1840 D
  obtain ⟨T1844, h1844, X1844, e1844, W1844, V1844, y1844⟩ := own_dstK y1843 X1837 hx hZ e1837 V1810 rfl rfl (D 63 rfl) ⟨by decide, by decide⟩ 1 rfl (Nat.le_of_ble_eq_true rfl)
  have f1845 := f1811.other W1844 ne_gm_g1
  have f1846 := (((EX_gm.wr W1743).wr W1778).wr W1810).wr W1844
  have f1847 := (V1778.other W1810 ne_g0_g1).other W1844 ne_g0_g1
  have f1848 := (((RR1712_0.2.wr W1743).wr W1778).wr W1810).wr W1844
  have f1849 := (((RR1712_1.2.wr W1743).wr W1778).wr W1810).wr W1844
  have K1850 := K1826.wr W1844 (Or.inr sz_g1)
  have y1853 := rP 6 73 [vr cm, vi 2, vr gm, vi 2, vi 2, un, un] [] y1844 X1844 hx D rfl
  have y1854 := rP 6 78 _ [.ref gm, .ref cm] y1853 X1844 hx D rfl
  obtain ⟨_, T1852, L1852, X1852, ⟨vx1851, iv, i0, i1, k_iv, k_i0, k_i1, rfl, Nq1852, Kq1852, g1851_iv, z1851_iv, g1851_i0, z1851_i0, g1851_i1, z1851_i1, w1851_0, p1851_0, p1851_1, p1851_2, p1851_3, p1851_4, p1851_5, p1851_6, x1851_vx⟩, y1852⟩ := cS y1854 X1844 hx hZ hown hml.symm (own_V12 hw) (rmOf2 l Z a0 hw [] gm g0 g1 cA1712 cm1712 cm1712 xe h1844 n0 (Nat.le_trans Z0 K1850.1) f1845 O1712 f1846 f1847 f1848 V1844 f1849 ne_g0_g1 ok_xe) 1 e1844 [.ref gm] [.ref cm] D
  have sz_iv := Nat.le_trans K1850.1 z1851_iv
  have sz_i0 := Nat.le_trans K1850.1 z1851_i0
  have sz_i1 := Nat.le_trans K1850.1 z1851_i1
  have b1855 := (b1813.other W1844 ne1812).keep Kq1852 nin0
  obtain ⟨T1856, h1856, X1856, e1856, W1856, fw1856, y1856⟩ := own_putK y1852 X1852 hx hZ hown (w106 hw) Via.refl rfl b1855.f8 b1855.e (Or.inl (w107 hw)) (w3 hw) (.array (.array .double)) (by decide) rfl rfl rfl rfl (D 81 rfl)
  have b1857 := b1855.p8 hw W1856
  have K1858 := (K1850.trans Kq1852 (all0)).wr W1856 (Or.inl (by simp))
  have ni1860 : kr ∉ [cm, bvs, x1, x2] := ninS (Ne.symm (Exa.neArv f0_.e f1_ (w3 hw))) (ninS (own_arv_ne f1_ f4_ (by decide)) (ninS (Ne.symm (Exa.neArv f8_.e f1_ (w56 hw))) (ninS (Ne.symm (Exa.neArv f9_.e f1_ (w56 hw))) nin0)))
  have f1859 := f1_.keep K1858 ni1860
  have y1863 := rP 2 86 _ [.int 0, .ref cm] y1856 X1856 hx D rfl
  obtain ⟨_, T1862, L1862, X1862, ⟨rfl, Nq1862, eq1862⟩, y1862⟩ := cP y1863 X1856 hx hZ hown hml.symm (own_V13 hw) (rmKi2 l Z a0 hw [] cm kr k_kr h1856 n0 (Nat.le_trans Z0 K1858.1) b1857.e b1857.f6 f1859) 0 b1857.e e1856 [.int 0] [] D
  obtain ⟨T1864, h1864, k1864, X1864, e1864, E1864, A1864, st1864⟩ := newP (aty := .double) X1862 hx hZ (w42 hw) eq1862 (g := (mkF m 92 #[vr cm, vi 2, vr gm, vi 0, vi 2, un, un] [.int 2, .ref cm])) rfl (D 92 rfl) rfl (by decide) (cap := 2) (by decide) (by decide) (by decide) (by decide)
  obtain ⟨kv, g1864⟩ : ∃ z, z = h1856.size := ⟨_, rfl⟩
  rw [← g1864] at A1864 st1864
  have g_kv : n0 ≤ kv := Nat.le_trans (Nat.le_trans Z0 K1858.1) (Nat.le_of_eq g1864.symm)
  have sz_kv : h0.size ≤ kv := Nat.le_trans K1858.1 (Nat.le_of_eq g1864.symm)
  have V_kv : Arv Z h1864 kv k1864 .double (2 : Int32) [.double 0, .double 0] (.double 0) := (Arv.new A1864 (by decide)).pad (pad_rep [] (.double 0) 2)
  have y1865 := rP 3 92 [vr cm, vi 2, vr gm, vi 0, vi 2, un, un] [.int 2, .ref cm] y1862 X1862 hx D rfl
  have y1866 := fun (τ : State) kt => y1865 τ (st1864 τ kt)
  have b1867 := b1857.ext E1864
  obtain ⟨T1868, h1868, X1868, e1868, W1868, fw1868, y1868⟩ := own_putK y1866 X1864 hx hZ hown (w188 hw) Via.refl e1864 b1867.f9 b1867.e (Or.inl (w189 hw)) (w3 hw) (.array .double) (by decide) rfl rfl rfl rfl (D 94 rfl)
  have b1869 := b1867.p9 hw W1868
  have y1870 := rP 6 107 [vr cm, vi 2, vr gm, vi 0, vi 0, un, un] [.ref cm] y1868 X1868 hx D rfl
  obtain ⟨T1871, X1871, e1871, y1871⟩ := gP y1870 X1868 hx hZ hown (w188 hw) e1868 b1869.f9 D
  have y1872 := rP 2 113 _ [.ref cm, .int 0, .ref kv] y1871 X1871 hx D rfl
  obtain ⟨T1873, X1873, e1873, y1873⟩ := gP y1872 X1871 hx hZ hown (w106 hw) e1871 b1869.f8 D
  have ne1874 := own_ltn f0_.e.lt sz_iv
  have f1875 := ((p1851_0.other W1856 (Ne.symm ne1874)).ext E1864).other W1868 (Ne.symm ne1874)
  have ne1876 := own_ltn f0_.e.lt sz_i0
  have f1877 := ((p1851_3.other W1856 (Ne.symm ne1876)).ext E1864).other W1868 (Ne.symm ne1876)
  have ne1878 := own_ltn f0_.e.lt sz_kv
  have f1879 := V_kv.other W1868 (Ne.symm ne1878)
  have y1880 := rP 1 118 _ [.int 0, .ref iv, .int 0, .ref kv] y1873 X1873 hx D rfl
  have y1881 := aP y1880 X1873 hx hZ e1873 f1875 D
  have y1882 := rP 1 120 _ [.int 0, .ref i0, .int 0, .ref kv] y1881 X1873 hx D rfl
  have y1883 := dP y1882 X1873 hx hZ e1873 f1877 D
  obtain ⟨T1884, h1884, X1884, e1884, W1884, V1884, y1884⟩ := own_dstK y1883 X1873 hx hZ e1873 f1879 rfl rfl (D 121 rfl) ⟨by decide, by decide⟩ 0 rfl (Nat.le_of_ble_eq_true rfl)
  have b1885 := b1869.other W1884 ne1878
  have y1886 := rP 6 107 [vr cm, vi 2, vr gm, vi 0, vi 1, un, un] [.ref cm] y1884 X1884 hx D rfl
  obtain ⟨T1887, X1887, e1887, y1887⟩ := gP y1886 X1884 hx hZ hown (w188 hw) e1884 b1885.f9 D
  have y1888 := rP 2 113 _ [.ref cm, .int 1, .ref kv] y1887 X1887 hx D rfl
  obtain ⟨T1889, X1889, e1889, y1889⟩ := gP y1888 X1887 hx hZ hown (w106 hw) e1887 b1885.f8 D
  have ne1890 := own_ltn (own_up p1851_0.lt (Keep.of_wr W1856).1) (Nat.le_of_eq g1864.symm)
  have f1891 := f1875.other W1884 ne1890
  have ne1892 := own_ltn f0_.e.lt sz_i1
  have ne1893 := own_ltn (own_up p1851_5.lt (Keep.of_wr W1856).1) (Nat.le_of_eq g1864.symm)
  have f1894 := (((p1851_5.other W1856 (Ne.symm ne1892)).ext E1864).other W1868 (Ne.symm ne1892)).other W1884 ne1893
  have y1895 := rP 1 118 _ [.int 1, .ref iv, .int 1, .ref kv] y1889 X1889 hx D rfl
  have y1896 := aP y1895 X1889 hx hZ e1889 f1891 D
  have y1897 := rP 1 120 _ [.int 0, .ref i1, .int 1, .ref kv] y1896 X1889 hx D rfl
  have y1898 := dP y1897 X1889 hx hZ e1889 f1894 D
  obtain ⟨T1899, h1899, X1899, e1899, W1899, V1899, y1899⟩ := own_dstK y1898 X1889 hx hZ e1889 V1884 rfl rfl (D 121 rfl) ⟨by decide, by decide⟩ 1 rfl (Nat.le_of_ble_eq_true rfl)
  have b1900 := b1885.other W1899 ne1878
  have y1901 := rP 7 130 [vr cm, vi 2, vr gm, vi 0, vi 2, un, un] [.ref cm, .ref cm] y1899 X1899 hx D rfl
  obtain ⟨T1902, X1902, e1902, y1902⟩ := gP y1901 X1899 hx hZ hown (w188 hw) e1899 b1900.f9 D
  have K1903 := (((K1858.ext E1864).wr W1868 (Or.inl (by simp))).wr W1884 (Or.inr sz_kv)).wr W1899 (Or.inr sz_kv)
  have ni1905 : kc ∉ [cm, bvs, x1, x2] := ninS (Ne.symm (Exa.neArv f0_.e f2_ (w3 hw))) (ninS (own_arv_ne f2_ f4_ (by decide)) (ninS (Ne.symm (Exa.neArv f8_.e f2_ (w56 hw))) (ninS (Ne.symm (Exa.neArv f9_.e f2_ (w56 hw))) nin0)))
  have f1904 := f2_.keep K1903 ni1905
  have ni1907 : al ∉ [cm, bvs, x1, x2] := ninS (Ne.symm (Exa.ne f0_.e f5_.e (by decide))) (ninS (Exa.neArv f5_.e f4_ (w12 hw)) (ninS (Exa.ne f5_.e f8_.e (by decide)) (ninS (Exa.ne f5_.e f9_.e (by decide)) nin0)))
  have b1906 := f5_.keep K1903 ni1907
  have ni1909 : ed ∉ [cm, bvs, x1, x2] := ninS (Ne.symm (Exa.neArv f0_.e f6_ (w3 hw))) (ninS (Ne.symm (own_arv_ne f4_ f6_ (by decide))) (ninS (Ne.symm (Exa.neArv f8_.e f6_ (w56 hw))) (ninS (Ne.symm (Exa.neArv f9_.e f6_ (w56 hw))) nin0)))
  have f1908 := f6_.keep K1903 ni1909
  have ne1910 := own_ltn f8_.e.lt sz_kv
  have b1911 := ((((((b1833.other W1844 ne1832).keep Kq1852 nin0).other W1856 (Ne.symm (Exa.ne f0_.e f8_.e (by decide)))).ext E1864).other W1868 (Ne.symm (Exa.ne f0_.e f8_.e (by decide)))).other W1884 ne1910).other W1899 ne1910
  have ne1912 := own_ltn f9_.e.lt sz_g1
  have ne1913 := own_ltn f9_.e.lt sz_kv
  have b1914 := (((((((b1798.other W1810 ne1912).other W1844 ne1912).keep Kq1852 nin0).other W1856 (Ne.symm (Exa.ne f0_.e f9_.e (by decide)))).ext E1864).other W1868 (Ne.symm (Exa.ne f0_.e f9_.e (by decide)))).other W1884 ne1913).other W1899 ne1913
  have f1915 := f10_.keep K1903 ni1774
  have f1916 := f11_.keep K1903 ni1805
  have ne1917 := own_ltn f10_.lt sz_kv
  have ne1918 := own_ltn f11_.lt sz_kv
  obtain ⟨_, T1920, L1920, X1920, ⟨cx1919, ca, k_ca, rfl, Nq1920, Kq1920, g1919_ca, z1919_ca, p1919_0, x1919_cx⟩, y1920⟩ := cP y1902 X1902 hx hZ hown hml.symm (own_V14 hw) (rmCb2 l Z a0 hw [] cm kv kc al ed x1 x2 t0 t1 k_kc k1864 k_ed k_t0 k_t1 xe vx1851 h1899 n0 (Nat.le_trans Z0 K1903.1) b1900.e b1900.f1 b1900.f3 b1900.f7 f1904 V1899 b1906 f1908 f7_ b1911.e b1911.f0 b1914.e b1914.f0 f1915 f1916 (Ne.symm ne1917) (Ne.symm ne1918) ne_x1_x2 ne_t0_t1 ok_xe x1851_vx) 0 b1900.e e1902 [.ref kv] [] D
  have sz_ca := Nat.le_trans K1903.1 z1919_ca
  have b1921 := b1900.keep Kq1920 nin0
  have y1922 := rP 3 141 [vr cm, vi 2, vr gm, vi 0, vr ca, vi 0, un] [] y1920 X1920 hx D rfl
  have y1923 := rP 2 144 _ [.ref cm, .int 0] y1922 X1920 hx D rfl
  obtain ⟨T1924, X1924, e1924, y1924⟩ := gP y1923 X1920 hx hZ hown (w45 hw) rfl b1921.f0 D
  have y1925 := rP 2 151 _ [.ref cm] y1924 X1924 hx D rfl
  obtain ⟨T1926, X1926, e1926, y1926⟩ := gP y1925 X1924 hx hZ hown (w53 hw) e1924 b1921.f5 D
  have y1927 := rP 2 157 _ [.ref cm, .int 0, .ref bvs] y1926 X1926 hx D rfl
  obtain ⟨T1928, X1928, e1928, y1928⟩ := gP y1927 X1926 hx hZ hown (w51 hw) e1926 b1921.f4 D
  have K1929 := K1903.trans Kq1920 (all0)
  have ni1931 : sd ∉ [cm, bvs, x1, x2] := ninS (Ne.symm (Exa.neArv f0_.e f3_ (w3 hw))) (ninS (own_arv_ne f3_ f4_ (by decide)) (ninS (Ne.symm (Exa.neArv f8_.e f3_ (w56 hw))) (ninS (Ne.symm (Exa.neArv f9_.e f3_ (w56 hw))) nin0)))
  have f1930 := f3_.keep K1929 ni1931
  have ne1932 := own_ltn f4_.lt sz_g0
  have ne1933 := own_ltn f4_.lt sz_g1
  have ne1934 := own_ltn f4_.lt sz_kv
  have f1935 := (((((((((((f4_.ext E1712).other W1743 ne1932).other W1778 ne1932).other W1810 ne1933).other W1844 ne1933).keep Kq1852 nin0).other W1856 (Ne.symm (Exa.neArv f0_.e f4_ (w3 hw)))).ext E1864).other W1868 (Ne.symm (Exa.neArv f0_.e f4_ (w3 hw)))).other W1884 ne1934).other W1899 ne1934).keep Kq1920 nin0
  have y1936 := rP 1 162 _ [.int 0, .ref sd, .int 0, .ref bvs] y1928 X1928 hx D rfl
  have y1937 := iP y1936 X1928 hx hZ e1928 f1930 D
  have y1938 := rP 3 191 _ [.double 0, .int 0, .ref bvs] y1937 X1928 hx D rfl
  obtain ⟨T1939, h1939, X1939, e1939, W1939, V1939, y1939⟩ := own_dstK y1938 X1928 hx hZ e1928 f1935 rfl rfl (D 191 rfl) ⟨by decide, by decide⟩ 0 rfl (Nat.le_of_ble_eq_true rfl)
  have b1940 := b1921.other W1939 (Exa.neArv f0_.e f4_ (w3 hw))
  have y1941 := rP 4 144 [vr cm, vi 2, vr gm, vi 0, vr ca, vi 1, un] [.ref cm, .int 1] y1939 X1939 hx D rfl
  obtain ⟨T1942, X1942, e1942, y1942⟩ := gP y1941 X1939 hx hZ hown (w45 hw) e1939 b1940.f0 D
  have y1943 := rP 7 208 [vr cm, vi 2, vr gm, vi 0, vr ca, vi 0, un] [.ref cm] y1942 X1942 hx D rfl
  obtain ⟨T1944, X1944, e1944, y1944⟩ := gP y1943 X1942 hx hZ hown (w188 hw) e1942 b1940.f9 D
  have y1945 := rP 3 215 _ [.ref cm, .double 0, .int 0, .ref kv] y1944 X1944 hx D rfl
  obtain ⟨T1946, X1946, e1946, y1946⟩ := gP y1945 X1944 hx hZ hown (w188 hw) e1944 b1940.f9 D
  have f1947 := (V1899.keep Kq1920 nin0).other W1939 (Ne.symm ne1934)
  have y1948 := rP 1 220 _ [.int 0, .ref kv, .double 0, .int 0, .ref kv] y1946 X1946 hx D rfl
  have y1949 := dP y1948 X1946 hx hZ e1946 f1947 D
  obtain ⟨T1950, X1950, e1950, y1950⟩ := own_maxR (W := 2) y1949 X1946 hx hZ hown (w111 hw) (w112 hw) (w96 hw) (w113 hw) e1946 (own_ok_no own_okc_0) (own_ok_no own_okc_4607182418800017408) rfl hml.symm rfl (Nat.le_of_eq rfl) (D 221 rfl) (by decide) (by decide) (by decide) (by decide)
  have y1951 := nD y1950 own_q13
  obtain ⟨T1952, h1952, X1952, e1952, W1952, V1952, y1952⟩ := own_dstK y1951 X1950 hx hZ e1950 f1947 rfl rfl (D 224 rfl) ⟨by decide, by decide⟩ 0 rfl (Nat.le_of_ble_eq_true rfl)
  have b1953 := b1940.other W1952 ne1878
  have y1954 := rP 6 208 [vr cm, vi 2, vr gm, vi 0, vr ca, vi 1, un] [.ref cm] y1952 X1952 hx D rfl
  obtain ⟨T1955, X1955, e1955, y1955⟩ := gP y1954 X1952 hx hZ hown (w188 hw) e1952 b1953.f9 D
  have y1956 := rP 3 215 _ [.ref cm, .double 0, .int 1, .ref kv] y1955 X1955 hx D rfl
  obtain ⟨T1957, X1957, e1957, y1957⟩ := gP y1956 X1955 hx hZ hown (w188 hw) e1955 b1953.f9 D
  have y1958 := rP 1 220 _ [.int 1, .ref kv, .double 0, .int 1, .ref kv] y1957 X1957 hx D rfl
  have y1959 := dP y1958 X1957 hx hZ e1957 V1952 D
  obtain ⟨T1960, X1960, e1960, y1960⟩ := own_maxR (W := 2) y1959 X1957 hx hZ hown (w111 hw) (w112 hw) (w96 hw) (w113 hw) e1957 (own_ok_no own_okc_0) (own_ok_no x1851_vx) rfl hml.symm rfl (Nat.le_of_eq rfl) (D 221 rfl) (by decide) (by decide) (by decide) (by decide)
  obtain ⟨T1961, h1961, X1961, e1961, W1961, V1961, y1961⟩ := own_dstK y1960 X1960 hx hZ e1960 V1952 rfl rfl (D 224 rfl) ⟨by decide, by decide⟩ 1 rfl (Nat.le_of_ble_eq_true rfl)
  have b1962 := b1953.other W1961 ne1878
  have y1963 := rP 6 232 [vr cm, vi 2, vr gm, vi 0, vr ca, vi 2, un] [.ref cm] y1961 X1961 hx D rfl
  obtain ⟨T1964, X1964, e1964, y1964⟩ := gP y1963 X1961 hx hZ hown (w35 hw) e1961 b1962.f3 D
  have K1965 := ((K1929.wr W1939 (Or.inl (by simp))).wr W1952 (Or.inr sz_kv)).wr W1961 (Or.inr sz_kv)
  have b1966 := f5_.keep K1965 ni1907
  obtain ⟨_, T1968, L1968, X1968, ⟨it, rfl, Nq1968, Kq1968, g1967_it, z1967_it, p1967_0⟩, y1968⟩ := cF y1964 X1964 hx hZ hown hml.symm (own_V7 hw) (rmIt l Z a0 hw [] al ed h1961 n0 (Nat.le_trans Z0 K1965.1) b1966) 0 b1966.e e1964 [] [] D
  have sz_it := Nat.le_trans K1965.1 z1967_it
  have b1969 := b1966.keep Kq1968 nin0
  have K1970 := K1965.trans Kq1968 (all0)
  have y1973 := rP 2 244 [vr cm, vi 2, vr gm, vi 0, vr ca, vr it, un] [.ref it] y1968 X1968 hx D rfl
  obtain ⟨_, T1972, L1972, X1972, ⟨rfl, Nq1972, eq1972⟩, y1972⟩ := cF y1973 X1968 hx hZ hown hml.symm (own_V8 hw) (rmHn0 l Z a0 hw [] it al ed T1968.heap n0 (Nat.le_trans Z0 K1970.1) p1967_0 b1969) 0 p1967_0.e rfl [] [] D
  have f1974 := f6_.keep K1970 ni1909
  have y1977 := rP 2 254 _ [.ref it] y1972 X1972 hx D rfl
  obtain ⟨_, T1976, L1976, X1976, ⟨rfl, Nq1976, Kq1976, p1975_0⟩, y1976⟩ := cF y1977 X1972 hx hZ hown hml.symm (own_V9 hw) (rmNx0 l Z a0 hw [] it al ed k_ed x1 x2 T1968.heap n0 (Nat.le_trans Z0 K1970.1) p1967_0 b1969 f1974 f7_ g1967_it) 0 p1967_0.e eq1972 [] [] D
  have ne1979 := own_ltn f8_.e.lt sz_it
  have b1980 := (((((b1911.keep Kq1920 nin0).other W1939 (Exa.neArv f8_.e f4_ (w56 hw))).other W1952 ne1910).other W1961 ne1910).keep Kq1968 nin0).keep Kq1976 (ninS ne1979 nin0)
  obtain ⟨T1978, X1978, e1978, st1978⟩ := castY X1976 hx hZ hown (w55 hw) rfl (Ins.self b1980.e) (g := (mkF m 259 #[vr cm, vi 2, vr gm, vi 0, vr ca, vr it, un] [.ref x1])) rfl rfl (D 259 rfl)
  have y1981 := fun (τ : State) kt => y1976 τ (st1978 τ kt)
  have ne1982 := own_ltn f0_.e.lt sz_it
  have b1983 := (b1962.keep Kq1968 nin0).keep Kq1976 (ninS ne1982 nin0)
  have K1984 := K1970.trans Kq1976 (allS (Or.inr sz_it) (all0))
  have f1985 := f3_.keep K1984 ni1931
  have f1986 := f10_.keep K1984 ni1774
  have y1989 := rP 3 267 [vr cm, vi 2, vr gm, vi 0, vr ca, vr it, vr x1] [.ref x1, .ref cm] y1981 X1978 hx D rfl
  obtain ⟨_, T1988, L1988, X1988, ⟨rfl, Nq1988, Kq1988, p1987_0⟩, y1988⟩ := cP y1989 X1978 hx hZ hown hml.symm (own_V15 hw) (rmAf0 l Z a0 hw [] cm x1 sd t0 k_sd k_t0 cv0 p0 z0 (0 : UInt64) (4607182418800017408 : UInt64) (1 : Int32) T1976.heap n0 (Nat.le_trans Z0 K1984.1) b1983.e b1983.f0 b1983.f4 f1985 b1980 f1986 gg_x1 own_okc_4607182418800017408) 0 b1983.e e1978 [.ref x1] [] D
  have b1990 := p1975_0.keep Kq1988 (ninS (Ne.symm ne1979) nin0)
  have K1991 := K1984.trans Kq1988 (allS (Or.inl (by simp)) (all0))
  have b1992 := f5_.keep K1991 ni1907
  have y1995 := rP 2 244 _ [.ref it] y1988 X1988 hx D rfl
  obtain ⟨_, T1994, L1994, X1994, ⟨rfl, Nq1994, eq1994⟩, y1994⟩ := cF y1995 X1988 hx hZ hown hml.symm (own_V8 hw) (rmHn1 l Z a0 hw [] it al ed T1988.heap n0 (Nat.le_trans Z0 K1991.1) b1990 b1992) 0 b1990.e rfl [] [] D
  have f1996 := f6_.keep K1991 ni1909
  have y1999 := rP 2 254 _ [.ref it] y1994 X1994 hx D rfl
  obtain ⟨_, T1998, L1998, X1998, ⟨rfl, Nq1998, Kq1998, p1997_0⟩, y1998⟩ := cF y1999 X1994 hx hZ hown hml.symm (own_V9 hw) (rmNx1 l Z a0 hw [] it al ed k_ed x1 x2 T1988.heap n0 (Nat.le_trans Z0 K1991.1) b1990 b1992 f1996 f7_ g1967_it) 0 b1990.e eq1994 [] [] D
  have ne2001 := own_ltn f9_.e.lt sz_it
  have b2002 := (((((((b1914.keep Kq1920 nin0).other W1939 (Exa.neArv f9_.e f4_ (w56 hw))).other W1952 ne1913).other W1961 ne1913).keep Kq1968 nin0).keep Kq1976 (ninS ne2001 nin0)).keep Kq1988 (ninS (Ne.symm ne_x1_x2) nin0)).keep Kq1998 (ninS ne2001 nin0)
  obtain ⟨T2000, X2000, e2000, st2000⟩ := castY X1998 hx hZ hown (w55 hw) rfl (Ins.self b2002.e) (g := (mkF m 259 #[vr cm, vi 2, vr gm, vi 0, vr ca, vr it, vr x1] [.ref x2])) rfl rfl (D 259 rfl)
  have y2003 := fun (τ : State) kt => y1998 τ (st2000 τ kt)
  have b2004 := (b1983.keep Kq1988 (ninS (Exa.ne f0_.e f8_.e (by decide)) nin0)).keep Kq1998 (ninS ne1982 nin0)
  have K2005 := K1991.trans Kq1998 (allS (Or.inr sz_it) (all0))
  have f2006 := f3_.keep K2005 ni1931
  have f2007 := f11_.keep K2005 ni1805
  have y2010 := rP 3 267 [vr cm, vi 2, vr gm, vi 0, vr ca, vr it, vr x2] [.ref x2, .ref cm] y2003 X2000 hx D rfl
  obtain ⟨_, T2009, L2009, X2009, ⟨rfl, Nq2009, Kq2009, p2008_0⟩, y2009⟩ := cP y2010 X2000 hx hZ hown hml.symm (own_V15 hw) (rmAf0 l Z a0 hw [] cm x2 sd t1 k_sd k_t1 cv1 p1 z1 (4607182418800017408 : UInt64) xe (1 : Int32) T1998.heap n0 (Nat.le_trans Z0 K2005.1) b2004.e b2004.f0 b2004.f4 f2006 b2002 f2007 gg_x2 ok_xe) 0 b2004.e e2000 [.ref x2] [] D
  have b2011 := p1997_0.keep Kq2009 (ninS (Ne.symm ne2001) nin0)
  have K2012 := K2005.trans Kq2009 (allS (Or.inl (by simp)) (all0))
  have b2013 := f5_.keep K2012 ni1907
  have y2016 := rP 2 244 _ [.ref it] y2009 X2009 hx D rfl
  obtain ⟨_, T2015, L2015, X2015, ⟨rfl, Nq2015, eq2015⟩, y2015⟩ := cF y2016 X2009 hx hZ hown hml.symm (own_V8 hw) (rmHn2 l Z a0 hw [] it al ed T2009.heap n0 (Nat.le_trans Z0 K2012.1) b2011 b2013) 0 b2011.e rfl [] [] D
  have b2017 := b2004.keep Kq2009 (ninS (Exa.ne f0_.e f9_.e (by decide)) nin0)
  have y2018 := rP 3 275 _ [.int 0, .ref cm] y2015 X2015 hx D rfl
  obtain ⟨T2019, h2019, X2019, e2019, W2019, fw2019, y2019⟩ := own_putK y2018 X2015 hx hZ hown (w243 hw) Via.refl eq2015 b2017.f12 b2017.e (Or.inl (w244 hw)) (w3 hw) .int (by decide) rfl rfl rfl rfl (D 275 rfl)
  have b2020 := b2017.p12 hw W2019
  have ne2021 := own_ltn f4_.lt sz_iv
  have ne2022 := own_ltn (own_up (own_up (own_up (own_up (own_up (own_up (own_up (own_up (own_up p1851_0.lt (Keep.of_wr W1856).1) E1864.1) (Keep.of_wr W1868).1) (Keep.of_wr W1884).1) (Keep.of_wr W1899).1) Kq1920.1) (Keep.of_wr W1939).1) (Keep.of_wr W1952).1) (Keep.of_wr W1961).1) z1967_it
  have ne2023 := own_ltn f8_.e.lt sz_iv
  have ne2024 := own_ltn f9_.e.lt sz_iv
  have f2025 := ((((((((((f1891.other W1899 ne1890).keep Kq1920 nin0).other W1939 (Ne.symm ne2021)).other W1952 ne1890).other W1961 ne1890).keep Kq1968 nin0).keep Kq1976 (ninS ne2022 nin0)).keep Kq1988 (ninS (Ne.symm ne2023) nin0)).keep Kq1998 (ninS ne2022 nin0)).keep Kq2009 (ninS (Ne.symm ne2024) nin0)).other W2019 (Ne.symm ne1874)
  have f2026 := ((((((((((((((p1851_2.wr W1856).ext E1864).wr W1868).wr W1884).wr W1899).keep Kq1920).wr W1939).wr W1952).wr W1961).keep Kq1968).keep Kq1976).keep Kq1988).keep Kq1998).keep Kq2009).wr W2019
  have ne2027 := own_ltn (own_up p1851_3.lt (Keep.of_wr W1856).1) (Nat.le_of_eq g1864.symm)
  have ne2028 := own_ltn f4_.lt sz_i0
  have ne2029 := own_ltn (own_up (own_up (own_up (own_up (own_up (own_up (own_up (own_up (own_up p1851_3.lt (Keep.of_wr W1856).1) E1864.1) (Keep.of_wr W1868).1) (Keep.of_wr W1884).1) (Keep.of_wr W1899).1) Kq1920.1) (Keep.of_wr W1939).1) (Keep.of_wr W1952).1) (Keep.of_wr W1961).1) z1967_it
  have ne2030 := own_ltn f8_.e.lt sz_i0
  have ne2031 := own_ltn f9_.e.lt sz_i0
  have f2032 := (((((((((((f1877.other W1884 ne2027).other W1899 ne2027).keep Kq1920 nin0).other W1939 (Ne.symm ne2028)).other W1952 ne2027).other W1961 ne2027).keep Kq1968 nin0).keep Kq1976 (ninS ne2029 nin0)).keep Kq1988 (ninS (Ne.symm ne2030) nin0)).keep Kq1998 (ninS ne2029 nin0)).keep Kq2009 (ninS (Ne.symm ne2031) nin0)).other W2019 (Ne.symm ne1876)
  have f2033 := ((((((((((((((p1851_4.wr W1856).ext E1864).wr W1868).wr W1884).wr W1899).keep Kq1920).wr W1939).wr W1952).wr W1961).keep Kq1968).keep Kq1976).keep Kq1988).keep Kq1998).keep Kq2009).wr W2019
  have ne2034 := own_ltn f4_.lt sz_i1
  have ne2035 := own_ltn (own_up (own_up (own_up (own_up (own_up (own_up (own_up (own_up (own_up p1851_5.lt (Keep.of_wr W1856).1) E1864.1) (Keep.of_wr W1868).1) (Keep.of_wr W1884).1) (Keep.of_wr W1899).1) Kq1920.1) (Keep.of_wr W1939).1) (Keep.of_wr W1952).1) (Keep.of_wr W1961).1) z1967_it
  have ne2036 := own_ltn f8_.e.lt sz_i1
  have ne2037 := own_ltn f9_.e.lt sz_i1
  have f2038 := ((((((((((f1894.other W1899 ne1893).keep Kq1920 nin0).other W1939 (Ne.symm ne2034)).other W1952 ne1893).other W1961 ne1893).keep Kq1968 nin0).keep Kq1976 (ninS ne2035 nin0)).keep Kq1988 (ninS (Ne.symm ne2036) nin0)).keep Kq1998 (ninS ne2035 nin0)).keep Kq2009 (ninS (Ne.symm ne2037) nin0)).other W2019 (Ne.symm ne1892)
  have f2039 := ((((((((((((((p1851_6.wr W1856).ext E1864).wr W1868).wr W1884).wr W1899).keep Kq1920).wr W1939).wr W1952).wr W1961).keep Kq1968).keep Kq1976).keep Kq1988).keep Kq1998).keep Kq2009).wr W2019
  have ne2040 := own_ltn (own_up (own_up (own_up (own_up (own_up (own_up (own_up V_kv.lt (Keep.of_wr W1868).1) (Keep.of_wr W1884).1) (Keep.of_wr W1899).1) Kq1920.1) (Keep.of_wr W1939).1) (Keep.of_wr W1952).1) (Keep.of_wr W1961).1) z1967_it
  have f2041 := (((((V1961.keep Kq1968 nin0).keep Kq1976 (ninS ne2040 nin0)).keep Kq1988 (ninS (Ne.symm ne1910) nin0)).keep Kq1998 (ninS ne2040 nin0)).keep Kq2009 (ninS (Ne.symm ne1913) nin0)).other W2019 (Ne.symm ne1878)
  have b2042 := ((p1987_0.keep Kq1998 (ninS ne1979 nin0)).keep Kq2009 (ninS ne_x1_x2 nin0)).other W2019 (Ne.symm (Exa.ne f0_.e f8_.e (by decide)))
  have b2043 := p2008_0.other W2019 (Ne.symm (Exa.ne f0_.e f9_.e (by decide)))
  have K2044 := K2012.wr W2019 (Or.inl (by simp))
  exact own_retV X2019 hlk y2019 hx hret (D 278 rfl) (by decide) (by decide) e2019 ⟨vx1851, (Native.java_lang_Math.nans.pick64 true (0 : UInt64) vx1851), iv, i0, i1, kv, k_iv, k_i0, k_i1, k1864, rfl, (Fr.snoc X2019 (Fr.app (Fr.app (Fr.app (Fr.app (Fr.app (Fr.app (Fr.app (Fr.app (Fr.snoc X1961 (Fr.snoc X1952 (Fr.snoc X1939 (Fr.app (Fr.snoc X1899 (Fr.snoc X1884 (Fr.snoc X1868 (Fr.app (Fr.snoc X1856 (Fr.app (Fr.snoc X1844 (Fr.app (Fr.snoc X1810 (Fr.app (Fr.snoc X1778 (Fr.app (Fr.snoc X1743 (Fr.app N0 Nq1729) g_g0) Nq1761) g_g0) Nq1793) g_g1) Nq1828) g_g1) Nq1852) gg_cm) Nq1862) gg_cm) g_kv) g_kv) Nq1920) gg_bvs) g_kv) g_kv) Nq1968) Nq1972) Nq1976) Nq1988) Nq1994) Nq1998) Nq2009) Nq2015) gg_cm), K2044, g1851_iv, sz_iv, g1851_i0, sz_i0, g1851_i1, sz_i1, g_kv, sz_kv, w1851_0, ne2027, ne1893, b2020, f2025, p1851_1, f2026, f2032, f2033, f2038, f2039, f2041, b2042, b2043, x1851_vx, (own_ok_mono (own_ok_max (k := 1) own_okc_0 x1851_vx (by decide) (by decide)) (by decide))⟩
def Q_rmAdC (Z : State) (cm : Addr) (iv_ : UInt64) (sl : Addr) (al ed du sd bvs x1 t0 : Addr) (k_ed k_sl k_du k_sd k_bvs k_t0 : ClassId) (cv0 sv uu xe co : UInt64) (sg : Int32) (pn0 zn0 pn1 zn1 : UInt64) (kr kc : Addr) (h0 : Heap) (n0 : Nat) (v : Option Value) (h : Heap) (L : List Loc) : Prop := ∃ (bv : UInt64) (kr2 : Addr) (kc2 : Addr) (t1 : Addr) (x2 : Addr) (iv : Addr) (i0 : Addr) (kv : Addr) (k_kr2 : ClassId) (k_kc2 : ClassId) (k_t1 : ClassId) (k_iv : ClassId) (k_i0 : ClassId) (k_kv : ClassId), v = some (.int 1) ∧ Fr n0 L ∧ Keep h0 h [cm, al, ed, sd, bvs, x1] ∧ n0 ≤ kr2 ∧ h0.size ≤ kr2 ∧ n0 ≤ kc2 ∧ h0.size ≤ kc2 ∧ n0 ≤ t1 ∧ h0.size ≤ t1 ∧ n0 ≤ x2 ∧ h0.size ≤ x2 ∧ n0 ≤ iv ∧ h0.size ≤ iv ∧ n0 ≤ i0 ∧ h0.size ≤ i0 ∧ n0 ≤ kv ∧ h0.size ≤ kv ∧ kr2 ≠ kc2 ∧ t1 ≠ i0 ∧ t1 ≠ kv ∧ i0 ≠ kv ∧ own_BC Z h cm (.int 1) (.int 2) (.int 2000) (.ref al) (.ref sd) (.ref bvs) (.ref kr2) (.ref kc2) (.ref iv) (.ref kv) (.double uu) (.ref du) (.int 0) ∧ own_BA Z h al (.ref ed) (.int 2) (.int 2) ∧ Arv Z h ed k_ed (.object "java/lang/Object") (10 : Int32) [.ref x1, .ref x2, .null, .null, .null, .null, .null, .null, .null, .null] .null ∧ Ovr Z k_ed "java/lang/Object" ∧ Arv Z h sd k_sd .int 1 [.int sg] (.int 0) ∧ Arv Z h bvs k_bvs .double (1 : Int32) [.double bv] (.double 0) ∧ own_BD Z h x1 (.ref t0) (.double cv0) (.double pn0) (.double zn0) (.int 0) ∧ Arv Z h kr2 k_kr2 .int 1 [.int 0] (.int 0) ∧ Arv Z h kc2 k_kc2 .int 1 [.int 1] (.int 0) ∧ Arv Z h t1 k_t1 .double (2 : Int32) [.double 4607182418800017408, .double xe] (.double 0) ∧ own_BD Z h x2 (.ref t1) (.double co) (.double pn1) (.double zn1) (.int 1) ∧ Arv Z h iv k_iv (.array .double) (1 : Int32) [.ref i0] .null ∧ OvrA Z k_iv .double "[D" ∧ Exa Z h iv "[[D" ∧ Arv Z h i0 k_i0 .double (1 : Int32) [.double 4607182418800017408] (.double 0) ∧ Exa Z h i0 "[D" ∧ Arv Z h kv k_kv .double (1 : Int32) [.double 4607182418800017408] (.double 0) ∧ own_ok 1 bv
theorem rmAdC (l : Launch) (Z : State) (a0 : Array Value) (hw : own_Hw a0 Z) (ws : List Jvm.Cond) (cm : Addr) (iv_ : UInt64) (sl : Addr) (al ed du sd bvs x1 t0 : Addr) (k_ed k_sl k_du k_sd k_bvs k_t0 : ClassId) (cv0 sv uu xe co : UInt64) (sg : Int32) (pn0 zn0 pn1 zn1 : UInt64) (kr kc : Addr) (h0 : Heap) (n0 : Nat) (Z0 : n0 ≤ h0.size) (f0_ : own_BC Z h0 cm (.int 1) (.int 2) (.int 2000) (.ref al) (.ref sd) (.ref bvs) (.ref kr) (.ref kc) .null .null (.double 0) (.ref du) (.int 0)) (f1_ : own_BA Z h0 al (.ref ed) (.int 1) (.int 1)) (f2_ : Arv Z h0 ed k_ed (.object "java/lang/Object") (10 : Int32) [.ref x1, .null, .null, .null, .null, .null, .null, .null, .null, .null] .null) (f3_ : Ovr Z k_ed "java/lang/Object") (f4_ : Arv Z h0 sl k_sl .double (1 : Int32) [.double sv] (.double 0)) (f5_ : Arv Z h0 du k_du .double (0 : Int32) [] (.double 0)) (f6_ : Arv Z h0 sd k_sd .int 1 [.int 0] (.int 0)) (f7_ : Arv Z h0 bvs k_bvs .double (1 : Int32) [.double 0] (.double 0)) (f8_ : own_BD Z h0 x1 (.ref t0) (.double cv0) (.double 0) (.double 0) (.int 0)) (f9_ : Arv Z h0 t0 k_t0 .double (2 : Int32) [.double 0, .double 4607182418800017408] (.double 0)) (ne_sl_du : sl ≠ du) (ne_sl_bvs : sl ≠ bvs) (ne_sl_t0 : sl ≠ t0) (ne_du_bvs : du ≠ bvs) (ne_du_t0 : du ≠ t0) (ne_bvs_t0 : bvs ≠ t0) (gg_cm : n0 ≤ cm) (gg_al : n0 ≤ al) (gg_ed : n0 ≤ ed) (gg_sd : n0 ≤ sd) (gg_bvs : n0 ≤ bvs) (gg_x1 : n0 ≤ x1) (huu : (Native.java_lang_Math.nans.pick64 true (4607182418800017408 : UInt64) (FP.dadd (iv_ &&& (9223372036854775807 : UInt64)) (sv &&& (9223372036854775807 : UInt64)))) = uu) (hxe : (FP.ddiv (FP.dneg sv) uu) = xe) (hco : (FP.ddiv iv_ uu) = co) (hsg : (sg = 1 ∧ ¬ ((cmpValue (FP.dcmp sv (0 : UInt64)) .l) < (0 : Int32))) ∨ (sg = -1 ∧ (cmpValue (FP.dcmp sv (0 : UInt64)) .l) < (0 : Int32))) (hR0 : own_R1 sg (4607182418800017408 : UInt64) pn0 zn0) (hR1 : own_R1 sg xe pn1 zn1) (hs0 : ¬ (sg = (0 : Int32))) (hsd : own_ok 1 (FP.i2d (-sg))) (ok_iv_ : own_ok 524288 iv_) (ok_sv : own_ok 524288 sv) (ok_xe : own_ok 1 xe) (ok_co : own_ok 1 co) : own_Met l Z own_mn28 prog_26_method_2_code 11 (some .boolean) ws ⟨5, 14, 26, 92⟩ #[.ref cm, .double iv_, .ref sl] h0 (Q_rmAdC Z cm iv_ sl al ed du sd bvs x1 t0 k_ed k_sl k_du k_sd k_bvs k_t0 cv0 sv uu xe co sg pn0 zn0 pn1 zn1 kr kc h0 n0) := by
  refine own_begS sC n0 [cm, al, ed, sd, bvs, x1] #[vr cm, vd iv_, .second, vr sl, un, un, un, un, un, un, un] oT12 (plainFor_of_name own_pn_sC) fun p e s m below meth c s₁ hx D hml hown hnm hret hlk hZ X0 e0 PS y0 N0 KK0 => ?_
  have y2045 := rP 1 1 _ [.ref cm] y0 X0 hx D rfl
  obtain ⟨T2046, X2046, e2046, y2046⟩ := gP y2045 X0 hx hZ hown (w106 hw) e0 f0_.f8 D
  have y2047 := rP 2 8 _ [.double iv_] y2046 X2046 hx D rfl
  obtain ⟨T2048, X2048, e2048, y2048⟩ := own_absR (W := 0) y2047 X2046 hx hZ hown (w108 hw) (w109 hw) (w96 hw) (w110 hw) e2046 (own_ok_no ok_iv_) rfl hml.symm rfl (Nat.le_of_eq rfl) (D 8 rfl) (by decide) (by decide) (by decide) (by decide)
  have y2049 := rP 3 16 [vr cm, vd iv_, .second, vr sl, .val (.double (iv_ &&& (9223372036854775807 : UInt64))), .second, vr sl, un, un, un, un] [] y2048 X2048 hx D rfl
  have y2050 := rP 1 18 _ [.ref sl] y2049 X2048 hx D rfl
  have y2051 := lP y2050 X2048 hx hZ e2048 f4_ D
  have y2052 := rP 3 24 [vr cm, vd iv_, .second, vr sl, .val (.double (iv_ &&& (9223372036854775807 : UInt64))), .second, vr sl, vi 1, vi 0, un, un] [] y2051 X2048 hx D rfl
  have y2053 := rP 5 35 _ [.int 0, .ref sl] y2052 X2048 hx D rfl
  have y2054 := dP y2053 X2048 hx hZ e2048 f4_ D
  have y2055 := rP 3 42 [vr cm, vd iv_, .second, vr sl, .val (.double (iv_ &&& (9223372036854775807 : UInt64))), .second, vr sl, vi 1, vi 0, vd sv, .second] [.double sv, (.double (iv_ &&& (9223372036854775807 : UInt64)))] y2054 X2048 hx D rfl
  obtain ⟨T2056, X2056, e2056, y2056⟩ := own_absR (W := 2) y2055 X2048 hx hZ hown (w108 hw) (w109 hw) (w96 hw) (w110 hw) e2048 (own_ok_no ok_sv) rfl hml.symm rfl (Nat.le_of_eq rfl) (D 42 rfl) (by decide) (by decide) (by decide) (by decide)
  have y2057 := own_daddP y2056 X2056 hx D (own_ok_no (own_ok_add (own_ok_abs ok_iv_) (own_ok_abs ok_sv) (by decide)))
  have y2058 := rP 2 51 [vr cm, vd iv_, .second, vr sl, .val (.double (FP.dadd (iv_ &&& (9223372036854775807 : UInt64)) (sv &&& (9223372036854775807 : UInt64)))), .second, vr sl, vi 1, vi 1, vd sv, .second] [] y2057 X2056 hx D rfl
  have y2059 := rP 7 58 _ [(.double (FP.dadd (iv_ &&& (9223372036854775807 : UInt64)) (sv &&& (9223372036854775807 : UInt64)))), .double 4607182418800017408, .ref cm] y2058 X2056 hx D rfl
  obtain ⟨T2060, X2060, e2060, y2060⟩ := own_maxR (W := 1) y2059 X2056 hx hZ hown (w111 hw) (w112 hw) (w96 hw) (w113 hw) e2056 (own_ok_no own_okc_4607182418800017408) (own_ok_no (own_ok_add (own_ok_abs ok_iv_) (own_ok_abs ok_sv) (by decide))) rfl hml.symm rfl (Nat.le_of_eq rfl) (D 58 rfl) (by decide) (by decide) (by decide) (by decide)
  have y2061 := nD y2060 huu
  obtain ⟨T2062, h2062, X2062, e2062, W2062, fw2062, y2062⟩ := own_putK y2061 X2060 hx hZ hown (w114 hw) Via.refl e2060 f0_.f10 f0_.e (Or.inl (w115 hw)) (w3 hw) .double (by decide) rfl rfl rfl rfl (D 61 rfl)
  have b2063 := f0_.p10 hw W2062
  have y2064 := rP 1 65 _ [.ref cm] y2062 X2062 hx D rfl
  obtain ⟨T2065, X2065, e2065, y2065⟩ := gP y2064 X2062 hx hZ hown (w47 hw) e2062 b2063.f1 D
  obtain ⟨T2066, h2066, k2066, X2066, e2066, E2066, A2066, st2066⟩ := newP (aty := .double) X2065 hx hZ (w42 hw) e2065 (g := (mkF m 68 #[vr cm, vd iv_, .second, vr sl, .val (.double (FP.dadd (iv_ &&& (9223372036854775807 : UInt64)) (sv &&& (9223372036854775807 : UInt64)))), .second, vr sl, vi 1, vi 1, vd sv, .second] [.int 2])) rfl (D 68 rfl) rfl (by decide) (cap := 2) (by decide) (by decide) (by decide) (by decide)
  obtain ⟨t1, g2066⟩ : ∃ z, z = h2062.size := ⟨_, rfl⟩
  rw [← g2066] at A2066 st2066
  have K2067 := KK0.wr W2062 (Or.inl (by simp))
  have g_t1 : n0 ≤ t1 := Nat.le_trans (Nat.le_trans Z0 K2067.1) (Nat.le_of_eq g2066.symm)
  have sz_t1 : h0.size ≤ t1 := Nat.le_trans K2067.1 (Nat.le_of_eq g2066.symm)
  have V_t1 : Arv Z h2066 t1 k2066 .double (2 : Int32) [.double 0, .double 0] (.double 0) := (Arv.new A2066 (by decide)).pad (pad_rep [] (.double 0) 2)
  have y2068 := fun (τ : State) kt => y2065 τ (st2066 τ kt)
  have y2069 := fun (τ : State) kt => y2068 τ (XS.astore X2066.here hx rfl (D 70 rfl) rfl rfl (l' := #[vr cm, vd iv_, .second, vr sl, vr t1, un, vr sl, vi 1, vi 1, vd sv, .second]) rfl kt)
  have y2070 := rP 3 76 _ [.double 4607182418800017408, .int 0, .ref t1] y2069 X2066 hx D rfl
  obtain ⟨T2071, h2071, X2071, e2071, W2071, V2071, y2071⟩ := own_dstK y2070 X2066 hx hZ e2066 V_t1 rfl rfl (D 76 rfl) ⟨by decide, by decide⟩ 0 rfl (Nat.le_of_ble_eq_true rfl)
  have K2072 := (K2067.ext E2066).wr W2071 (Or.inr sz_t1)
  have ni2074 : sl ∉ [cm, al, ed, sd, bvs, x1] := ninS (Ne.symm (Exa.neArv f0_.e f4_ (w3 hw))) (ninS (Ne.symm (Exa.neArv f1_.e f4_ (w12 hw))) (ninS (Ne.symm (own_arv_ne f2_ f4_ (by decide))) (ninS (own_arv_ne f4_ f6_ (by decide)) (ninS ne_sl_bvs (ninS (Ne.symm (Exa.neArv f8_.e f4_ (w56 hw))) nin0)))))
  have f2073 := f4_.keep K2072 ni2074
  have ne2075 := own_ltn f0_.e.lt sz_t1
  have b2076 := (b2063.ext E2066).other W2071 ne2075
  have y2077 := rP 4 83 [vr cm, vd iv_, .second, vr sl, vr t1, vi 0, vr sl, vi 1, vi 1, vd sv, .second] [.ref sl, .int 0] y2071 X2071 hx D rfl
  have y2078 := lP y2077 X2071 hx hZ e2071 f2073 D
  have y2079 := rP 7 96 _ [.int 0, .ref sl, .int 1, .ref t1] y2078 X2071 hx D rfl
  have y2080 := dP y2079 X2071 hx hZ e2071 f2073 D
  have y2081 := rP 2 99 _ [.ref cm, (.double (FP.dneg sv)), .int 1, .ref t1] y2080 X2071 hx D rfl
  obtain ⟨T2082, X2082, e2082, y2082⟩ := gP y2081 X2071 hx hZ hown (w114 hw) e2071 b2076.f10 D
  have y2083 := own_ddivP y2082 X2082 hx D (own_ok_no (hxe.symm ▸ ok_xe))
  have y2084 := nD y2083 hxe
  obtain ⟨T2085, h2085, X2085, e2085, W2085, V2085, y2085⟩ := own_dstK y2084 X2082 hx hZ e2082 V2071 rfl rfl (D 103 rfl) ⟨by decide, by decide⟩ 1 rfl (Nat.le_of_ble_eq_true rfl)
  have ne2086 := own_ltn f4_.lt sz_t1
  have f2087 := f2073.other W2085 ne2086
  obtain ⟨T2088, h2088, X2088, e2088, E2088, A2088, D2088, -, st2088⟩ := newO X2085 hx hZ hown (w55 hw) (w56 hw) (w57 hw) e2085 (g := (mkF m 110 #[vr cm, vd iv_, .second, vr sl, vr t1, vi 1, vr sl, vi 1, vi 1, vd sv, .second] [])) rfl (D 110 rfl) (by decide) (by decide)
  obtain ⟨x2, g2088⟩ : ∃ z, z = h2085.size := ⟨_, rfl⟩
  rw [← g2088] at A2088 D2088 st2088
  have K2089 := K2072.wr W2085 (Or.inr sz_t1)
  have g_x2 : n0 ≤ x2 := Nat.le_trans (Nat.le_trans Z0 K2089.1) (Nat.le_of_eq g2088.symm)
  have sz_x2 : h0.size ≤ x2 := Nat.le_trans K2089.1 (Nat.le_of_eq g2088.symm)
  have F_entries_x2 : Fld Z h2088 x2 sD "entries" "[D" .null := D2088 (Or.inr (w63 hw)) (ty := (.array .double)) (by decide)
  have F_cost_x2 : Fld Z h2088 x2 sD "cost" "D" (.double 0) := D2088 (Or.inr (w65 hw)) (ty := .double) (by decide)
  have F_atOne_x2 : Fld Z h2088 x2 sD "atOne" "D" (.double 0) := D2088 (Or.inl (w121 hw)) (ty := .double) (by decide)
  have F_sizeAtOne_x2 : Fld Z h2088 x2 sD "sizeAtOne" "D" (.double 0) := D2088 (Or.inl (w123 hw)) (ty := .double) (by decide)
  have F_basic_x2 : Fld Z h2088 x2 sD "basic" "Z" (.int 0) := D2088 (Or.inl (w133 hw)) (ty := .boolean) (by decide)
  have y2090 := rP 4 83 [vr cm, vd iv_, .second, vr sl, vr t1, vi 1, vr sl, vi 1, vi 1, vd sv, .second] [.ref sl, .int 1] y2085 X2085 hx D rfl
  have y2091 := lP y2090 X2085 hx hZ e2085 f2087 D
  have y2092 := rP 1 110 _ [] y2091 X2085 hx D rfl
  have y2093 := fun (τ : State) kt => y2092 τ (st2088 τ kt)
  have b2094 : own_BD Z h2088 x2 .null (.double 0) (.double 0) (.double 0) (.int 0) := ⟨A2088, F_entries_x2, F_cost_x2, F_atOne_x2, F_sizeAtOne_x2, F_basic_x2⟩
  have b2095 := (b2076.other W2085 ne2075).ext E2088
  have y2096 := rP 4 118 _ [.ref cm, .double iv_, .ref t1, .ref x2, .ref x2] y2093 X2088 hx D rfl
  obtain ⟨T2097, X2097, e2097, y2097⟩ := gP y2096 X2088 hx hZ hown (w114 hw) e2088 b2095.f10 D
  have K2098 := K2089.ext E2088
  obtain ⟨_, T2100, L2100, X2100, ⟨rfl, Nq2100, Kq2100, p2099_0⟩, st2100⟩ := own_specR (y := own_mn18) (b := x2) X2097 hx hZ rfl hown (w58 hw) (w59 hw) (by decide) (rmDn l Z a0 hw [] x2 t1 co h2088 n0 (Nat.le_trans Z0 K2098.1) b2094 g_x2) (w60 hw) (w57 hw) 1 (by decide) (by decide) e2097 (mkF m 122 #[vr cm, vd iv_, .second, vr sl, vr t1, vi 1, vr sl, vi 1, vi 1, vd sv, .second] [.double co, .ref t1, .ref x2, .ref x2]) rfl hml.symm [.ref t1, .double co] [.ref x2] rfl (lenOf own_pd___DD_V rfl) rfl (Nat.le_refl _) (D 122 rfl) (by decide) (by decide)
  have y2101 := own_ddivP y2097 X2097 hx D (own_ok_no (hco.symm ▸ ok_co))
  have y2102 := nD y2101 hco
  have y2103 := fun (τ : State) kt => y2102 τ (st2100 τ kt)
  have ne2104 := own_ltn f0_.e.lt sz_x2
  have b2105 := b2095.keep Kq2100 (ninS ne2104 nin0)
  have ne2106 := own_ltn f6_.lt sz_t1
  have ne2107 := own_ltn f6_.lt sz_x2
  have f2108 := (((((f6_.other W2062 (Ne.symm (Exa.neArv f0_.e f6_ (w3 hw)))).ext E2066).other W2071 ne2106).other W2085 ne2106).ext E2088).keep Kq2100 (ninS ne2107 nin0)
  have ne2109 := own_ltn (own_up (own_up V_t1.lt (Keep.of_wr W2071).1) (Keep.of_wr W2085).1) (Nat.le_of_eq g2088.symm)
  have f2110 := (V2085.ext E2088).keep Kq2100 (ninS ne2109 nin0)
  have K2111 := K2098.trans Kq2100 (allS (Or.inr sz_x2) (all0))
  have y2114 := rP 3 130 [vr cm, vd iv_, .second, vr sl, vr t1, vr x2, vr sl, vi 1, vi 1, vd sv, .second] [.ref x2, .ref cm] y2103 X2100 hx D rfl
  obtain ⟨_, T2113, L2113, X2113, ⟨rfl, Nq2113, Kq2113, p2112_0⟩, y2113⟩ := cP y2114 X2100 hx hZ hown hml.symm (own_V15 hw) (rmAf0 l Z a0 hw [] cm x2 sd t1 k_sd k2066 co (0 : UInt64) (0 : UInt64) (4607182418800017408 : UInt64) xe (0 : Int32) T2100.heap n0 (Nat.le_trans Z0 K2111.1) b2105.e b2105.f0 b2105.f4 f2108 p2099_0 f2110 g_x2 ok_xe) 0 b2105.e rfl [.ref x2] [] D
  have b2115 := b2105.keep Kq2113 (ninS ne2104 nin0)
  have y2116 := rP 1 134 _ [.ref cm] y2113 X2113 hx D rfl
  obtain ⟨T2117, X2117, e2117, y2117⟩ := gP y2116 X2113 hx hZ hown (w35 hw) rfl b2115.f3 D
  have ne2118 := own_ltn f1_.e.lt sz_t1
  have ne2119 := own_ltn f1_.e.lt sz_x2
  have b2120 := ((((((f1_.other W2062 (Ne.symm (Exa.ne f0_.e f1_.e (by decide)))).ext E2066).other W2071 ne2118).other W2085 ne2118).ext E2088).keep Kq2100 (ninS ne2119 nin0)).keep Kq2113 (ninS ne2119 nin0)
  have ne2121 := own_ltn f2_.lt sz_t1
  have ne2122 := own_ltn f2_.lt sz_x2
  have f2123 := ((((((f2_.other W2062 (Ne.symm (Exa.neArv f0_.e f2_ (w3 hw)))).ext E2066).other W2071 ne2121).other W2085 ne2121).ext E2088).keep Kq2100 (ninS ne2122 nin0)).keep Kq2113 (ninS ne2122 nin0)
  have K2124 := K2111.trans Kq2113 (allS (Or.inr sz_x2) (all0))
  have y2127 := rP 1 139 _ [.ref x2, .ref al] y2117 X2117 hx D rfl
  obtain ⟨_, T2126, L2126, X2126, ⟨rfl, Nq2126, Kq2126, p2125_0, p2125_1, p2125_2⟩, y2126⟩ := cF y2127 X2117 hx hZ hown hml.symm (own_V5 hw) (rmAdb l Z a0 hw [] al x2 ed k_ed x1 T2113.heap n0 (Nat.le_trans Z0 K2124.1) b2120 f2123 f3_ p2112_0.e gg_al gg_ed) 0 b2120.e e2117 [.ref x2] [] D
  have b2128 := b2115.keep Kq2126 (ninS (Exa.ne f0_.e f1_.e (by decide)) (ninS (Exa.neArv f0_.e f2_ (w3 hw)) nin0))
  have y2129 := rP 2 146 _ [.ref cm] y2126 X2126 hx D rfl
  obtain ⟨T2130, X2130, e2130, y2130⟩ := gP y2129 X2126 hx hZ hown (w106 hw) rfl b2128.f8 D
  obtain ⟨T2131, h2131, k2131, X2131, e2131, E2131, A2131, st2131⟩ := newP (aty := .int) X2130 hx hZ (w37 hw) e2130 (g := (mkF m 154 #[vr cm, vd iv_, .second, vr sl, vr t1, vr x2, vr sl, vi 1, vi 1, vd sv, .second] [.int 1, .ref cm])) rfl (D 154 rfl) rfl (by decide) (cap := 1) (by decide) (by decide) (by decide) (by decide)
  obtain ⟨kr2, g2131⟩ : ∃ z, z = T2126.heap.size := ⟨_, rfl⟩
  rw [← g2131] at A2131 st2131
  have K2132 := K2124.trans Kq2126 (allS (Or.inl (by simp)) (allS (Or.inl (by simp)) (all0)))
  have g_kr2 : n0 ≤ kr2 := Nat.le_trans (Nat.le_trans Z0 K2132.1) (Nat.le_of_eq g2131.symm)
  have sz_kr2 : h0.size ≤ kr2 := Nat.le_trans K2132.1 (Nat.le_of_eq g2131.symm)
  have V_kr2 : Arv Z h2131 kr2 k2131 .int 1 [.int 0] (.int 0) := (Arv.new A2131 (by decide)).pad (pad_rep [] (.int 0) 1)
  have y2133 := rP 3 154 _ [.int 1, .ref cm] y2130 X2130 hx D rfl
  have y2134 := fun (τ : State) kt => y2133 τ (st2131 τ kt)
  have y2135 := rP 3 159 _ [.int 0, .int 0, .ref kr2, .ref kr2, .ref cm] y2134 X2131 hx D rfl
  obtain ⟨T2136, h2136, X2136, e2136, W2136, V2136, y2136⟩ := own_istK y2135 X2131 hx hZ e2131 V_kr2 rfl rfl (D 159 rfl) ⟨by decide, by decide⟩ 0 rfl (Nat.le_of_ble_eq_true rfl)
  have ne2137 := own_ltn f0_.e.lt sz_kr2
  have b2138 := (b2128.ext E2131).other W2136 ne2137
  obtain ⟨T2139, h2139, X2139, e2139, W2139, fw2139, y2139⟩ := own_putK y2136 X2136 hx hZ hown (w38 hw) Via.refl e2136 b2138.f6 b2138.e (Or.inl (w39 hw)) (w3 hw) (.array .int) (by decide) rfl rfl rfl rfl (D 160 rfl)
  have b2140 := b2138.p6 hw W2139
  obtain ⟨T2141, h2141, k2141, X2141, e2141, E2141, A2141, st2141⟩ := newP (aty := .int) X2139 hx hZ (w37 hw) e2139 (g := (mkF m 165 #[vr cm, vd iv_, .second, vr sl, vr t1, vr x2, vr sl, vi 1, vi 1, vd sv, .second] [.int 1, .ref cm])) rfl (D 165 rfl) rfl (by decide) (cap := 1) (by decide) (by decide) (by decide) (by decide)
  obtain ⟨kc2, g2141⟩ : ∃ z, z = h2139.size := ⟨_, rfl⟩
  rw [← g2141] at A2141 st2141
  have K2142 := ((K2132.ext E2131).wr W2136 (Or.inr sz_kr2)).wr W2139 (Or.inl (by simp))
  have g_kc2 : n0 ≤ kc2 := Nat.le_trans (Nat.le_trans Z0 K2142.1) (Nat.le_of_eq g2141.symm)
  have sz_kc2 : h0.size ≤ kc2 := Nat.le_trans K2142.1 (Nat.le_of_eq g2141.symm)
  have V_kc2 : Arv Z h2141 kc2 k2141 .int 1 [.int 0] (.int 0) := (Arv.new A2141 (by decide)).pad (pad_rep [] (.int 0) 1)
  have y2143 := rP 2 165 _ [.int 1, .ref cm] y2139 X2139 hx D rfl
  have y2144 := fun (τ : State) kt => y2143 τ (st2141 τ kt)
  have b2145 := b2140.ext E2141
  have y2146 := rP 3 170 _ [.ref cm, .int 0, .ref kc2, .ref kc2, .ref cm] y2144 X2141 hx D rfl
  obtain ⟨T2147, X2147, e2147, y2147⟩ := gP y2146 X2141 hx hZ hown (w35 hw) e2141 b2145.f3 D
  have ne2148 := own_ltn f1_.e.lt sz_kr2
  have b2149 := (((p2125_0.ext E2131).other W2136 ne2148).other W2139 (Ne.symm (Exa.ne f0_.e f1_.e (by decide)))).ext E2141
  have K2150 := K2142.ext E2141
  obtain ⟨_, T2152, L2152, X2152, ⟨rfl, Nq2152, eq2152⟩, y2152⟩ := cF y2147 X2147 hx hZ hown hml.symm (own_V16 hw) (rmSz l Z a0 hw [] al ed h2141 n0 (Nat.le_trans Z0 K2150.1) b2149) 4 b2149.e e2147 [] [.int 0, .ref kc2, .ref kc2, .ref cm] D
  have y2153 := rP 2 180 _ [.int 1, .int 0, .ref kc2, .ref kc2, .ref cm] y2152 X2152 hx D rfl
  obtain ⟨T2154, h2154, X2154, e2154, W2154, V2154, y2154⟩ := own_istK y2153 X2152 hx hZ eq2152 V_kc2 rfl rfl (D 180 rfl) ⟨by decide, by decide⟩ 0 rfl (Nat.le_of_ble_eq_true rfl)
  have ne2155 := own_ltn f0_.e.lt sz_kc2
  have b2156 := b2145.other W2154 ne2155
  obtain ⟨T2157, h2157, X2157, e2157, W2157, fw2157, y2157⟩ := own_putK y2154 X2154 hx hZ hown (w40 hw) Via.refl e2154 b2156.f7 b2156.e (Or.inl (w41 hw)) (w3 hw) (.array .int) (by decide) rfl rfl rfl rfl (D 181 rfl)
  have b2158 := b2156.p7 hw W2157
  have ne2159 := own_ltn (own_up (own_up (own_up A2088.lt Kq2100.1) Kq2113.1) Kq2126.1) (Nat.le_of_eq g2131.symm)
  have ne2160 := own_ltn (own_up (own_up (own_up (own_up (own_up (own_up A2088.lt Kq2100.1) Kq2113.1) Kq2126.1) E2131.1) (Keep.of_wr W2136).1) (Keep.of_wr W2139).1) (Nat.le_of_eq g2141.symm)
  have b2161 := ((((((p2112_0.keep Kq2126 (ninS (Ne.symm ne2119) (ninS (Ne.symm ne2122) nin0))).ext E2131).other W2136 ne2159).other W2139 (Ne.symm ne2104)).ext E2141).other W2154 ne2160).other W2157 (Ne.symm ne2104)
  have y2162 := rP 2 187 _ [.int 1, .ref x2] y2157 X2157 hx D rfl
  obtain ⟨T2163, h2163, X2163, e2163, W2163, st2163⟩ := own_putR X2157 hx hZ hown (w132 hw) e2157 b2161.f4 b2161.e (w133 hw) (w56 hw) (ty := .boolean) (by decide) rfl rfl (g := (mkF m 187 #[vr cm, vd iv_, .second, vr sl, vr t1, vr x2, vr sl, vi 1, vi 1, vd sv, .second] [.int 1, .ref x2])) rfl rfl (D 187 rfl)
  have fw2163 := Fld.same W2163 b2161.f4
  have N2163 := Fr.snoc X2163 (Fr.snoc X2157 (Fr.snoc X2154 (Fr.app (Fr.snoc X2139 (Fr.snoc X2136 (Fr.app (Fr.app (Fr.app (Fr.snoc X2085 (Fr.snoc X2071 (Fr.snoc X2062 N0 gg_cm) g_t1) g_t1) Nq2100) Nq2113) Nq2126) g_kr2) gg_cm) Nq2152) g_kc2) gg_cm) g_x2
  have y2164 := fun (τ : State) kt => y2162 τ (st2163 τ kt)
  have b2165 := b2161.p4 hw W2163
  have K2166 := ((K2150.wr W2154 (Or.inr sz_kc2)).wr W2157 (Or.inl (by simp))).wr W2163 (Or.inr sz_x2)
  have f2167 := f4_.keep K2166 ni2074
  have y2168 := rP 4 196 [vr cm, vd iv_, .second, vr sl, vr t1, vr x2, vi 0, vi 1, vi 1, vd sv, .second] [.ref sl, .int 0] y2164 X2163 hx D rfl
  have y2169 := lP y2168 X2163 hx hZ e2163 f2167 D
  have y2170 := rP 5 206 _ [.int 0, .ref sl, .int 0, .ref cm] y2169 X2163 hx D rfl
  have y2171 := dP y2170 X2163 hx hZ e2163 f2167 D
  have y2172 := rP 2 209 _ [(.int (cmpValue (FP.dcmp sv (0 : UInt64)) .l)), .int 0, .ref cm] y2171 X2163 hx D rfl
  obtain ⟨uj, hj2173, y2173⟩ : ∃ (uj : Unit), (True) ∧ ∀ τ, Steps p.tables e below (T2163.setTop (mkF m 217 #[vr cm, vd iv_, .second, vr sl, vr t1, vr x2, vi 0, vi 1, vi 1, vd sv, .second] [.int sg, .int 0, .ref cm])) τ → PS τ := by
    rcases hsg with ⟨es, q⟩ | ⟨es, q⟩
    · subst es
      have y2174 := fun (τ : State) kt => y2172 τ (XS.ifNo X2163.here hx rfl (D 209 rfl) rfl ((if0 _ _).trans (flt q).1) kt)
      have y2175 := rP 2 217 _ [.int 1, .int 0, .ref cm] y2174 X2163 hx D rfl
      exact ⟨(), trivial, y2175⟩
    · subst es
      have y2176 := fun (τ : State) kt => y2172 τ (XS.ifYes X2163.here hx rfl (pc0 := 209) (pc' := 216) rfl (D 209 rfl) rfl ((if0 _ _).trans (tlt q).1) (by decide) (by decide) kt)
      have y2177 := rP 1 217 _ [.int (-1), .int 0, .ref cm] y2176 X2163 hx D rfl
      exact ⟨(), trivial, y2177⟩
  have b2178 := b2158.other W2163 ne2104
  have ne2179 := own_ltn f6_.lt sz_kr2
  have ne2180 := own_ltn f6_.lt sz_kc2
  have f2181 := ((((((((f2108.keep Kq2113 (ninS ne2107 nin0)).keep Kq2126 (ninS (Ne.symm (Exa.neArv f1_.e f6_ (w12 hw))) (ninS (Ne.symm (own_arv_ne f2_ f6_ (by decide))) nin0))).ext E2131).other W2136 ne2179).other W2139 (Ne.symm (Exa.neArv f0_.e f6_ (w3 hw)))).ext E2141).other W2154 ne2180).other W2157 (Ne.symm (Exa.neArv f0_.e f6_ (w3 hw)))).other W2163 ne2107
  have ne2182 := own_ltn f1_.e.lt sz_kc2
  have b2183 := ((b2149.other W2154 ne2182).other W2157 (Ne.symm (Exa.ne f0_.e f1_.e (by decide)))).other W2163 ne2119
  have ne2184 := own_ltn f2_.lt sz_kr2
  have ne2185 := own_ltn f2_.lt sz_kc2
  have f2186 := ((((((p2125_1.ext E2131).other W2136 ne2184).other W2139 (Ne.symm (Exa.neArv f0_.e f2_ (w3 hw)))).ext E2141).other W2154 ne2185).other W2157 (Ne.symm (Exa.neArv f0_.e f2_ (w3 hw)))).other W2163 ne2122
  have ne2187 := own_ltn f8_.e.lt sz_t1
  have ne2188 := own_ltn f8_.e.lt sz_x2
  have ne2189 := own_ltn f8_.e.lt sz_kr2
  have ne2190 := own_ltn f8_.e.lt sz_kc2
  have b2191 := ((((((((((((((f8_.other W2062 (Ne.symm (Exa.ne f0_.e f8_.e (by decide)))).ext E2066).other W2071 ne2187).other W2085 ne2187).ext E2088).keep Kq2100 (ninS ne2188 nin0)).keep Kq2113 (ninS ne2188 nin0)).keep Kq2126 (ninS (Ne.symm (Exa.ne f1_.e f8_.e (by decide))) (ninS (Exa.neArv f8_.e f2_ (w56 hw)) nin0))).ext E2131).other W2136 ne2189).other W2139 (Ne.symm (Exa.ne f0_.e f8_.e (by decide)))).ext E2141).other W2154 ne2190).other W2157 (Ne.symm (Exa.ne f0_.e f8_.e (by decide)))).other W2163 ne2188
  have ni2193 : t0 ∉ [cm, al, ed, sd, bvs, x1] := ninS (Ne.symm (Exa.neArv f0_.e f9_ (w3 hw))) (ninS (Ne.symm (Exa.neArv f1_.e f9_ (w12 hw))) (ninS (Ne.symm (own_arv_ne f2_ f9_ (by decide))) (ninS (Ne.symm (own_arv_ne f6_ f9_ (by decide))) (ninS (Ne.symm ne_bvs_t0) (ninS (Ne.symm (Exa.neArv f8_.e f9_ (w56 hw))) nin0)))))
  have f2192 := f9_.keep K2166 ni2193
  have ne2194 := own_ltn (own_up (own_up (own_up (own_up (own_up (own_up V_t1.lt (Keep.of_wr W2071).1) (Keep.of_wr W2085).1) E2088.1) Kq2100.1) Kq2113.1) Kq2126.1) (Nat.le_of_eq g2131.symm)
  have ne2195 := own_ltn (own_up (own_up (own_up (own_up (own_up (own_up (own_up (own_up (own_up V_t1.lt (Keep.of_wr W2071).1) (Keep.of_wr W2085).1) E2088.1) Kq2100.1) Kq2113.1) Kq2126.1) E2131.1) (Keep.of_wr W2136).1) (Keep.of_wr W2139).1) (Nat.le_of_eq g2141.symm)
  have f2196 := ((((((((f2110.keep Kq2113 (ninS ne2109 nin0)).keep Kq2126 (ninS (Ne.symm ne2118) (ninS (Ne.symm ne2121) nin0))).ext E2131).other W2136 ne2194).other W2139 (Ne.symm ne2075)).ext E2141).other W2154 ne2195).other W2157 (Ne.symm ne2075)).other W2163 ne2109
  have ne2197 := own_ltn f9_.lt sz_t1
  obtain ⟨_, T2199, L2199, X2199, ⟨rfl, Nq2199, Kq2199, p2198_0, p2198_1, p2198_2⟩, y2199⟩ := cP y2173 X2163 hx hZ hown hml.symm (own_V17 hw) (rmSsS l Z a0 hw [] cm sg sd al ed x1 x2 t0 t1 k_sd k_ed k_t0 k2066 cv0 co xe pn0 zn0 pn1 zn1 h2163 n0 (Nat.le_trans Z0 K2166.1) b2178.e b2178.f4 b2178.f3 f2181 b2183 f2186 p2125_2 b2191 b2165 f2192 f2196 ne2188 ne2197 gg_sd gg_x1 g_x2 hR0 hR1 ok_xe) 0 b2178.e e2163 [.int 0, .int sg] [] D
  have ne2200 := own_ltn f4_.lt sz_x2
  have f2201 := f2167.keep Kq2199 (ninS (own_arv_ne f4_ f6_ (by decide)) (ninS (Ne.symm (Exa.neArv f8_.e f4_ (w56 hw))) (ninS ne2200 nin0)))
  have b2202 := b2178.keep Kq2199 (ninS (Exa.neArv f0_.e f6_ (w3 hw)) (ninS (Exa.ne f0_.e f8_.e (by decide)) (ninS ne2104 nin0)))
  have ne2203 := own_ltn (own_up (own_up V_kr2.lt (Keep.of_wr W2136).1) (Keep.of_wr W2139).1) (Nat.le_of_eq g2141.symm)
  have f2204 := (((((V2136.other W2139 (Ne.symm ne2137)).ext E2141).other W2154 ne2203).other W2157 (Ne.symm ne2137)).other W2163 (Ne.symm ne2159)).keep Kq2199 (ninS (Ne.symm ne2179) (ninS (Ne.symm ne2189) (ninS (Ne.symm ne2159) nin0)))
  have f2205 := ((V2154.other W2157 (Ne.symm ne2155)).other W2163 (Ne.symm ne2160)).keep Kq2199 (ninS (Ne.symm ne2180) (ninS (Ne.symm ne2190) (ninS (Ne.symm ne2160) nin0)))
  have ne2206 := own_ltn f7_.lt sz_t1
  have ne2207 := own_ltn f7_.lt sz_x2
  have ne2208 := own_ltn f7_.lt sz_kr2
  have ne2209 := own_ltn f7_.lt sz_kc2
  have f2210 := (((((((((((((((f7_.other W2062 (Ne.symm (Exa.neArv f0_.e f7_ (w3 hw)))).ext E2066).other W2071 ne2206).other W2085 ne2206).ext E2088).keep Kq2100 (ninS ne2207 nin0)).keep Kq2113 (ninS ne2207 nin0)).keep Kq2126 (ninS (Ne.symm (Exa.neArv f1_.e f7_ (w12 hw))) (ninS (Ne.symm (own_arv_ne f2_ f7_ (by decide))) nin0))).ext E2131).other W2136 ne2208).other W2139 (Ne.symm (Exa.neArv f0_.e f7_ (w3 hw)))).ext E2141).other W2154 ne2209).other W2157 (Ne.symm (Exa.neArv f0_.e f7_ (w3 hw)))).other W2163 ne2207).keep Kq2199 (ninS (Ne.symm (own_arv_ne f6_ f7_ (by decide))) (ninS (Ne.symm (Exa.neArv f8_.e f7_ (w56 hw))) (ninS ne2207 nin0)))
  have b2211 := b2183.keep Kq2199 (ninS (Exa.neArv f1_.e f6_ (w12 hw)) (ninS (Exa.ne f1_.e f8_.e (by decide)) (ninS ne2119 nin0)))
  have f2212 := f2186.keep Kq2199 (ninS (own_arv_ne f2_ f6_ (by decide)) (ninS (Ne.symm (Exa.neArv f8_.e f2_ (w56 hw))) (ninS ne2122 nin0)))
  have ne2213 := own_ltn f9_.lt sz_x2
  have f2214 := f2192.keep Kq2199 (ninS (Ne.symm (own_arv_ne f6_ f9_ (by decide))) (ninS (Ne.symm (Exa.neArv f8_.e f9_ (w56 hw))) (ninS ne2213 nin0)))
  have f2215 := f2196.keep Kq2199 (ninS (Ne.symm ne2106) (ninS (Ne.symm ne2187) (ninS ne2109 nin0)))
  have K2216 := K2166.trans Kq2199 (allS (Or.inl (by simp)) (allS (Or.inl (by simp)) (allS (Or.inr sz_x2) (all0))))
  have y2219 := rP 4 196 [vr cm, vd iv_, .second, vr sl, vr t1, vr x2, vi 1, vi 1, vi 1, vd sv, .second] [.ref sl, .int 1] y2199 X2199 hx D rfl
  have y2220 := lP y2219 X2199 hx hZ rfl f2201 D
  have y2221 := rP 2 227 _ [.ref cm] y2220 X2199 hx D rfl
  obtain ⟨_, T2218, L2218, X2218, ⟨bv2217, iv, i0, kv, k_iv, k_i0, k_kv, rfl, Nq2218, Kq2218, g2217_iv, z2217_iv, g2217_i0, z2217_i0, g2217_kv, z2217_kv, w2217_0, p2217_0, p2217_1, p2217_2, p2217_3, p2217_4, p2217_5, p2217_6, p2217_7, p2217_8, p2217_9, x2217_bv⟩, y2218⟩ := cP y2221 X2199 hx hZ hown hml.symm (own_V18 hw) (rmIvS l Z a0 hw [] cm kr2 kc2 sd bvs al ed x1 x2 t0 t1 k2131 k2141 k_sd k_bvs k_ed k_t0 k2066 cv0 co xe sg pn0 zn0 pn1 zn1 uu (0 : UInt64) pn0 zn0 pn1 zn1 du T2199.heap n0 (Nat.le_trans Z0 K2216.1) b2202 f2204 f2205 p2198_0 f2210 b2211 f2212 p2125_2 p2198_1 p2198_2 f2214 f2215 ne2203 (Ne.symm ne2179) (Ne.symm ne2180) ne_bvs_t0 ne2206 ne2188 ne2197 gg_cm gg_bvs gg_x1 g_x2 hR0 hR1 hs0 hsd ok_xe) 0 b2202.e rfl [] [] D
  have sz_iv := Nat.le_trans K2216.1 z2217_iv
  have sz_i0 := Nat.le_trans K2216.1 z2217_i0
  have sz_kv := Nat.le_trans K2216.1 z2217_kv
  have y2222 := rP 1 231 _ [.ref cm] y2218 X2218 hx D rfl
  obtain ⟨T2223, X2223, e2223, y2223⟩ := gP y2222 X2218 hx hZ hown (w43 hw) rfl p2217_0.f11 D
  have K2224 := K2216.trans Kq2218 (allS (Or.inl (by simp)) (allS (Or.inl (by simp)) (allS (Or.inl (by simp)) (allS (Or.inr sz_x2) (all0)))))
  have ni2226 : du ∉ [cm, al, ed, sd, bvs, x1] := ninS (Ne.symm (Exa.neArv f0_.e f5_ (w3 hw))) (ninS (Ne.symm (Exa.neArv f1_.e f5_ (w12 hw))) (ninS (Ne.symm (own_arv_ne f2_ f5_ (by decide))) (ninS (own_arv_ne f5_ f6_ (by decide)) (ninS ne_du_bvs (ninS (Ne.symm (Exa.neArv f8_.e f5_ (w56 hw))) nin0)))))
  have f2225 := f5_.keep K2224 ni2226
  have b2227 := b2211.keep Kq2218 (ninS (Ne.symm (Exa.ne f0_.e f1_.e (by decide))) (ninS (Exa.neArv f1_.e f7_ (w12 hw)) (ninS (Exa.ne f1_.e f8_.e (by decide)) (ninS ne2119 nin0))))
  have f2228 := f2212.keep Kq2218 (ninS (Ne.symm (Exa.neArv f0_.e f2_ (w3 hw))) (ninS (own_arv_ne f2_ f7_ (by decide)) (ninS (Ne.symm (Exa.neArv f8_.e f2_ (w56 hw))) (ninS ne2122 nin0))))
  have f2229 := p2198_0.keep Kq2218 (ninS (Ne.symm (Exa.neArv f0_.e f6_ (w3 hw))) (ninS (own_arv_ne f6_ f7_ (by decide)) (ninS (Ne.symm (Exa.neArv f8_.e f6_ (w56 hw))) (ninS ne2107 nin0))))
  have f2230 := f2204.keep Kq2218 (ninS (Ne.symm ne2137) (ninS (Ne.symm ne2208) (ninS (Ne.symm ne2189) (ninS (Ne.symm ne2159) nin0))))
  have f2231 := f2205.keep Kq2218 (ninS (Ne.symm ne2155) (ninS (Ne.symm ne2209) (ninS (Ne.symm ne2190) (ninS (Ne.symm ne2160) nin0))))
  have f2232 := f2215.keep Kq2218 (ninS (Ne.symm ne2075) (ninS (Ne.symm ne2206) (ninS (Ne.symm ne2187) (ninS ne2109 nin0))))
  have ne2233 := own_ltn (own_up (own_up (own_up (own_up (own_up (own_up (own_up (own_up (own_up (own_up (own_up (own_up (own_up (own_up V_t1.lt (Keep.of_wr W2071).1) (Keep.of_wr W2085).1) E2088.1) Kq2100.1) Kq2113.1) Kq2126.1) E2131.1) (Keep.of_wr W2136).1) (Keep.of_wr W2139).1) E2141.1) (Keep.of_wr W2154).1) (Keep.of_wr W2157).1) (Keep.of_wr W2163).1) Kq2199.1) z2217_i0
  have ne2234 := own_ltn (own_up (own_up (own_up (own_up (own_up (own_up (own_up (own_up (own_up (own_up (own_up (own_up (own_up (own_up V_t1.lt (Keep.of_wr W2071).1) (Keep.of_wr W2085).1) E2088.1) Kq2100.1) Kq2113.1) Kq2126.1) E2131.1) (Keep.of_wr W2136).1) (Keep.of_wr W2139).1) E2141.1) (Keep.of_wr W2154).1) (Keep.of_wr W2157).1) (Keep.of_wr W2163).1) Kq2199.1) z2217_kv
  have y2235 := lP y2223 X2223 hx hZ e2223 f2225 D
  have y2236 := rP 3 267 _ [.int 1] y2235 X2223 hx D rfl
  exact own_retZ X2223 hlk y2236 hx hret rfl (D 267 rfl) (by decide) (by decide) e2223 ⟨bv2217, kr2, kc2, t1, x2, iv, i0, kv, k2131, k2141, k2066, k_iv, k_i0, k_kv, rfl, (Fr.app (Fr.app N2163 Nq2199) Nq2218), K2224, g_kr2, sz_kr2, g_kc2, sz_kc2, g_t1, sz_t1, g_x2, sz_x2, g2217_iv, sz_iv, g2217_i0, sz_i0, g2217_kv, sz_kv, ne2203, ne2233, ne2234, w2217_0, p2217_0, b2227, f2228, p2125_2, f2229, p2217_7, p2217_8, f2230, f2231, f2232, p2217_9, p2217_1, p2217_2, p2217_3, p2217_4, p2217_5, p2217_6, x2217_bv⟩
def Q_rmBd0 (Z : State) (cm : Addr)  (h0 : Heap) (n0 : Nat) (v : Option Value) (h : Heap) (L : List Loc) : Prop := v = some (.int 0) ∧ Fr n0 L ∧ h = h0
theorem rmBd0 (l : Launch) (Z : State) (a0 : Array Value) (hw : own_Hw a0 Z) (ws : List Jvm.Cond) (cm : Addr)  (h0 : Heap) (n0 : Nat) (Z0 : n0 ≤ h0.size) (f0_ : Exa Z h0 cm sC) (f1_ : Fld Z h0 cm sC "dimension" "I" (.int 1)) : own_Met l Z own_mn29 prog_26_method_8_code 2 (some .boolean) ws ⟨0, 0, 0, 0⟩ #[.ref cm, .int 0] h0 (Q_rmBd0 Z cm h0 n0) := by
  refine own_begS sC n0 [] #[vr cm, vi 0] oT36 (plainFor_of_name own_pn_sC) fun p e s m below meth c s₁ hx D hml hown hnm hret hlk hZ X0 e0 PS y0 N0 KK0 => ?_
  have y2237 := rP 4 20 _ [.int 0] y0 X0 hx D rfl
  exact own_retZ X0 hlk y2237 hx hret rfl (D 20 rfl) (by decide) (by decide) e0 ⟨rfl, N0, rfl⟩
def Q_rmBd1 (Z : State) (cm : Addr)  (h0 : Heap) (n0 : Nat) (v : Option Value) (h : Heap) (L : List Loc) : Prop := v = some (.int 1) ∧ Fr n0 L ∧ h = h0
theorem rmBd1 (l : Launch) (Z : State) (a0 : Array Value) (hw : own_Hw a0 Z) (ws : List Jvm.Cond) (cm : Addr)  (h0 : Heap) (n0 : Nat) (Z0 : n0 ≤ h0.size) (f0_ : Exa Z h0 cm sC) (f1_ : Fld Z h0 cm sC "dimension" "I" (.int 1)) : own_Met l Z own_mn29 prog_26_method_8_code 2 (some .boolean) ws ⟨0, 0, 0, 0⟩ #[.ref cm, .int 1] h0 (Q_rmBd1 Z cm h0 n0) := by
  refine own_begS sC n0 [] #[vr cm, vi 1] oT36 (plainFor_of_name own_pn_sC) fun p e s m below meth c s₁ hx D hml hown hnm hret hlk hZ X0 e0 PS y0 N0 KK0 => ?_
  have y2238 := rP 6 8 _ [.ref cm, .int 2, .int 1] y0 X0 hx D rfl
  obtain ⟨T2239, X2239, e2239, y2239⟩ := gP y2238 X0 hx hZ hown (w45 hw) e0 f1_ D
  have y2240 := rP 4 20 _ [.int 1] y2239 X2239 hx D rfl
  exact own_retZ X2239 hlk y2240 hx hret rfl (D 20 rfl) (by decide) (by decide) e2239 ⟨rfl, N0, rfl⟩
def Q_rmBd2 (Z : State) (cm : Addr)  (h0 : Heap) (n0 : Nat) (v : Option Value) (h : Heap) (L : List Loc) : Prop := v = some (.int 1) ∧ Fr n0 L ∧ h = h0
theorem rmBd2 (l : Launch) (Z : State) (a0 : Array Value) (hw : own_Hw a0 Z) (ws : List Jvm.Cond) (cm : Addr)  (h0 : Heap) (n0 : Nat) (Z0 : n0 ≤ h0.size) (f0_ : Exa Z h0 cm sC) (f1_ : Fld Z h0 cm sC "dimension" "I" (.int 1)) : own_Met l Z own_mn29 prog_26_method_8_code 2 (some .boolean) ws ⟨0, 0, 0, 0⟩ #[.ref cm, .int 2] h0 (Q_rmBd2 Z cm h0 n0) := by
  refine own_begS sC n0 [] #[vr cm, vi 2] oT36 (plainFor_of_name own_pn_sC) fun p e s m below meth c s₁ hx D hml hown hnm hret hlk hZ X0 e0 PS y0 N0 KK0 => ?_
  have y2241 := rP 6 8 _ [.ref cm, .int 2, .int 2] y0 X0 hx D rfl
  obtain ⟨T2242, X2242, e2242, y2242⟩ := gP y2241 X0 hx hZ hown (w45 hw) e0 f1_ D
  have y2243 := rP 4 20 _ [.int 1] y2242 X2242 hx D rfl
  exact own_retZ X2242 hlk y2243 hx hret rfl (D 20 rfl) (by decide) (by decide) e2242 ⟨rfl, N0, rfl⟩
def Q_rmBd3 (Z : State) (cm : Addr)  (h0 : Heap) (n0 : Nat) (v : Option Value) (h : Heap) (L : List Loc) : Prop := v = some (.int 0) ∧ Fr n0 L ∧ h = h0
theorem rmBd3 (l : Launch) (Z : State) (a0 : Array Value) (hw : own_Hw a0 Z) (ws : List Jvm.Cond) (cm : Addr)  (h0 : Heap) (n0 : Nat) (Z0 : n0 ≤ h0.size) (f0_ : Exa Z h0 cm sC) (f1_ : Fld Z h0 cm sC "dimension" "I" (.int 1)) : own_Met l Z own_mn29 prog_26_method_8_code 2 (some .boolean) ws ⟨0, 0, 0, 0⟩ #[.ref cm, .int 3] h0 (Q_rmBd3 Z cm h0 n0) := by
  refine own_begS sC n0 [] #[vr cm, vi 3] oT36 (plainFor_of_name own_pn_sC) fun p e s m below meth c s₁ hx D hml hown hnm hret hlk hZ X0 e0 PS y0 N0 KK0 => ?_
  have y2244 := rP 6 8 _ [.ref cm, .int 2, .int 3] y0 X0 hx D rfl
  obtain ⟨T2245, X2245, e2245, y2245⟩ := gP y2244 X0 hx hZ hown (w45 hw) e0 f1_ D
  have y2246 := rP 3 20 _ [.int 0] y2245 X2245 hx D rfl
  exact own_retZ X2245 hlk y2246 hx hret rfl (D 20 rfl) (by decide) (by decide) e2245 ⟨rfl, N0, rfl⟩
def Q_rmCo1 (Z : State) (cm : Addr)  (h0 : Heap) (n0 : Nat) (v : Option Value) (h : Heap) (L : List Loc) : Prop := v = some (.int 0) ∧ Fr n0 L ∧ h = h0
theorem rmCo1 (l : Launch) (Z : State) (a0 : Array Value) (hw : own_Hw a0 Z) (ws : List Jvm.Cond) (cm : Addr)  (h0 : Heap) (n0 : Nat) (Z0 : n0 ≤ h0.size) (f0_ : Exa Z h0 cm sC) (f1_ : Fld Z h0 cm sC "dimension" "I" (.int 1)) : own_Met l Z own_mn30 prog_26_method_9_code 2 (some .int) ws ⟨0, 0, 0, 0⟩ #[.ref cm, .int 1] h0 (Q_rmCo1 Z cm h0 n0) := by
  refine own_begS sC n0 [] #[vr cm, vi 1] oT39 (plainFor_of_name own_pn_sC) fun p e s m below meth c s₁ hx D hml hown hnm hret hlk hZ X0 e0 PS y0 N0 KK0 => ?_
  have y2247 := rP 2 2 _ [.ref cm, .int 1] y0 X0 hx D rfl
  obtain ⟨T2248, X2248, e2248, y2248⟩ := gP y2247 X0 hx hZ hown (w45 hw) e0 f1_ D
  have y2249 := rP 5 22 _ [.int 0] y2248 X2248 hx D rfl
  exact own_retI X2248 hlk y2249 hx hret (D 22 rfl) (by decide) (by decide) e2248 ⟨rfl, N0, rfl⟩
def Q_rmCo2 (Z : State) (cm : Addr)  (h0 : Heap) (n0 : Nat) (v : Option Value) (h : Heap) (L : List Loc) : Prop := v = some (.int 0) ∧ Fr n0 L ∧ h = h0
theorem rmCo2 (l : Launch) (Z : State) (a0 : Array Value) (hw : own_Hw a0 Z) (ws : List Jvm.Cond) (cm : Addr)  (h0 : Heap) (n0 : Nat) (Z0 : n0 ≤ h0.size) (f0_ : Exa Z h0 cm sC) (f1_ : Fld Z h0 cm sC "dimension" "I" (.int 1)) : own_Met l Z own_mn30 prog_26_method_9_code 2 (some .int) ws ⟨0, 0, 0, 0⟩ #[.ref cm, .int 2] h0 (Q_rmCo2 Z cm h0 n0) := by
  refine own_begS sC n0 [] #[vr cm, vi 2] oT39 (plainFor_of_name own_pn_sC) fun p e s m below meth c s₁ hx D hml hown hnm hret hlk hZ X0 e0 PS y0 N0 KK0 => ?_
  have y2250 := rP 2 2 _ [.ref cm, .int 2] y0 X0 hx D rfl
  obtain ⟨T2251, X2251, e2251, y2251⟩ := gP y2250 X0 hx hZ hown (w45 hw) e0 f1_ D
  have y2252 := rP 3 16 _ [.ref cm, .int 2] y2251 X2251 hx D rfl
  obtain ⟨T2253, X2253, e2253, y2253⟩ := gP y2252 X2251 hx hZ hown (w45 hw) e2251 f1_ D
  have y2254 := rP 3 22 _ [.int 0] y2253 X2253 hx D rfl
  exact own_retI X2253 hlk y2254 hx hret (D 22 rfl) (by decide) (by decide) e2253 ⟨rfl, N0, rfl⟩
def Q_rmSi1 (Z : State) (cm : Addr)  (h0 : Heap) (n0 : Nat) (v : Option Value) (h : Heap) (L : List Loc) : Prop := v = some (.int 1) ∧ Fr n0 L ∧ h = h0
theorem rmSi1 (l : Launch) (Z : State) (a0 : Array Value) (hw : own_Hw a0 Z) (ws : List Jvm.Cond) (cm : Addr)  (h0 : Heap) (n0 : Nat) (Z0 : n0 ≤ h0.size) (f0_ : Exa Z h0 cm sC) (f1_ : Fld Z h0 cm sC "dimension" "I" (.int 1)) : own_Met l Z own_mn31 prog_26_method_10_code 2 (some .int) ws ⟨0, 0, 0, 0⟩ #[.ref cm, .int 1] h0 (Q_rmSi1 Z cm h0 n0) := by
  refine own_begS sC n0 [] #[vr cm, vi 1] oT40 (plainFor_of_name own_pn_sC) fun p e s m below meth c s₁ hx D hml hown hnm hret hlk hZ X0 e0 PS y0 N0 KK0 => ?_
  have y2255 := rP 2 2 _ [.ref cm, .int 1] y0 X0 hx D rfl
  obtain ⟨T2256, X2256, e2256, y2256⟩ := gP y2255 X0 hx hZ hown (w45 hw) e0 f1_ D
  have y2257 := rP 3 13 _ [.int 1] y2256 X2256 hx D rfl
  exact own_retI X2256 hlk y2257 hx hret (D 13 rfl) (by decide) (by decide) e2256 ⟨rfl, N0, rfl⟩
def Q_rmSi2 (Z : State) (cm : Addr)  (h0 : Heap) (n0 : Nat) (v : Option Value) (h : Heap) (L : List Loc) : Prop := v = some (.int (-1)) ∧ Fr n0 L ∧ h = h0
theorem rmSi2 (l : Launch) (Z : State) (a0 : Array Value) (hw : own_Hw a0 Z) (ws : List Jvm.Cond) (cm : Addr)  (h0 : Heap) (n0 : Nat) (Z0 : n0 ≤ h0.size) (f0_ : Exa Z h0 cm sC) (f1_ : Fld Z h0 cm sC "dimension" "I" (.int 1)) : own_Met l Z own_mn31 prog_26_method_10_code 2 (some .int) ws ⟨0, 0, 0, 0⟩ #[.ref cm, .int 2] h0 (Q_rmSi2 Z cm h0 n0) := by
  refine own_begS sC n0 [] #[vr cm, vi 2] oT40 (plainFor_of_name own_pn_sC) fun p e s m below meth c s₁ hx D hml hown hnm hret hlk hZ X0 e0 PS y0 N0 KK0 => ?_
  have y2258 := rP 2 2 _ [.ref cm, .int 2] y0 X0 hx D rfl
  obtain ⟨T2259, X2259, e2259, y2259⟩ := gP y2258 X0 hx hZ hown (w45 hw) e0 f1_ D
  have y2260 := rP 2 13 _ [.int (-1)] y2259 X2259 hx D rfl
  exact own_retI X2259 hlk y2260 hx hret (D 13 rfl) (by decide) (by decide) e2259 ⟨rfl, N0, rfl⟩
def Q_rmDe0 (Z : State) (cm : Addr)  (h0 : Heap) (n0 : Nat) (v : Option Value) (h : Heap) (L : List Loc) : Prop := v = some (.int 0) ∧ Fr n0 L ∧ h = h0
theorem rmDe0 (l : Launch) (Z : State) (a0 : Array Value) (hw : own_Hw a0 Z) (ws : List Jvm.Cond) (cm : Addr)  (h0 : Heap) (n0 : Nat) (Z0 : n0 ≤ h0.size) (f0_ : Exa Z h0 cm sC) (f1_ : Fld Z h0 cm sC "dimension" "I" (.int 1)) : own_Met l Z own_mn32 prog_26_method_11_code 2 (some .int) ws ⟨0, 0, 0, 0⟩ #[.ref cm, .int 0] h0 (Q_rmDe0 Z cm h0 n0) := by
  refine own_begS sC n0 [] #[vr cm, vi 0] oT37 (plainFor_of_name own_pn_sC) fun p e s m below meth c s₁ hx D hml hown hnm hret hlk hZ X0 e0 PS y0 N0 KK0 => ?_
  have y2261 := rP 4 16 _ [.int 0] y0 X0 hx D rfl
  exact own_retI X0 hlk y2261 hx hret (D 16 rfl) (by decide) (by decide) e0 ⟨rfl, N0, rfl⟩
def Q_rmDe3 (Z : State) (cm : Addr)  (h0 : Heap) (n0 : Nat) (v : Option Value) (h : Heap) (L : List Loc) : Prop := v = some (.int 1) ∧ Fr n0 L ∧ h = h0
theorem rmDe3 (l : Launch) (Z : State) (a0 : Array Value) (hw : own_Hw a0 Z) (ws : List Jvm.Cond) (cm : Addr)  (h0 : Heap) (n0 : Nat) (Z0 : n0 ≤ h0.size) (f0_ : Exa Z h0 cm sC) (f1_ : Fld Z h0 cm sC "dimension" "I" (.int 1)) : own_Met l Z own_mn32 prog_26_method_11_code 2 (some .int) ws ⟨0, 0, 0, 0⟩ #[.ref cm, .int 3] h0 (Q_rmDe3 Z cm h0 n0) := by
  refine own_begS sC n0 [] #[vr cm, vi 3] oT37 (plainFor_of_name own_pn_sC) fun p e s m below meth c s₁ hx D hml hown hnm hret hlk hZ X0 e0 PS y0 N0 KK0 => ?_
  have y2262 := rP 5 11 _ [.ref cm, .int 2, .int 3] y0 X0 hx D rfl
  obtain ⟨T2263, X2263, e2263, y2263⟩ := gP y2262 X0 hx hZ hown (w45 hw) e0 f1_ D
  have y2264 := rP 2 16 _ [.int 1] y2263 X2263 hx D rfl
  exact own_retI X2263 hlk y2264 hx hret (D 16 rfl) (by decide) (by decide) e2263 ⟨rfl, N0, rfl⟩
def Q_rmIb00 (Z : State) (cm : Addr) (al ed x1 : Addr) (k_ed : ClassId) (x2 : Addr) (h0 : Heap) (n0 : Nat) (v : Option Value) (h : Heap) (L : List Loc) : Prop := v = some (.int 0) ∧ Fr n0 L ∧ h = h0
theorem rmIb00 (l : Launch) (Z : State) (a0 : Array Value) (hw : own_Hw a0 Z) (ws : List Jvm.Cond) (cm : Addr) (al ed x1 : Addr) (k_ed : ClassId) (x2 : Addr) (h0 : Heap) (n0 : Nat) (Z0 : n0 ≤ h0.size) (f0_ : Exa Z h0 cm sC) (f1_ : Fld Z h0 cm sC "dimension" "I" (.int 1)) (f2_ : Fld Z h0 cm sC "dense" "Ljava/util/List;" (.ref al)) (f3_ : own_BA Z h0 al (.ref ed) (.int 2) (.int 2)) (f4_ : Arv Z h0 ed k_ed (.object "java/lang/Object") (10 : Int32) [.ref x1, .ref x2, .null, .null, .null, .null, .null, .null, .null, .null] .null) (f5_ : Ovr Z k_ed "java/lang/Object") (f6_ : Exa Z h0 x1 sD) (f7_ : Fld Z h0 x1 sD "basic" "Z" (.int 0)) : own_Met l Z own_mn33 prog_26_method_13_code 2 (some .boolean) ws ⟨3, 0, 0, 41⟩ #[.ref cm, .int 0] h0 (Q_rmIb00 Z cm al ed x1 k_ed x2 h0 n0) := by
  refine own_begS sC n0 [] #[vr cm, vi 0] oT35 (plainFor_of_name own_pn_sC) fun p e s m below meth c s₁ hx D hml hown hnm hret hlk hZ X0 e0 PS y0 N0 KK0 => ?_
  have y2267 := rP 2 2 _ [.int 0, .ref cm] y0 X0 hx D rfl
  obtain ⟨_, T2266, L2266, X2266, ⟨rfl, Nq2266, eq2266⟩, y2266⟩ := cP y2267 X0 hx hZ hown hml.symm (own_V19 hw) (rmBd0 l Z a0 hw [] cm h0 n0 (Nat.le_trans Z0 KK0.1) f0_ f1_) 0 f0_ e0 [.int 0] [] D
  have y2268 := rP 2 35 _ [.ref cm] y2266 X2266 hx D rfl
  obtain ⟨T2269, X2269, e2269, y2269⟩ := gP y2268 X2266 hx hZ hown (w35 hw) eq2266 f2_ D
  have y2272 := rP 2 40 _ [.int 0, .ref cm, .ref al] y2269 X2269 hx D rfl
  obtain ⟨_, T2271, L2271, X2271, ⟨rfl, Nq2271, eq2271⟩, y2271⟩ := cP y2272 X2269 hx hZ hown hml.symm (own_V20 hw) (rmDe0 l Z a0 hw [] cm h0 n0 (Nat.le_trans Z0 KK0.1) f0_ f1_) 1 f0_ e2269 [.int 0] [.ref al] D
  obtain ⟨_, T2274, L2274, X2274, ⟨rfl, Nq2274, eq2274⟩, y2274⟩ := cF y2271 X2271 hx hZ hown hml.symm (own_V10 hw) (rmGet0 l Z a0 hw [] al ed k_ed x1 x2 h0 n0 (Nat.le_trans Z0 KK0.1) f3_ f4_ f5_) 0 f3_.e eq2271 [.int 0] [] D
  obtain ⟨T2275, X2275, e2275, st2275⟩ := castY X2274 hx hZ hown (w55 hw) eq2274 (Ins.self f6_) (g := (mkF m 48 #[vr cm, vi 0] [.ref x1])) rfl rfl (D 48 rfl)
  have y2276 := fun (τ : State) kt => y2274 τ (st2275 τ kt)
  obtain ⟨T2277, X2277, e2277, y2277⟩ := own_getS y2276 X2275 hx hZ hown (w132 hw) e2275 f7_ rfl rfl (D 51 rfl)
  exact own_retZ X2277 hlk y2277 hx hret rfl (D 54 rfl) (by decide) (by decide) e2277 ⟨rfl, (Fr.app (Fr.app (Fr.app N0 Nq2266) Nq2271) Nq2274), rfl⟩
def Q_rmIb01 (Z : State) (cm : Addr) (al ed x1 : Addr) (k_ed : ClassId) (x2 : Addr) (h0 : Heap) (n0 : Nat) (v : Option Value) (h : Heap) (L : List Loc) : Prop := v = some (.int 1) ∧ Fr n0 L ∧ h = h0
theorem rmIb01 (l : Launch) (Z : State) (a0 : Array Value) (hw : own_Hw a0 Z) (ws : List Jvm.Cond) (cm : Addr) (al ed x1 : Addr) (k_ed : ClassId) (x2 : Addr) (h0 : Heap) (n0 : Nat) (Z0 : n0 ≤ h0.size) (f0_ : Exa Z h0 cm sC) (f1_ : Fld Z h0 cm sC "dimension" "I" (.int 1)) (f2_ : Fld Z h0 cm sC "dense" "Ljava/util/List;" (.ref al)) (f3_ : own_BA Z h0 al (.ref ed) (.int 2) (.int 2)) (f4_ : Arv Z h0 ed k_ed (.object "java/lang/Object") (10 : Int32) [.ref x1, .ref x2, .null, .null, .null, .null, .null, .null, .null, .null] .null) (f5_ : Ovr Z k_ed "java/lang/Object") (f6_ : Exa Z h0 x1 sD) (f7_ : Fld Z h0 x1 sD "basic" "Z" (.int 1)) : own_Met l Z own_mn33 prog_26_method_13_code 2 (some .boolean) ws ⟨3, 0, 0, 41⟩ #[.ref cm, .int 0] h0 (Q_rmIb01 Z cm al ed x1 k_ed x2 h0 n0) := by
  refine own_begS sC n0 [] #[vr cm, vi 0] oT35 (plainFor_of_name own_pn_sC) fun p e s m below meth c s₁ hx D hml hown hnm hret hlk hZ X0 e0 PS y0 N0 KK0 => ?_
  have y2280 := rP 2 2 _ [.int 0, .ref cm] y0 X0 hx D rfl
  obtain ⟨_, T2279, L2279, X2279, ⟨rfl, Nq2279, eq2279⟩, y2279⟩ := cP y2280 X0 hx hZ hown hml.symm (own_V19 hw) (rmBd0 l Z a0 hw [] cm h0 n0 (Nat.le_trans Z0 KK0.1) f0_ f1_) 0 f0_ e0 [.int 0] [] D
  have y2281 := rP 2 35 _ [.ref cm] y2279 X2279 hx D rfl
  obtain ⟨T2282, X2282, e2282, y2282⟩ := gP y2281 X2279 hx hZ hown (w35 hw) eq2279 f2_ D
  have y2285 := rP 2 40 _ [.int 0, .ref cm, .ref al] y2282 X2282 hx D rfl
  obtain ⟨_, T2284, L2284, X2284, ⟨rfl, Nq2284, eq2284⟩, y2284⟩ := cP y2285 X2282 hx hZ hown hml.symm (own_V20 hw) (rmDe0 l Z a0 hw [] cm h0 n0 (Nat.le_trans Z0 KK0.1) f0_ f1_) 1 f0_ e2282 [.int 0] [.ref al] D
  obtain ⟨_, T2287, L2287, X2287, ⟨rfl, Nq2287, eq2287⟩, y2287⟩ := cF y2284 X2284 hx hZ hown hml.symm (own_V10 hw) (rmGet0 l Z a0 hw [] al ed k_ed x1 x2 h0 n0 (Nat.le_trans Z0 KK0.1) f3_ f4_ f5_) 0 f3_.e eq2284 [.int 0] [] D
  obtain ⟨T2288, X2288, e2288, st2288⟩ := castY X2287 hx hZ hown (w55 hw) eq2287 (Ins.self f6_) (g := (mkF m 48 #[vr cm, vi 0] [.ref x1])) rfl rfl (D 48 rfl)
  have y2289 := fun (τ : State) kt => y2287 τ (st2288 τ kt)
  obtain ⟨T2290, X2290, e2290, y2290⟩ := own_getS y2289 X2288 hx hZ hown (w132 hw) e2288 f7_ rfl rfl (D 51 rfl)
  exact own_retZ X2290 hlk y2290 hx hret rfl (D 54 rfl) (by decide) (by decide) e2290 ⟨rfl, (Fr.app (Fr.app (Fr.app N0 Nq2279) Nq2284) Nq2287), rfl⟩
def Q_rmIb3 (Z : State) (cm : Addr) (al ed x2 : Addr) (k_ed : ClassId) (x1 : Addr) (h0 : Heap) (n0 : Nat) (v : Option Value) (h : Heap) (L : List Loc) : Prop := v = some (.int 1) ∧ Fr n0 L ∧ h = h0
theorem rmIb3 (l : Launch) (Z : State) (a0 : Array Value) (hw : own_Hw a0 Z) (ws : List Jvm.Cond) (cm : Addr) (al ed x2 : Addr) (k_ed : ClassId) (x1 : Addr) (h0 : Heap) (n0 : Nat) (Z0 : n0 ≤ h0.size) (f0_ : Exa Z h0 cm sC) (f1_ : Fld Z h0 cm sC "dimension" "I" (.int 1)) (f2_ : Fld Z h0 cm sC "dense" "Ljava/util/List;" (.ref al)) (f3_ : own_BA Z h0 al (.ref ed) (.int 2) (.int 2)) (f4_ : Arv Z h0 ed k_ed (.object "java/lang/Object") (10 : Int32) [.ref x1, .ref x2, .null, .null, .null, .null, .null, .null, .null, .null] .null) (f5_ : Ovr Z k_ed "java/lang/Object") (f6_ : Exa Z h0 x2 sD) (f7_ : Fld Z h0 x2 sD "basic" "Z" (.int 1)) : own_Met l Z own_mn33 prog_26_method_13_code 2 (some .boolean) ws ⟨3, 0, 0, 41⟩ #[.ref cm, .int 3] h0 (Q_rmIb3 Z cm al ed x2 k_ed x1 h0 n0) := by
  refine own_begS sC n0 [] #[vr cm, vi 3] oT35 (plainFor_of_name own_pn_sC) fun p e s m below meth c s₁ hx D hml hown hnm hret hlk hZ X0 e0 PS y0 N0 KK0 => ?_
  have y2293 := rP 2 2 _ [.int 3, .ref cm] y0 X0 hx D rfl
  obtain ⟨_, T2292, L2292, X2292, ⟨rfl, Nq2292, eq2292⟩, y2292⟩ := cP y2293 X0 hx hZ hown hml.symm (own_V19 hw) (rmBd3 l Z a0 hw [] cm h0 n0 (Nat.le_trans Z0 KK0.1) f0_ f1_) 0 f0_ e0 [.int 3] [] D
  have y2294 := rP 2 35 _ [.ref cm] y2292 X2292 hx D rfl
  obtain ⟨T2295, X2295, e2295, y2295⟩ := gP y2294 X2292 hx hZ hown (w35 hw) eq2292 f2_ D
  have y2298 := rP 2 40 _ [.int 3, .ref cm, .ref al] y2295 X2295 hx D rfl
  obtain ⟨_, T2297, L2297, X2297, ⟨rfl, Nq2297, eq2297⟩, y2297⟩ := cP y2298 X2295 hx hZ hown hml.symm (own_V20 hw) (rmDe3 l Z a0 hw [] cm h0 n0 (Nat.le_trans Z0 KK0.1) f0_ f1_) 1 f0_ e2295 [.int 3] [.ref al] D
  obtain ⟨_, T2300, L2300, X2300, ⟨rfl, Nq2300, eq2300⟩, y2300⟩ := cF y2297 X2297 hx hZ hown hml.symm (own_V10 hw) (rmGet1 l Z a0 hw [] al ed k_ed x1 x2 h0 n0 (Nat.le_trans Z0 KK0.1) f3_ f4_ f5_) 0 f3_.e eq2297 [.int 1] [] D
  obtain ⟨T2301, X2301, e2301, st2301⟩ := castY X2300 hx hZ hown (w55 hw) eq2300 (Ins.self f6_) (g := (mkF m 48 #[vr cm, vi 3] [.ref x2])) rfl rfl (D 48 rfl)
  have y2302 := fun (τ : State) kt => y2300 τ (st2301 τ kt)
  obtain ⟨T2303, X2303, e2303, y2303⟩ := own_getS y2302 X2301 hx hZ hown (w132 hw) e2301 f7_ rfl rfl (D 51 rfl)
  exact own_retZ X2303 hlk y2303 hx hret rfl (D 54 rfl) (by decide) (by decide) e2303 ⟨rfl, (Fr.app (Fr.app (Fr.app N0 Nq2292) Nq2297) Nq2300), rfl⟩
def Q_rmIb1M (Z : State) (cm : Addr) (sd : Addr) (k_sd : ClassId)  (h0 : Heap) (n0 : Nat) (v : Option Value) (h : Heap) (L : List Loc) : Prop := v = some (.int 0) ∧ Fr n0 L ∧ h = h0
theorem rmIb1M (l : Launch) (Z : State) (a0 : Array Value) (hw : own_Hw a0 Z) (ws : List Jvm.Cond) (cm : Addr) (sd : Addr) (k_sd : ClassId)  (h0 : Heap) (n0 : Nat) (Z0 : n0 ≤ h0.size) (f0_ : Exa Z h0 cm sC) (f1_ : Fld Z h0 cm sC "dimension" "I" (.int 1)) (f2_ : Fld Z h0 cm sC "side" "[I" (.ref sd)) (f3_ : Arv Z h0 sd k_sd .int 1 [.int (-1)] (.int 0)) : own_Met l Z own_mn33 prog_26_method_13_code 2 (some .boolean) ws ⟨1, 0, 0, 14⟩ #[.ref cm, .int 1] h0 (Q_rmIb1M Z cm sd k_sd h0 n0) := by
  refine own_begS sC n0 [] #[vr cm, vi 1] oT35 (plainFor_of_name own_pn_sC) fun p e s m below meth c s₁ hx D hml hown hnm hret hlk hZ X0 e0 PS y0 N0 KK0 => ?_
  have y2306 := rP 2 2 _ [.int 1, .ref cm] y0 X0 hx D rfl
  obtain ⟨_, T2305, L2305, X2305, ⟨rfl, Nq2305, eq2305⟩, y2305⟩ := cP y2306 X0 hx hZ hown hml.symm (own_V19 hw) (rmBd1 l Z a0 hw [] cm h0 n0 (Nat.le_trans Z0 KK0.1) f0_ f1_) 0 f0_ e0 [.int 1] [] D
  have y2307 := rP 2 9 _ [.ref cm] y2305 X2305 hx D rfl
  obtain ⟨T2308, X2308, e2308, y2308⟩ := gP y2307 X2305 hx hZ hown (w51 hw) eq2305 f2_ D
  have y2311 := rP 2 14 _ [.int 1, .ref cm, .ref sd] y2308 X2308 hx D rfl
  obtain ⟨_, T2310, L2310, X2310, ⟨rfl, Nq2310, eq2310⟩, y2310⟩ := cP y2311 X2308 hx hZ hown hml.symm (own_V21 hw) (rmCo1 l Z a0 hw [] cm h0 n0 (Nat.le_trans Z0 KK0.1) f0_ f1_) 1 f0_ e2308 [.int 1] [.ref sd] D
  have y2314 := iP y2310 X2310 hx hZ eq2310 f3_ D
  have y2315 := rP 2 20 _ [.int 1, .ref cm, .int (-1)] y2314 X2310 hx D rfl
  obtain ⟨_, T2313, L2313, X2313, ⟨rfl, Nq2313, eq2313⟩, y2313⟩ := cP y2315 X2310 hx hZ hown hml.symm (own_V22 hw) (rmSi1 l Z a0 hw [] cm h0 n0 (Nat.le_trans Z0 KK0.1) f0_ f1_) 1 f0_ eq2310 [.int 1] [.int (-1)] D
  have y2316 := rP 3 54 _ [.int 0] y2313 X2313 hx D rfl
  exact own_retZ X2313 hlk y2316 hx hret rfl (D 54 rfl) (by decide) (by decide) eq2313 ⟨rfl, (Fr.app (Fr.app (Fr.app N0 Nq2305) Nq2310) Nq2313), rfl⟩
def Q_rmIb10 (Z : State) (cm : Addr) (sd : Addr) (k_sd : ClassId)  (h0 : Heap) (n0 : Nat) (v : Option Value) (h : Heap) (L : List Loc) : Prop := v = some (.int 0) ∧ Fr n0 L ∧ h = h0
theorem rmIb10 (l : Launch) (Z : State) (a0 : Array Value) (hw : own_Hw a0 Z) (ws : List Jvm.Cond) (cm : Addr) (sd : Addr) (k_sd : ClassId)  (h0 : Heap) (n0 : Nat) (Z0 : n0 ≤ h0.size) (f0_ : Exa Z h0 cm sC) (f1_ : Fld Z h0 cm sC "dimension" "I" (.int 1)) (f2_ : Fld Z h0 cm sC "side" "[I" (.ref sd)) (f3_ : Arv Z h0 sd k_sd .int 1 [.int 0] (.int 0)) : own_Met l Z own_mn33 prog_26_method_13_code 2 (some .boolean) ws ⟨1, 0, 0, 14⟩ #[.ref cm, .int 1] h0 (Q_rmIb10 Z cm sd k_sd h0 n0) := by
  refine own_begS sC n0 [] #[vr cm, vi 1] oT35 (plainFor_of_name own_pn_sC) fun p e s m below meth c s₁ hx D hml hown hnm hret hlk hZ X0 e0 PS y0 N0 KK0 => ?_
  have y2319 := rP 2 2 _ [.int 1, .ref cm] y0 X0 hx D rfl
  obtain ⟨_, T2318, L2318, X2318, ⟨rfl, Nq2318, eq2318⟩, y2318⟩ := cP y2319 X0 hx hZ hown hml.symm (own_V19 hw) (rmBd1 l Z a0 hw [] cm h0 n0 (Nat.le_trans Z0 KK0.1) f0_ f1_) 0 f0_ e0 [.int 1] [] D
  have y2320 := rP 2 9 _ [.ref cm] y2318 X2318 hx D rfl
  obtain ⟨T2321, X2321, e2321, y2321⟩ := gP y2320 X2318 hx hZ hown (w51 hw) eq2318 f2_ D
  have y2324 := rP 2 14 _ [.int 1, .ref cm, .ref sd] y2321 X2321 hx D rfl
  obtain ⟨_, T2323, L2323, X2323, ⟨rfl, Nq2323, eq2323⟩, y2323⟩ := cP y2324 X2321 hx hZ hown hml.symm (own_V21 hw) (rmCo1 l Z a0 hw [] cm h0 n0 (Nat.le_trans Z0 KK0.1) f0_ f1_) 1 f0_ e2321 [.int 1] [.ref sd] D
  have y2327 := iP y2323 X2323 hx hZ eq2323 f3_ D
  have y2328 := rP 2 20 _ [.int 1, .ref cm, .int 0] y2327 X2323 hx D rfl
  obtain ⟨_, T2326, L2326, X2326, ⟨rfl, Nq2326, eq2326⟩, y2326⟩ := cP y2328 X2323 hx hZ hown hml.symm (own_V22 hw) (rmSi1 l Z a0 hw [] cm h0 n0 (Nat.le_trans Z0 KK0.1) f0_ f1_) 1 f0_ eq2323 [.int 1] [.int 0] D
  have y2329 := rP 3 54 _ [.int 0] y2326 X2326 hx D rfl
  exact own_retZ X2326 hlk y2329 hx hret rfl (D 54 rfl) (by decide) (by decide) eq2326 ⟨rfl, (Fr.app (Fr.app (Fr.app N0 Nq2318) Nq2323) Nq2326), rfl⟩
def Q_rmIb1P (Z : State) (cm : Addr) (sd : Addr) (k_sd : ClassId)  (h0 : Heap) (n0 : Nat) (v : Option Value) (h : Heap) (L : List Loc) : Prop := v = some (.int 1) ∧ Fr n0 L ∧ h = h0
theorem rmIb1P (l : Launch) (Z : State) (a0 : Array Value) (hw : own_Hw a0 Z) (ws : List Jvm.Cond) (cm : Addr) (sd : Addr) (k_sd : ClassId)  (h0 : Heap) (n0 : Nat) (Z0 : n0 ≤ h0.size) (f0_ : Exa Z h0 cm sC) (f1_ : Fld Z h0 cm sC "dimension" "I" (.int 1)) (f2_ : Fld Z h0 cm sC "side" "[I" (.ref sd)) (f3_ : Arv Z h0 sd k_sd .int 1 [.int 1] (.int 0)) : own_Met l Z own_mn33 prog_26_method_13_code 2 (some .boolean) ws ⟨1, 0, 0, 14⟩ #[.ref cm, .int 1] h0 (Q_rmIb1P Z cm sd k_sd h0 n0) := by
  refine own_begS sC n0 [] #[vr cm, vi 1] oT35 (plainFor_of_name own_pn_sC) fun p e s m below meth c s₁ hx D hml hown hnm hret hlk hZ X0 e0 PS y0 N0 KK0 => ?_
  have y2332 := rP 2 2 _ [.int 1, .ref cm] y0 X0 hx D rfl
  obtain ⟨_, T2331, L2331, X2331, ⟨rfl, Nq2331, eq2331⟩, y2331⟩ := cP y2332 X0 hx hZ hown hml.symm (own_V19 hw) (rmBd1 l Z a0 hw [] cm h0 n0 (Nat.le_trans Z0 KK0.1) f0_ f1_) 0 f0_ e0 [.int 1] [] D
  have y2333 := rP 2 9 _ [.ref cm] y2331 X2331 hx D rfl
  obtain ⟨T2334, X2334, e2334, y2334⟩ := gP y2333 X2331 hx hZ hown (w51 hw) eq2331 f2_ D
  have y2337 := rP 2 14 _ [.int 1, .ref cm, .ref sd] y2334 X2334 hx D rfl
  obtain ⟨_, T2336, L2336, X2336, ⟨rfl, Nq2336, eq2336⟩, y2336⟩ := cP y2337 X2334 hx hZ hown hml.symm (own_V21 hw) (rmCo1 l Z a0 hw [] cm h0 n0 (Nat.le_trans Z0 KK0.1) f0_ f1_) 1 f0_ e2334 [.int 1] [.ref sd] D
  have y2340 := iP y2336 X2336 hx hZ eq2336 f3_ D
  have y2341 := rP 2 20 _ [.int 1, .ref cm, .int 1] y2340 X2336 hx D rfl
  obtain ⟨_, T2339, L2339, X2339, ⟨rfl, Nq2339, eq2339⟩, y2339⟩ := cP y2341 X2336 hx hZ hown hml.symm (own_V22 hw) (rmSi1 l Z a0 hw [] cm h0 n0 (Nat.le_trans Z0 KK0.1) f0_ f1_) 1 f0_ eq2336 [.int 1] [.int 1] D
  have y2342 := rP 3 54 _ [.int 1] y2339 X2339 hx D rfl
  exact own_retZ X2339 hlk y2342 hx hret rfl (D 54 rfl) (by decide) (by decide) eq2339 ⟨rfl, (Fr.app (Fr.app (Fr.app N0 Nq2331) Nq2336) Nq2339), rfl⟩
def Q_rmIb2M (Z : State) (cm : Addr) (sd : Addr) (k_sd : ClassId)  (h0 : Heap) (n0 : Nat) (v : Option Value) (h : Heap) (L : List Loc) : Prop := v = some (.int 1) ∧ Fr n0 L ∧ h = h0
theorem rmIb2M (l : Launch) (Z : State) (a0 : Array Value) (hw : own_Hw a0 Z) (ws : List Jvm.Cond) (cm : Addr) (sd : Addr) (k_sd : ClassId)  (h0 : Heap) (n0 : Nat) (Z0 : n0 ≤ h0.size) (f0_ : Exa Z h0 cm sC) (f1_ : Fld Z h0 cm sC "dimension" "I" (.int 1)) (f2_ : Fld Z h0 cm sC "side" "[I" (.ref sd)) (f3_ : Arv Z h0 sd k_sd .int 1 [.int (-1)] (.int 0)) : own_Met l Z own_mn33 prog_26_method_13_code 2 (some .boolean) ws ⟨1, 0, 0, 14⟩ #[.ref cm, .int 2] h0 (Q_rmIb2M Z cm sd k_sd h0 n0) := by
  refine own_begS sC n0 [] #[vr cm, vi 2] oT35 (plainFor_of_name own_pn_sC) fun p e s m below meth c s₁ hx D hml hown hnm hret hlk hZ X0 e0 PS y0 N0 KK0 => ?_
  have y2345 := rP 2 2 _ [.int 2, .ref cm] y0 X0 hx D rfl
  obtain ⟨_, T2344, L2344, X2344, ⟨rfl, Nq2344, eq2344⟩, y2344⟩ := cP y2345 X0 hx hZ hown hml.symm (own_V19 hw) (rmBd2 l Z a0 hw [] cm h0 n0 (Nat.le_trans Z0 KK0.1) f0_ f1_) 0 f0_ e0 [.int 2] [] D
  have y2346 := rP 2 9 _ [.ref cm] y2344 X2344 hx D rfl
  obtain ⟨T2347, X2347, e2347, y2347⟩ := gP y2346 X2344 hx hZ hown (w51 hw) eq2344 f2_ D
  have y2350 := rP 2 14 _ [.int 2, .ref cm, .ref sd] y2347 X2347 hx D rfl
  obtain ⟨_, T2349, L2349, X2349, ⟨rfl, Nq2349, eq2349⟩, y2349⟩ := cP y2350 X2347 hx hZ hown hml.symm (own_V21 hw) (rmCo2 l Z a0 hw [] cm h0 n0 (Nat.le_trans Z0 KK0.1) f0_ f1_) 1 f0_ e2347 [.int 2] [.ref sd] D
  have y2353 := iP y2349 X2349 hx hZ eq2349 f3_ D
  have y2354 := rP 2 20 _ [.int 2, .ref cm, .int (-1)] y2353 X2349 hx D rfl
  obtain ⟨_, T2352, L2352, X2352, ⟨rfl, Nq2352, eq2352⟩, y2352⟩ := cP y2354 X2349 hx hZ hown hml.symm (own_V22 hw) (rmSi2 l Z a0 hw [] cm h0 n0 (Nat.le_trans Z0 KK0.1) f0_ f1_) 1 f0_ eq2349 [.int 2] [.int (-1)] D
  have y2355 := rP 3 54 _ [.int 1] y2352 X2352 hx D rfl
  exact own_retZ X2352 hlk y2355 hx hret rfl (D 54 rfl) (by decide) (by decide) eq2352 ⟨rfl, (Fr.app (Fr.app (Fr.app N0 Nq2344) Nq2349) Nq2352), rfl⟩
def Q_rmIb20 (Z : State) (cm : Addr) (sd : Addr) (k_sd : ClassId)  (h0 : Heap) (n0 : Nat) (v : Option Value) (h : Heap) (L : List Loc) : Prop := v = some (.int 0) ∧ Fr n0 L ∧ h = h0
theorem rmIb20 (l : Launch) (Z : State) (a0 : Array Value) (hw : own_Hw a0 Z) (ws : List Jvm.Cond) (cm : Addr) (sd : Addr) (k_sd : ClassId)  (h0 : Heap) (n0 : Nat) (Z0 : n0 ≤ h0.size) (f0_ : Exa Z h0 cm sC) (f1_ : Fld Z h0 cm sC "dimension" "I" (.int 1)) (f2_ : Fld Z h0 cm sC "side" "[I" (.ref sd)) (f3_ : Arv Z h0 sd k_sd .int 1 [.int 0] (.int 0)) : own_Met l Z own_mn33 prog_26_method_13_code 2 (some .boolean) ws ⟨1, 0, 0, 14⟩ #[.ref cm, .int 2] h0 (Q_rmIb20 Z cm sd k_sd h0 n0) := by
  refine own_begS sC n0 [] #[vr cm, vi 2] oT35 (plainFor_of_name own_pn_sC) fun p e s m below meth c s₁ hx D hml hown hnm hret hlk hZ X0 e0 PS y0 N0 KK0 => ?_
  have y2358 := rP 2 2 _ [.int 2, .ref cm] y0 X0 hx D rfl
  obtain ⟨_, T2357, L2357, X2357, ⟨rfl, Nq2357, eq2357⟩, y2357⟩ := cP y2358 X0 hx hZ hown hml.symm (own_V19 hw) (rmBd2 l Z a0 hw [] cm h0 n0 (Nat.le_trans Z0 KK0.1) f0_ f1_) 0 f0_ e0 [.int 2] [] D
  have y2359 := rP 2 9 _ [.ref cm] y2357 X2357 hx D rfl
  obtain ⟨T2360, X2360, e2360, y2360⟩ := gP y2359 X2357 hx hZ hown (w51 hw) eq2357 f2_ D
  have y2363 := rP 2 14 _ [.int 2, .ref cm, .ref sd] y2360 X2360 hx D rfl
  obtain ⟨_, T2362, L2362, X2362, ⟨rfl, Nq2362, eq2362⟩, y2362⟩ := cP y2363 X2360 hx hZ hown hml.symm (own_V21 hw) (rmCo2 l Z a0 hw [] cm h0 n0 (Nat.le_trans Z0 KK0.1) f0_ f1_) 1 f0_ e2360 [.int 2] [.ref sd] D
  have y2366 := iP y2362 X2362 hx hZ eq2362 f3_ D
  have y2367 := rP 2 20 _ [.int 2, .ref cm, .int 0] y2366 X2362 hx D rfl
  obtain ⟨_, T2365, L2365, X2365, ⟨rfl, Nq2365, eq2365⟩, y2365⟩ := cP y2367 X2362 hx hZ hown hml.symm (own_V22 hw) (rmSi2 l Z a0 hw [] cm h0 n0 (Nat.le_trans Z0 KK0.1) f0_ f1_) 1 f0_ eq2362 [.int 2] [.int 0] D
  have y2368 := rP 3 54 _ [.int 0] y2365 X2365 hx D rfl
  exact own_retZ X2365 hlk y2368 hx hret rfl (D 54 rfl) (by decide) (by decide) eq2365 ⟨rfl, (Fr.app (Fr.app (Fr.app N0 Nq2357) Nq2362) Nq2365), rfl⟩
def Q_rmIb2P (Z : State) (cm : Addr) (sd : Addr) (k_sd : ClassId)  (h0 : Heap) (n0 : Nat) (v : Option Value) (h : Heap) (L : List Loc) : Prop := v = some (.int 0) ∧ Fr n0 L ∧ h = h0
theorem rmIb2P (l : Launch) (Z : State) (a0 : Array Value) (hw : own_Hw a0 Z) (ws : List Jvm.Cond) (cm : Addr) (sd : Addr) (k_sd : ClassId)  (h0 : Heap) (n0 : Nat) (Z0 : n0 ≤ h0.size) (f0_ : Exa Z h0 cm sC) (f1_ : Fld Z h0 cm sC "dimension" "I" (.int 1)) (f2_ : Fld Z h0 cm sC "side" "[I" (.ref sd)) (f3_ : Arv Z h0 sd k_sd .int 1 [.int 1] (.int 0)) : own_Met l Z own_mn33 prog_26_method_13_code 2 (some .boolean) ws ⟨1, 0, 0, 14⟩ #[.ref cm, .int 2] h0 (Q_rmIb2P Z cm sd k_sd h0 n0) := by
  refine own_begS sC n0 [] #[vr cm, vi 2] oT35 (plainFor_of_name own_pn_sC) fun p e s m below meth c s₁ hx D hml hown hnm hret hlk hZ X0 e0 PS y0 N0 KK0 => ?_
  have y2371 := rP 2 2 _ [.int 2, .ref cm] y0 X0 hx D rfl
  obtain ⟨_, T2370, L2370, X2370, ⟨rfl, Nq2370, eq2370⟩, y2370⟩ := cP y2371 X0 hx hZ hown hml.symm (own_V19 hw) (rmBd2 l Z a0 hw [] cm h0 n0 (Nat.le_trans Z0 KK0.1) f0_ f1_) 0 f0_ e0 [.int 2] [] D
  have y2372 := rP 2 9 _ [.ref cm] y2370 X2370 hx D rfl
  obtain ⟨T2373, X2373, e2373, y2373⟩ := gP y2372 X2370 hx hZ hown (w51 hw) eq2370 f2_ D
  have y2376 := rP 2 14 _ [.int 2, .ref cm, .ref sd] y2373 X2373 hx D rfl
  obtain ⟨_, T2375, L2375, X2375, ⟨rfl, Nq2375, eq2375⟩, y2375⟩ := cP y2376 X2373 hx hZ hown hml.symm (own_V21 hw) (rmCo2 l Z a0 hw [] cm h0 n0 (Nat.le_trans Z0 KK0.1) f0_ f1_) 1 f0_ e2373 [.int 2] [.ref sd] D
  have y2379 := iP y2375 X2375 hx hZ eq2375 f3_ D
  have y2380 := rP 2 20 _ [.int 2, .ref cm, .int 1] y2379 X2375 hx D rfl
  obtain ⟨_, T2378, L2378, X2378, ⟨rfl, Nq2378, eq2378⟩, y2378⟩ := cP y2380 X2375 hx hZ hown hml.symm (own_V22 hw) (rmSi2 l Z a0 hw [] cm h0 n0 (Nat.le_trans Z0 KK0.1) f0_ f1_) 1 f0_ eq2375 [.int 2] [.int 1] D
  have y2381 := rP 3 54 _ [.int 0] y2378 X2378 hx D rfl
  exact own_retZ X2378 hlk y2381 hx hret rfl (D 54 rfl) (by decide) (by decide) eq2378 ⟨rfl, (Fr.app (Fr.app (Fr.app N0 Nq2370) Nq2375) Nq2378), rfl⟩
abbrev own_nb (tv p0 z0 : UInt64) : Prop := ¬ ((cmpValue (FP.dcmp (FP.dsub tv p0) (FP.dmul (13650858631089744401 : UInt64) (Native.java_lang_Math.nans.pick64 true (Native.java_lang_Math.nans.pick64 true (tv &&& (9223372036854775807 : UInt64)) z0) (0 : UInt64)))) .g) < (0 : Int32))
def Q_rmRc0N (Z : State) (cm : Addr) (kr du al ed x1 t0 : Addr) (k_kr k_du k_ed k_t0 : ClassId) (yy0 yy1 : UInt64) (x2 : Addr) (h0 : Heap) (n0 : Nat) (v : Option Value) (h : Heap) (L : List Loc) : Prop := v = some (.double 13830554455654793216) ∧ Fr n0 L ∧ h = h0
theorem rmRc0N (l : Launch) (Z : State) (a0 : Array Value) (hw : own_Hw a0 Z) (ws : List Jvm.Cond) (cm : Addr) (kr du al ed x1 t0 : Addr) (k_kr k_du k_ed k_t0 : ClassId) (yy0 yy1 : UInt64) (x2 : Addr) (h0 : Heap) (n0 : Nat) (Z0 : n0 ≤ h0.size) (f0_ : Exa Z h0 cm sC) (f1_ : Fld Z h0 cm sC "dimension" "I" (.int 1)) (f2_ : Fld Z h0 cm sC "dense" "Ljava/util/List;" (.ref al)) (f3_ : Fld Z h0 cm sC "kernelRows" "[I" (.ref kr)) (f4_ : Fld Z h0 cm sC "duals" "[D" (.ref du)) (f5_ : Arv Z h0 kr k_kr .int 1 [.int 0] (.int 0)) (f6_ : Arv Z h0 du k_du .double (2 : Int32) [.double yy0, .double yy1] (.double 0)) (f7_ : own_BA Z h0 al (.ref ed) (.int 2) (.int 2)) (f8_ : Arv Z h0 ed k_ed (.object "java/lang/Object") (10 : Int32) [.ref x1, .ref x2, .null, .null, .null, .null, .null, .null, .null, .null] .null) (f9_ : Ovr Z k_ed "java/lang/Object") (f10_ : own_BD Z h0 x1 (.ref t0) (.double 0) (.double 4607182418800017408) (.double 4607182418800017408) (.int 0)) (f11_ : Arv Z h0 t0 k_t0 .double (2 : Int32) [.double 0, .double 4607182418800017408] (.double 0)) (ne_du_t0 : du ≠ t0) (ok_yy0 : own_ok 2 yy0) : own_Met l Z own_mn34 prog_26_method_17_code 15 (some .double) ws ⟨3, 0, 0, 41⟩ #[.ref cm, .int 0] h0 (Q_rmRc0N Z cm kr du al ed x1 t0 k_kr k_du k_ed k_t0 yy0 yy1 x2 h0 n0) := by
  refine own_begS sC n0 [] #[vr cm, vi 0, un, un, un, un, un, un, un, un, un, un, un, un, un] oT38 (plainFor_of_name own_pn_sC) fun p e s m below meth c s₁ hx D hml hown hnm hret hlk hZ X0 e0 PS y0 N0 KK0 => ?_
  have y2384 := rP 2 2 _ [.int 0, .ref cm] y0 X0 hx D rfl
  obtain ⟨_, T2383, L2383, X2383, ⟨rfl, Nq2383, eq2383⟩, y2383⟩ := cP y2384 X0 hx hZ hown hml.symm (own_V19 hw) (rmBd0 l Z a0 hw [] cm h0 n0 (Nat.le_trans Z0 KK0.1) f0_ f1_) 0 f0_ e0 [.int 0] [] D
  have y2385 := rP 2 59 _ [.ref cm] y2383 X2383 hx D rfl
  obtain ⟨T2386, X2386, e2386, y2386⟩ := gP y2385 X2383 hx hZ hown (w35 hw) eq2383 f2_ D
  have y2389 := rP 2 64 _ [.int 0, .ref cm, .ref al] y2386 X2386 hx D rfl
  obtain ⟨_, T2388, L2388, X2388, ⟨rfl, Nq2388, eq2388⟩, y2388⟩ := cP y2389 X2386 hx hZ hown hml.symm (own_V20 hw) (rmDe0 l Z a0 hw [] cm h0 n0 (Nat.le_trans Z0 KK0.1) f0_ f1_) 1 f0_ e2386 [.int 0] [.ref al] D
  obtain ⟨_, T2391, L2391, X2391, ⟨rfl, Nq2391, eq2391⟩, y2391⟩ := cF y2388 X2388 hx hZ hown hml.symm (own_V10 hw) (rmGet0 l Z a0 hw [] al ed k_ed x1 x2 h0 n0 (Nat.le_trans Z0 KK0.1) f7_ f8_ f9_) 0 f7_.e eq2388 [.int 0] [] D
  obtain ⟨T2392, X2392, e2392, st2392⟩ := castY X2391 hx hZ hown (w55 hw) eq2391 (Ins.self f10_.e) (g := (mkF m 72 #[vr cm, vi 0, un, un, un, un, un, un, un, un, un, un, un, un, un] [.ref x1])) rfl rfl (D 72 rfl)
  have y2393 := fun (τ : State) kt => y2391 τ (st2392 τ kt)
  have y2394 := rP 1 77 [vr cm, vi 0, un, un, un, un, un, un, vr x1, un, un, un, un, un, un] [] y2393 X2392 hx D rfl
  have y2395 := rP 1 79 _ [.ref x1] y2394 X2392 hx D rfl
  obtain ⟨T2396, X2396, e2396, y2396⟩ := own_getS y2395 X2392 hx hZ hown (w254 hw) e2392 f10_.f1 rfl rfl (D 79 rfl)
  have y2397 := rP 1 83 [vr cm, vi 0, vd 0, .second, un, un, un, un, vr x1, un, un, un, un, un, un] [] y2396 X2396 hx D rfl
  have y2398 := rP 1 85 _ [.ref x1] y2397 X2396 hx D rfl
  obtain ⟨T2399, X2399, e2399, y2399⟩ := own_getS y2398 X2396 hx hZ hown (w120 hw) e2396 f10_.f2 rfl rfl (D 85 rfl)
  have y2400 := rP 1 90 [vr cm, vi 0, vd 0, .second, vd 4607182418800017408, .second, un, un, vr x1, un, un, un, un, un, un] [] y2399 X2399 hx D rfl
  have y2401 := rP 1 91 _ [.double 0] y2400 X2399 hx D rfl
  obtain ⟨T2402, X2402, e2402, y2402⟩ := own_absR (W := 0) y2401 X2399 hx hZ hown (w108 hw) (w109 hw) (w96 hw) (w110 hw) e2399 (own_ok_no own_okc_0) rfl hml.symm rfl (Nat.le_of_eq rfl) (D 91 rfl) (by decide) (by decide) (by decide) (by decide)
  have y2403 := nD y2402 own_q14
  have y2404 := rP 1 96 _ [.ref x1, .double 0] y2403 X2402 hx D rfl
  obtain ⟨T2405, X2405, e2405, y2405⟩ := own_getS y2404 X2402 hx hZ hown (w122 hw) e2402 f10_.f3 rfl rfl (D 96 rfl)
  obtain ⟨T2406, X2406, e2406, y2406⟩ := own_maxR (W := 0) y2405 X2405 hx hZ hown (w111 hw) (w112 hw) (w96 hw) (w113 hw) e2405 (own_ok_no own_okc_0) (own_ok_no own_okc_4607182418800017408) rfl hml.symm rfl (Nat.le_of_eq rfl) (D 99 rfl) (by decide) (by decide) (by decide) (by decide)
  have y2407 := nD y2406 own_q13
  have y2408 := rP 1 104 [vr cm, vi 0, vd 0, .second, vd 4607182418800017408, .second, vd 4607182418800017408, .second, vr x1, un, un, un, un, un, un] [] y2407 X2406 hx D rfl
  have y2409 := rP 1 105 _ [.ref cm] y2408 X2406 hx D rfl
  obtain ⟨T2410, X2410, e2410, y2410⟩ := gP y2409 X2406 hx hZ hown (w38 hw) e2406 f3_ D
  have y2411 := rP 1 110 [vr cm, vi 0, vd 0, .second, vd 4607182418800017408, .second, vd 4607182418800017408, .second, vr x1, vr kr, un, un, un, un, un] [] y2410 X2410 hx D rfl
  have y2412 := rP 1 112 _ [.ref kr] y2411 X2410 hx D rfl
  have y2413 := lP y2412 X2410 hx hZ e2410 f5_ D
  have y2414 := rP 1 115 [vr cm, vi 0, vd 0, .second, vd 4607182418800017408, .second, vd 4607182418800017408, .second, vr x1, vr kr, vi 1, un, un, un, un] [] y2413 X2410 hx D rfl
  have y2415 := rP 2 118 [vr cm, vi 0, vd 0, .second, vd 4607182418800017408, .second, vd 4607182418800017408, .second, vr x1, vr kr, vi 1, vi 0, un, un, un] [] y2414 X2410 hx D rfl
  have y2416 := rP 5 129 _ [.int 0, .ref kr] y2415 X2410 hx D rfl
  have y2417 := iP y2416 X2410 hx hZ e2410 f5_ D
  have y2418 := rP 1 132 [vr cm, vi 0, vd 0, .second, vd 4607182418800017408, .second, vd 4607182418800017408, .second, vr x1, vr kr, vi 1, vi 0, vi 0, un, un] [] y2417 X2410 hx D rfl
  have y2419 := rP 1 133 _ [.ref cm] y2418 X2410 hx D rfl
  obtain ⟨T2420, X2420, e2420, y2420⟩ := gP y2419 X2410 hx hZ hown (w43 hw) e2410 f4_ D
  have y2421 := rP 1 138 _ [.int 0, .ref du] y2420 X2420 hx D rfl
  have y2422 := dP y2421 X2420 hx hZ e2420 f6_ D
  have y2423 := rP 1 141 _ [.ref x1, .double yy0] y2422 X2420 hx D rfl
  obtain ⟨T2424, X2424, e2424, y2424⟩ := own_getS y2423 X2420 hx hZ hown (w166 hw) e2420 f10_.f0 rfl rfl (D 141 rfl)
  have y2425 := rP 1 146 _ [.int 0, .ref t0, .double yy0] y2424 X2424 hx D rfl
  have y2426 := dP y2425 X2424 hx hZ e2424 f11_ D
  have y2427 := own_dmulP y2426 X2424 hx D (own_ok_no (own_sz_ok (own_sz_mul ok_yy0 (Or.inl rfl))))
  have y2428 := rP 1 150 [vr cm, vi 0, vd 0, .second, vd 4607182418800017408, .second, vd 4607182418800017408, .second, vr x1, vr kr, vi 1, vi 0, vi 0, .val (.double (FP.dmul yy0 (0 : UInt64))), .second] [] y2427 X2424 hx D rfl
  have y2429 := rP 2 154 _ [(.double (FP.dmul yy0 (0 : UInt64))), .double 4607182418800017408] y2428 X2424 hx D rfl
  have y2430 := own_daddP y2429 X2424 hx D (own_ok_no (own_ok_add own_okc_4607182418800017408 (own_sz_ok (own_sz_mul ok_yy0 (Or.inl rfl))) (by decide)))
  have y2431 := nD y2430 (own_u1 (own_sz_mul ok_yy0 (Or.inl rfl)))
  have y2432 := rP 1 157 _ [] y2431 X2424 hx D rfl
  have y2433 := rP 2 161 _ [(.double (FP.dmul yy0 (0 : UInt64))), .double 4607182418800017408] y2432 X2424 hx D rfl
  obtain ⟨T2434, X2434, e2434, y2434⟩ := own_absR (W := 2) y2433 X2424 hx hZ hown (w108 hw) (w109 hw) (w96 hw) (w110 hw) e2424 (own_ok_no (own_sz_ok (own_sz_mul ok_yy0 (Or.inl rfl)))) rfl hml.symm rfl (Nat.le_of_eq rfl) (D 161 rfl) (by decide) (by decide) (by decide) (by decide)
  have y2435 := nD y2434 (own_u2 (own_sz_mul ok_yy0 (Or.inl rfl)))
  obtain ⟨T2436, X2436, e2436, y2436⟩ := own_maxR (W := 0) y2435 X2434 hx hZ hown (w111 hw) (w112 hw) (w96 hw) (w113 hw) e2434 (own_ok_no own_okc_4607182418800017408) (own_ok_no own_okc_0) rfl hml.symm rfl (Nat.le_of_eq rfl) (D 164 rfl) (by decide) (by decide) (by decide) (by decide)
  have y2437 := nD y2436 own_q15
  have y2438 := rP 1 169 _ [] y2437 X2436 hx D rfl
  have y2439 := rP 1 172 [vr cm, vi 0, vd 0, .second, vd 4607182418800017408, .second, vd 4607182418800017408, .second, vr x1, vr kr, vi 1, vi 1, vi 0, .val (.double (FP.dmul yy0 (0 : UInt64))), .second] [] y2438 X2436 hx D rfl
  have y2440 := rP 6 178 _ [.double 4607182418800017408, .double 0] y2439 X2436 hx D rfl
  have y2441 := own_dsubP y2440 X2436 hx D (own_ok_no own_okc_13830554455654793216)
  have y2442 := nD y2441 own_q16
  have y2443 := rP 1 181 [vr cm, vi 0, vd 0, .second, vd 4607182418800017408, .second, vd 4607182418800017408, .second, vd 13830554455654793216, .second, vi 1, vi 1, vi 0, .val (.double (FP.dmul yy0 (0 : UInt64))), .second] [] y2442 X2436 hx D rfl
  have y2444 := rP 1 183 _ [.double 13830554455654793216] y2443 X2436 hx D rfl
  have y2445 := fun (τ : State) kt => y2444 τ (X2436.ldc2DoubleC hx hown (mvT hZ (w275 hw)) (g := (mkF m 183 #[vr cm, vi 0, vd 0, .second, vd 4607182418800017408, .second, vd 4607182418800017408, .second, vd 13830554455654793216, .second, vi 1, vi 1, vi 0, .val (.double (FP.dmul yy0 (0 : UInt64))), .second] [.double 13830554455654793216])) rfl (D 183 rfl) _ kt)
  have y2446 := rP 1 188 _ [.double 4607182418800017408, .double 13650858631089744401, .double 13830554455654793216] y2445 X2436 hx D rfl
  have y2447 := own_dmulP y2446 X2436 hx D (own_ok_no own_okc_13650858631089744401)
  have y2448 := nD y2447 own_q17
  have y2449 := rP 1 190 _ [(.int (cmpValue (FP.dcmp (13830554455654793216 : UInt64) (13650858631089744401 : UInt64)) .g))] y2448 X2436 hx D rfl
  have y2450 := nI y2449 own_q18
  have y2451 := rP 3 199 _ [.double 13830554455654793216] y2450 X2436 hx D rfl
  exact own_retDb X2436 hlk y2451 hx hret (D 199 rfl) (by decide) (by decide) e2436 ⟨rfl, (Fr.app (Fr.app (Fr.app N0 Nq2383) Nq2388) Nq2391), rfl⟩
def Q_rmRc0Z (Z : State) (cm : Addr) (kr du al ed x1 t0 : Addr) (k_kr k_du k_ed k_t0 : ClassId) (yy0 yy1 tv p0 z0 : UInt64) (x2 : Addr) (h0 : Heap) (n0 : Nat) (v : Option Value) (h : Heap) (L : List Loc) : Prop := v = some (.double 0) ∧ Fr n0 L ∧ h = h0
theorem rmRc0Z (l : Launch) (Z : State) (a0 : Array Value) (hw : own_Hw a0 Z) (ws : List Jvm.Cond) (cm : Addr) (kr du al ed x1 t0 : Addr) (k_kr k_du k_ed k_t0 : ClassId) (yy0 yy1 tv p0 z0 : UInt64) (x2 : Addr) (h0 : Heap) (n0 : Nat) (Z0 : n0 ≤ h0.size) (f0_ : Exa Z h0 cm sC) (f1_ : Fld Z h0 cm sC "dimension" "I" (.int 1)) (f2_ : Fld Z h0 cm sC "dense" "Ljava/util/List;" (.ref al)) (f3_ : Fld Z h0 cm sC "kernelRows" "[I" (.ref kr)) (f4_ : Fld Z h0 cm sC "duals" "[D" (.ref du)) (f5_ : Arv Z h0 kr k_kr .int 1 [.int 0] (.int 0)) (f6_ : Arv Z h0 du k_du .double (2 : Int32) [.double yy0, .double yy1] (.double 0)) (f7_ : own_BA Z h0 al (.ref ed) (.int 2) (.int 2)) (f8_ : Arv Z h0 ed k_ed (.object "java/lang/Object") (10 : Int32) [.ref x1, .ref x2, .null, .null, .null, .null, .null, .null, .null, .null] .null) (f9_ : Ovr Z k_ed "java/lang/Object") (f10_ : own_BD Z h0 x1 (.ref t0) (.double tv) (.double p0) (.double z0) (.int 0)) (f11_ : Arv Z h0 t0 k_t0 .double (2 : Int32) [.double 0, .double 4607182418800017408] (.double 0)) (ne_du_t0 : du ≠ t0) (hp : p0 = 0 ∨ p0 = (4607182418800017408 : UInt64)) (hc : own_nb tv p0 z0) (ok_yy0 : own_ok 2 yy0) (ok_tv : own_ok 1 tv) (ok_p0 : own_ok 1 p0) (ok_z0 : own_ok 1 z0) : own_Met l Z own_mn34 prog_26_method_17_code 15 (some .double) ws ⟨3, 0, 0, 41⟩ #[.ref cm, .int 0] h0 (Q_rmRc0Z Z cm kr du al ed x1 t0 k_kr k_du k_ed k_t0 yy0 yy1 tv p0 z0 x2 h0 n0) := by
  refine own_begS sC n0 [] #[vr cm, vi 0, un, un, un, un, un, un, un, un, un, un, un, un, un] oT38 (plainFor_of_name own_pn_sC) fun p e s m below meth c s₁ hx D hml hown hnm hret hlk hZ X0 e0 PS y0 N0 KK0 => ?_
  have y2454 := rP 2 2 _ [.int 0, .ref cm] y0 X0 hx D rfl
  obtain ⟨_, T2453, L2453, X2453, ⟨rfl, Nq2453, eq2453⟩, y2453⟩ := cP y2454 X0 hx hZ hown hml.symm (own_V19 hw) (rmBd0 l Z a0 hw [] cm h0 n0 (Nat.le_trans Z0 KK0.1) f0_ f1_) 0 f0_ e0 [.int 0] [] D
  have y2455 := rP 2 59 _ [.ref cm] y2453 X2453 hx D rfl
  obtain ⟨T2456, X2456, e2456, y2456⟩ := gP y2455 X2453 hx hZ hown (w35 hw) eq2453 f2_ D
  have y2459 := rP 2 64 _ [.int 0, .ref cm, .ref al] y2456 X2456 hx D rfl
  obtain ⟨_, T2458, L2458, X2458, ⟨rfl, Nq2458, eq2458⟩, y2458⟩ := cP y2459 X2456 hx hZ hown hml.symm (own_V20 hw) (rmDe0 l Z a0 hw [] cm h0 n0 (Nat.le_trans Z0 KK0.1) f0_ f1_) 1 f0_ e2456 [.int 0] [.ref al] D
  obtain ⟨_, T2461, L2461, X2461, ⟨rfl, Nq2461, eq2461⟩, y2461⟩ := cF y2458 X2458 hx hZ hown hml.symm (own_V10 hw) (rmGet0 l Z a0 hw [] al ed k_ed x1 x2 h0 n0 (Nat.le_trans Z0 KK0.1) f7_ f8_ f9_) 0 f7_.e eq2458 [.int 0] [] D
  obtain ⟨T2462, X2462, e2462, st2462⟩ := castY X2461 hx hZ hown (w55 hw) eq2461 (Ins.self f10_.e) (g := (mkF m 72 #[vr cm, vi 0, un, un, un, un, un, un, un, un, un, un, un, un, un] [.ref x1])) rfl rfl (D 72 rfl)
  have y2463 := fun (τ : State) kt => y2461 τ (st2462 τ kt)
  have y2464 := rP 1 77 [vr cm, vi 0, un, un, un, un, un, un, vr x1, un, un, un, un, un, un] [] y2463 X2462 hx D rfl
  have y2465 := rP 1 79 _ [.ref x1] y2464 X2462 hx D rfl
  obtain ⟨T2466, X2466, e2466, y2466⟩ := own_getS y2465 X2462 hx hZ hown (w254 hw) e2462 f10_.f1 rfl rfl (D 79 rfl)
  have y2467 := rP 1 83 [vr cm, vi 0, vd tv, .second, un, un, un, un, vr x1, un, un, un, un, un, un] [] y2466 X2466 hx D rfl
  have y2468 := rP 1 85 _ [.ref x1] y2467 X2466 hx D rfl
  obtain ⟨T2469, X2469, e2469, y2469⟩ := own_getS y2468 X2466 hx hZ hown (w120 hw) e2466 f10_.f2 rfl rfl (D 85 rfl)
  have y2470 := rP 1 90 [vr cm, vi 0, vd tv, .second, vd p0, .second, un, un, vr x1, un, un, un, un, un, un] [] y2469 X2469 hx D rfl
  have y2471 := rP 1 91 _ [.double tv] y2470 X2469 hx D rfl
  obtain ⟨T2472, X2472, e2472, y2472⟩ := own_absR (W := 0) y2471 X2469 hx hZ hown (w108 hw) (w109 hw) (w96 hw) (w110 hw) e2469 (own_ok_no ok_tv) rfl hml.symm rfl (Nat.le_of_eq rfl) (D 91 rfl) (by decide) (by decide) (by decide) (by decide)
  have y2473 := rP 1 96 _ [.ref x1, (.double (tv &&& (9223372036854775807 : UInt64)))] y2472 X2472 hx D rfl
  obtain ⟨T2474, X2474, e2474, y2474⟩ := own_getS y2473 X2472 hx hZ hown (w122 hw) e2472 f10_.f3 rfl rfl (D 96 rfl)
  obtain ⟨T2475, X2475, e2475, y2475⟩ := own_maxR (W := 0) y2474 X2474 hx hZ hown (w111 hw) (w112 hw) (w96 hw) (w113 hw) e2474 (own_ok_no (own_ok_abs ok_tv)) (own_ok_no ok_z0) rfl hml.symm rfl (Nat.le_of_eq rfl) (D 99 rfl) (by decide) (by decide) (by decide) (by decide)
  have y2476 := rP 1 104 [vr cm, vi 0, vd tv, .second, vd p0, .second, .val (.double (Native.java_lang_Math.nans.pick64 true (tv &&& (9223372036854775807 : UInt64)) z0)), .second, vr x1, un, un, un, un, un, un] [] y2475 X2475 hx D rfl
  have y2477 := rP 1 105 _ [.ref cm] y2476 X2475 hx D rfl
  obtain ⟨T2478, X2478, e2478, y2478⟩ := gP y2477 X2475 hx hZ hown (w38 hw) e2475 f3_ D
  have y2479 := rP 1 110 [vr cm, vi 0, vd tv, .second, vd p0, .second, .val (.double (Native.java_lang_Math.nans.pick64 true (tv &&& (9223372036854775807 : UInt64)) z0)), .second, vr x1, vr kr, un, un, un, un, un] [] y2478 X2478 hx D rfl
  have y2480 := rP 1 112 _ [.ref kr] y2479 X2478 hx D rfl
  have y2481 := lP y2480 X2478 hx hZ e2478 f5_ D
  have y2482 := rP 1 115 [vr cm, vi 0, vd tv, .second, vd p0, .second, .val (.double (Native.java_lang_Math.nans.pick64 true (tv &&& (9223372036854775807 : UInt64)) z0)), .second, vr x1, vr kr, vi 1, un, un, un, un] [] y2481 X2478 hx D rfl
  have y2483 := rP 2 118 [vr cm, vi 0, vd tv, .second, vd p0, .second, .val (.double (Native.java_lang_Math.nans.pick64 true (tv &&& (9223372036854775807 : UInt64)) z0)), .second, vr x1, vr kr, vi 1, vi 0, un, un, un] [] y2482 X2478 hx D rfl
  have y2484 := rP 5 129 _ [.int 0, .ref kr] y2483 X2478 hx D rfl
  have y2485 := iP y2484 X2478 hx hZ e2478 f5_ D
  have y2486 := rP 1 132 [vr cm, vi 0, vd tv, .second, vd p0, .second, .val (.double (Native.java_lang_Math.nans.pick64 true (tv &&& (9223372036854775807 : UInt64)) z0)), .second, vr x1, vr kr, vi 1, vi 0, vi 0, un, un] [] y2485 X2478 hx D rfl
  have y2487 := rP 1 133 _ [.ref cm] y2486 X2478 hx D rfl
  obtain ⟨T2488, X2488, e2488, y2488⟩ := gP y2487 X2478 hx hZ hown (w43 hw) e2478 f4_ D
  have y2489 := rP 1 138 _ [.int 0, .ref du] y2488 X2488 hx D rfl
  have y2490 := dP y2489 X2488 hx hZ e2488 f6_ D
  have y2491 := rP 1 141 _ [.ref x1, .double yy0] y2490 X2488 hx D rfl
  obtain ⟨T2492, X2492, e2492, y2492⟩ := own_getS y2491 X2488 hx hZ hown (w166 hw) e2488 f10_.f0 rfl rfl (D 141 rfl)
  have y2493 := rP 1 146 _ [.int 0, .ref t0, .double yy0] y2492 X2492 hx D rfl
  have y2494 := dP y2493 X2492 hx hZ e2492 f11_ D
  have y2495 := own_dmulP y2494 X2492 hx D (own_ok_no (own_sz_ok (own_sz_mul ok_yy0 (Or.inl rfl))))
  have y2496 := rP 1 150 [vr cm, vi 0, vd tv, .second, vd p0, .second, .val (.double (Native.java_lang_Math.nans.pick64 true (tv &&& (9223372036854775807 : UInt64)) z0)), .second, vr x1, vr kr, vi 1, vi 0, vi 0, .val (.double (FP.dmul yy0 (0 : UInt64))), .second] [] y2495 X2492 hx D rfl
  have y2497 := rP 2 154 _ [(.double (FP.dmul yy0 (0 : UInt64))), .double p0] y2496 X2492 hx D rfl
  have y2498 := own_daddP y2497 X2492 hx D (own_ok_no (own_ok_add ok_p0 (own_sz_ok (own_sz_mul ok_yy0 (Or.inl rfl))) (by decide)))
  have y2499 := nD y2498 (own_addp hp (own_sz_mul ok_yy0 (Or.inl rfl)))
  have y2500 := rP 1 157 _ [] y2499 X2492 hx D rfl
  have y2501 := rP 2 161 _ [(.double (FP.dmul yy0 (0 : UInt64))), (.double (Native.java_lang_Math.nans.pick64 true (tv &&& (9223372036854775807 : UInt64)) z0))] y2500 X2492 hx D rfl
  obtain ⟨T2502, X2502, e2502, y2502⟩ := own_absR (W := 2) y2501 X2492 hx hZ hown (w108 hw) (w109 hw) (w96 hw) (w110 hw) e2492 (own_ok_no (own_sz_ok (own_sz_mul ok_yy0 (Or.inl rfl)))) rfl hml.symm rfl (Nat.le_of_eq rfl) (D 161 rfl) (by decide) (by decide) (by decide) (by decide)
  have y2503 := nD y2502 (own_u2 (own_sz_mul ok_yy0 (Or.inl rfl)))
  obtain ⟨T2504, X2504, e2504, y2504⟩ := own_maxR (W := 0) y2503 X2502 hx hZ hown (w111 hw) (w112 hw) (w96 hw) (w113 hw) e2502 (own_ok_no (own_ok_max (k := 1) (own_ok_abs ok_tv) ok_z0 (by decide) (by decide))) (own_ok_no own_okc_0) rfl hml.symm rfl (Nat.le_of_eq rfl) (D 164 rfl) (by decide) (by decide) (by decide) (by decide)
  have y2505 := rP 1 169 [vr cm, vi 0, vd tv, .second, vd p0, .second, .val (.double (Native.java_lang_Math.nans.pick64 true (Native.java_lang_Math.nans.pick64 true (tv &&& (9223372036854775807 : UInt64)) z0) (0 : UInt64))), .second, vr x1, vr kr, vi 1, vi 0, vi 0, .val (.double (FP.dmul yy0 (0 : UInt64))), .second] [] y2504 X2504 hx D rfl
  have y2506 := rP 1 172 [vr cm, vi 0, vd tv, .second, vd p0, .second, .val (.double (Native.java_lang_Math.nans.pick64 true (Native.java_lang_Math.nans.pick64 true (tv &&& (9223372036854775807 : UInt64)) z0) (0 : UInt64))), .second, vr x1, vr kr, vi 1, vi 1, vi 0, .val (.double (FP.dmul yy0 (0 : UInt64))), .second] [] y2505 X2504 hx D rfl
  have y2507 := rP 6 178 _ [.double p0, .double tv] y2506 X2504 hx D rfl
  have y2508 := own_dsubP y2507 X2504 hx D (own_ok_no (own_ok_sub ok_tv ok_p0 (by decide)))
  have y2509 := rP 1 181 [vr cm, vi 0, vd tv, .second, vd p0, .second, .val (.double (Native.java_lang_Math.nans.pick64 true (Native.java_lang_Math.nans.pick64 true (tv &&& (9223372036854775807 : UInt64)) z0) (0 : UInt64))), .second, .val (.double (FP.dsub tv p0)), .second, vi 1, vi 1, vi 0, .val (.double (FP.dmul yy0 (0 : UInt64))), .second] [] y2508 X2504 hx D rfl
  have y2510 := rP 1 183 _ [(.double (FP.dsub tv p0))] y2509 X2504 hx D rfl
  have y2511 := fun (τ : State) kt => y2510 τ (X2504.ldc2DoubleC hx hown (mvT hZ (w275 hw)) (g := (mkF m 183 #[vr cm, vi 0, vd tv, .second, vd p0, .second, .val (.double (Native.java_lang_Math.nans.pick64 true (Native.java_lang_Math.nans.pick64 true (tv &&& (9223372036854775807 : UInt64)) z0) (0 : UInt64))), .second, .val (.double (FP.dsub tv p0)), .second, vi 1, vi 1, vi 0, .val (.double (FP.dmul yy0 (0 : UInt64))), .second] [(.double (FP.dsub tv p0))])) rfl (D 183 rfl) _ kt)
  have y2512 := rP 1 188 _ [(.double (Native.java_lang_Math.nans.pick64 true (Native.java_lang_Math.nans.pick64 true (tv &&& (9223372036854775807 : UInt64)) z0) (0 : UInt64))), .double 13650858631089744401, (.double (FP.dsub tv p0))] y2511 X2504 hx D rfl
  have y2513 := own_dmulP y2512 X2504 hx D (own_ok_no (own_ok_mul own_okc_13650858631089744401 (own_ok_max (k := 1) (own_ok_max (k := 1) (own_ok_abs ok_tv) ok_z0 (by decide) (by decide)) own_okc_0 (by decide) (by decide)) (by decide)))
  have y2514 := rP 1 190 _ [(.int (cmpValue (FP.dcmp (FP.dsub tv p0) (FP.dmul (13650858631089744401 : UInt64) (Native.java_lang_Math.nans.pick64 true (Native.java_lang_Math.nans.pick64 true (tv &&& (9223372036854775807 : UInt64)) z0) (0 : UInt64)))) .g))] y2513 X2504 hx D rfl
  have y2515 := fun (τ : State) kt => y2514 τ (XS.ifYes X2504.here hx rfl (pc0 := 190) (pc' := 198) rfl (D 190 rfl) rfl ((if0 _ _).trans (flt hc).2.1) (by decide) (by decide) kt)
  have y2516 := rP 1 199 _ [.double 0] y2515 X2504 hx D rfl
  exact own_retDb X2504 hlk y2516 hx hret (D 199 rfl) (by decide) (by decide) e2504 ⟨rfl, (Fr.app (Fr.app (Fr.app N0 Nq2453) Nq2458) Nq2461), rfl⟩
def Q_rmRc1Z (Z : State) (cm : Addr) (du : Addr) (k_du : ClassId) (yy0 : UInt64) (h0 : Heap) (n0 : Nat) (v : Option Value) (h : Heap) (L : List Loc) : Prop := v = some (.double 0) ∧ Fr n0 L ∧ h = h0
theorem rmRc1Z (l : Launch) (Z : State) (a0 : Array Value) (hw : own_Hw a0 Z) (ws : List Jvm.Cond) (cm : Addr) (du : Addr) (k_du : ClassId) (yy0 : UInt64) (h0 : Heap) (n0 : Nat) (Z0 : n0 ≤ h0.size) (f0_ : Exa Z h0 cm sC) (f1_ : Fld Z h0 cm sC "dimension" "I" (.int 1)) (f2_ : Fld Z h0 cm sC "duals" "[D" (.ref du)) (f3_ : Arv Z h0 du k_du .double (2 : Int32) [.double yy0, .double 0] (.double 0)) : own_Met l Z own_mn34 prog_26_method_17_code 15 (some .double) ws ⟨1, 0, 0, 16⟩ #[.ref cm, .int 1] h0 (Q_rmRc1Z Z cm du k_du yy0 h0 n0) := by
  refine own_begS sC n0 [] #[vr cm, vi 1, un, un, un, un, un, un, un, un, un, un, un, un, un] oT38 (plainFor_of_name own_pn_sC) fun p e s m below meth c s₁ hx D hml hown hnm hret hlk hZ X0 e0 PS y0 N0 KK0 => ?_
  have y2519 := rP 2 2 _ [.int 1, .ref cm] y0 X0 hx D rfl
  obtain ⟨_, T2518, L2518, X2518, ⟨rfl, Nq2518, eq2518⟩, y2518⟩ := cP y2519 X0 hx hZ hown hml.symm (own_V19 hw) (rmBd1 l Z a0 hw [] cm h0 n0 (Nat.le_trans Z0 KK0.1) f0_ f1_) 0 f0_ e0 [.int 1] [] D
  have y2522 := rP 3 10 _ [.int 1, .ref cm] y2518 X2518 hx D rfl
  obtain ⟨_, T2521, L2521, X2521, ⟨rfl, Nq2521, eq2521⟩, y2521⟩ := cP y2522 X2518 hx hZ hown hml.symm (own_V22 hw) (rmSi1 l Z a0 hw [] cm h0 n0 (Nat.le_trans Z0 KK0.1) f0_ f1_) 0 f0_ eq2518 [.int 1] [] D
  have y2525 := rP 7 25 [vr cm, vi 1, vd 4607182418800017408, .second, un, un, un, un, un, un, un, un, un, un, un] [.int 1, .ref cm] y2521 X2521 hx D rfl
  obtain ⟨_, T2524, L2524, X2524, ⟨rfl, Nq2524, eq2524⟩, y2524⟩ := cP y2525 X2521 hx hZ hown hml.symm (own_V22 hw) (rmSi1 l Z a0 hw [] cm h0 n0 (Nat.le_trans Z0 KK0.1) f0_ f1_) 0 f0_ eq2521 [.int 1] [] D
  have y2526 := rP 1 29 _ [(.double (FP.i2d (1 : Int32)))] y2524 X2524 hx D rfl
  have y2527 := nD y2526 own_q1
  have y2528 := rP 1 30 _ [.ref cm, .double 4607182418800017408] y2527 X2524 hx D rfl
  obtain ⟨T2529, X2529, e2529, y2529⟩ := gP y2528 X2524 hx hZ hown (w43 hw) eq2524 f2_ D
  have y2532 := rP 2 35 _ [.int 1, .ref cm, .ref du, .double 4607182418800017408] y2529 X2529 hx D rfl
  obtain ⟨_, T2531, L2531, X2531, ⟨rfl, Nq2531, eq2531⟩, y2531⟩ := cP y2532 X2529 hx hZ hown hml.symm (own_V21 hw) (rmCo1 l Z a0 hw [] cm h0 n0 (Nat.le_trans Z0 KK0.1) f0_ f1_) 3 f0_ e2529 [.int 1] [.ref du, .double 4607182418800017408] D
  have y2533 := rP 2 40 _ [.int 1, .ref du, .double 4607182418800017408] y2531 X2531 hx D rfl
  have y2534 := dP y2533 X2531 hx hZ eq2531 f3_ D
  have y2535 := own_dmulP y2534 X2531 hx D (own_ok_no own_okc_0)
  have y2536 := nD y2535 own_q19
  have y2537 := rP 3 47 [vr cm, vi 1, vd 4607182418800017408, .second, vd 0, .second, un, un, un, un, un, un, un, un, un] [.double 0, .double 4607182418800017408] y2536 X2531 hx D rfl
  obtain ⟨T2538, X2538, e2538, y2538⟩ := own_absR (W := 2) y2537 X2531 hx hZ hown (w108 hw) (w109 hw) (w96 hw) (w110 hw) eq2531 (own_ok_no own_okc_0) rfl hml.symm rfl (Nat.le_of_eq rfl) (D 47 rfl) (by decide) (by decide) (by decide) (by decide)
  have y2539 := nD y2538 own_q14
  obtain ⟨T2540, X2540, e2540, y2540⟩ := own_maxR (W := 0) y2539 X2538 hx hZ hown (w111 hw) (w112 hw) (w96 hw) (w113 hw) e2538 (own_ok_no own_okc_4607182418800017408) (own_ok_no own_okc_0) rfl hml.symm rfl (Nat.le_of_eq rfl) (D 50 rfl) (by decide) (by decide) (by decide) (by decide)
  have y2541 := nD y2540 own_q15
  have y2542 := rP 4 178 [vr cm, vi 1, vd 4607182418800017408, .second, vd 0, .second, vd 4607182418800017408, .second, un, un, un, un, un, un, un] [.double 0, .double 4607182418800017408] y2541 X2540 hx D rfl
  have y2543 := own_dsubP y2542 X2540 hx D (own_ok_no own_okc_4607182418800017408)
  have y2544 := nD y2543 own_q20
  have y2545 := rP 2 183 [vr cm, vi 1, vd 4607182418800017408, .second, vd 0, .second, vd 4607182418800017408, .second, vd 4607182418800017408, .second, un, un, un, un, un] [.double 4607182418800017408] y2544 X2540 hx D rfl
  have y2546 := fun (τ : State) kt => y2545 τ (X2540.ldc2DoubleC hx hown (mvT hZ (w275 hw)) (g := (mkF m 183 #[vr cm, vi 1, vd 4607182418800017408, .second, vd 0, .second, vd 4607182418800017408, .second, vd 4607182418800017408, .second, un, un, un, un, un] [.double 4607182418800017408])) rfl (D 183 rfl) _ kt)
  have y2547 := rP 1 188 _ [.double 4607182418800017408, .double 13650858631089744401, .double 4607182418800017408] y2546 X2540 hx D rfl
  have y2548 := own_dmulP y2547 X2540 hx D (own_ok_no own_okc_13650858631089744401)
  have y2549 := nD y2548 own_q17
  have y2550 := rP 1 190 _ [(.int (cmpValue (FP.dcmp (4607182418800017408 : UInt64) (13650858631089744401 : UInt64)) .g))] y2549 X2540 hx D rfl
  have y2551 := nI y2550 own_q21
  have y2552 := rP 2 199 _ [.double 0] y2551 X2540 hx D rfl
  exact own_retDb X2540 hlk y2552 hx hret (D 199 rfl) (by decide) (by decide) e2540 ⟨rfl, (Fr.app (Fr.app (Fr.app (Fr.app N0 Nq2518) Nq2521) Nq2524) Nq2531), rfl⟩
def Q_rmRc2Z (Z : State) (cm : Addr) (du : Addr) (k_du : ClassId) (yy0 : UInt64) (h0 : Heap) (n0 : Nat) (v : Option Value) (h : Heap) (L : List Loc) : Prop := v = some (.double 0) ∧ Fr n0 L ∧ h = h0
theorem rmRc2Z (l : Launch) (Z : State) (a0 : Array Value) (hw : own_Hw a0 Z) (ws : List Jvm.Cond) (cm : Addr) (du : Addr) (k_du : ClassId) (yy0 : UInt64) (h0 : Heap) (n0 : Nat) (Z0 : n0 ≤ h0.size) (f0_ : Exa Z h0 cm sC) (f1_ : Fld Z h0 cm sC "dimension" "I" (.int 1)) (f2_ : Fld Z h0 cm sC "duals" "[D" (.ref du)) (f3_ : Arv Z h0 du k_du .double (2 : Int32) [.double yy0, .double 0] (.double 0)) : own_Met l Z own_mn34 prog_26_method_17_code 15 (some .double) ws ⟨1, 0, 0, 16⟩ #[.ref cm, .int 2] h0 (Q_rmRc2Z Z cm du k_du yy0 h0 n0) := by
  refine own_begS sC n0 [] #[vr cm, vi 2, un, un, un, un, un, un, un, un, un, un, un, un, un] oT38 (plainFor_of_name own_pn_sC) fun p e s m below meth c s₁ hx D hml hown hnm hret hlk hZ X0 e0 PS y0 N0 KK0 => ?_
  have y2555 := rP 2 2 _ [.int 2, .ref cm] y0 X0 hx D rfl
  obtain ⟨_, T2554, L2554, X2554, ⟨rfl, Nq2554, eq2554⟩, y2554⟩ := cP y2555 X0 hx hZ hown hml.symm (own_V19 hw) (rmBd2 l Z a0 hw [] cm h0 n0 (Nat.le_trans Z0 KK0.1) f0_ f1_) 0 f0_ e0 [.int 2] [] D
  have y2558 := rP 3 10 _ [.int 2, .ref cm] y2554 X2554 hx D rfl
  obtain ⟨_, T2557, L2557, X2557, ⟨rfl, Nq2557, eq2557⟩, y2557⟩ := cP y2558 X2554 hx hZ hown hml.symm (own_V22 hw) (rmSi2 l Z a0 hw [] cm h0 n0 (Nat.le_trans Z0 KK0.1) f0_ f1_) 0 f0_ eq2554 [.int 2] [] D
  have y2561 := rP 6 25 [vr cm, vi 2, vd 0, .second, un, un, un, un, un, un, un, un, un, un, un] [.int 2, .ref cm] y2557 X2557 hx D rfl
  obtain ⟨_, T2560, L2560, X2560, ⟨rfl, Nq2560, eq2560⟩, y2560⟩ := cP y2561 X2557 hx hZ hown hml.symm (own_V22 hw) (rmSi2 l Z a0 hw [] cm h0 n0 (Nat.le_trans Z0 KK0.1) f0_ f1_) 0 f0_ eq2557 [.int 2] [] D
  have y2562 := rP 1 29 _ [(.double (FP.i2d (-1 : Int32)))] y2560 X2560 hx D rfl
  have y2563 := nD y2562 own_q2
  have y2564 := rP 1 30 _ [.ref cm, .double 13830554455654793216] y2563 X2560 hx D rfl
  obtain ⟨T2565, X2565, e2565, y2565⟩ := gP y2564 X2560 hx hZ hown (w43 hw) eq2560 f2_ D
  have y2568 := rP 2 35 _ [.int 2, .ref cm, .ref du, .double 13830554455654793216] y2565 X2565 hx D rfl
  obtain ⟨_, T2567, L2567, X2567, ⟨rfl, Nq2567, eq2567⟩, y2567⟩ := cP y2568 X2565 hx hZ hown hml.symm (own_V21 hw) (rmCo2 l Z a0 hw [] cm h0 n0 (Nat.le_trans Z0 KK0.1) f0_ f1_) 3 f0_ e2565 [.int 2] [.ref du, .double 13830554455654793216] D
  have y2569 := rP 2 40 _ [.int 1, .ref du, .double 13830554455654793216] y2567 X2567 hx D rfl
  have y2570 := dP y2569 X2567 hx hZ eq2567 f3_ D
  have y2571 := own_dmulP y2570 X2567 hx D (own_ok_no own_okc_9223372036854775808)
  have y2572 := nD y2571 own_q22
  have y2573 := rP 3 47 [vr cm, vi 2, vd 0, .second, vd 9223372036854775808, .second, un, un, un, un, un, un, un, un, un] [.double 9223372036854775808, .double 4607182418800017408] y2572 X2567 hx D rfl
  obtain ⟨T2574, X2574, e2574, y2574⟩ := own_absR (W := 2) y2573 X2567 hx hZ hown (w108 hw) (w109 hw) (w96 hw) (w110 hw) eq2567 (own_ok_no own_okc_9223372036854775808) rfl hml.symm rfl (Nat.le_of_eq rfl) (D 47 rfl) (by decide) (by decide) (by decide) (by decide)
  have y2575 := nD y2574 own_q23
  obtain ⟨T2576, X2576, e2576, y2576⟩ := own_maxR (W := 0) y2575 X2574 hx hZ hown (w111 hw) (w112 hw) (w96 hw) (w113 hw) e2574 (own_ok_no own_okc_4607182418800017408) (own_ok_no own_okc_0) rfl hml.symm rfl (Nat.le_of_eq rfl) (D 50 rfl) (by decide) (by decide) (by decide) (by decide)
  have y2577 := nD y2576 own_q15
  have y2578 := rP 4 178 [vr cm, vi 2, vd 0, .second, vd 9223372036854775808, .second, vd 4607182418800017408, .second, un, un, un, un, un, un, un] [.double 9223372036854775808, .double 0] y2577 X2576 hx D rfl
  have y2579 := own_dsubP y2578 X2576 hx D (own_ok_no own_okc_0)
  have y2580 := nD y2579 own_q24
  have y2581 := rP 2 183 [vr cm, vi 2, vd 0, .second, vd 9223372036854775808, .second, vd 4607182418800017408, .second, vd 0, .second, un, un, un, un, un] [.double 0] y2580 X2576 hx D rfl
  have y2582 := fun (τ : State) kt => y2581 τ (X2576.ldc2DoubleC hx hown (mvT hZ (w275 hw)) (g := (mkF m 183 #[vr cm, vi 2, vd 0, .second, vd 9223372036854775808, .second, vd 4607182418800017408, .second, vd 0, .second, un, un, un, un, un] [.double 0])) rfl (D 183 rfl) _ kt)
  have y2583 := rP 1 188 _ [.double 4607182418800017408, .double 13650858631089744401, .double 0] y2582 X2576 hx D rfl
  have y2584 := own_dmulP y2583 X2576 hx D (own_ok_no own_okc_13650858631089744401)
  have y2585 := nD y2584 own_q17
  have y2586 := rP 1 190 _ [(.int (cmpValue (FP.dcmp (0 : UInt64) (13650858631089744401 : UInt64)) .g))] y2585 X2576 hx D rfl
  have y2587 := nI y2586 own_q25
  have y2588 := rP 2 199 _ [.double 0] y2587 X2576 hx D rfl
  exact own_retDb X2576 hlk y2588 hx hret (D 199 rfl) (by decide) (by decide) e2576 ⟨rfl, (Fr.app (Fr.app (Fr.app (Fr.app N0 Nq2554) Nq2557) Nq2560) Nq2567), rfl⟩
def Q_rmRc2P (Z : State) (cm : Addr) (du : Addr) (k_du : ClassId) (yy0 : UInt64) (h0 : Heap) (n0 : Nat) (v : Option Value) (h : Heap) (L : List Loc) : Prop := v = some (.double 0) ∧ Fr n0 L ∧ h = h0
theorem rmRc2P (l : Launch) (Z : State) (a0 : Array Value) (hw : own_Hw a0 Z) (ws : List Jvm.Cond) (cm : Addr) (du : Addr) (k_du : ClassId) (yy0 : UInt64) (h0 : Heap) (n0 : Nat) (Z0 : n0 ≤ h0.size) (f0_ : Exa Z h0 cm sC) (f1_ : Fld Z h0 cm sC "dimension" "I" (.int 1)) (f2_ : Fld Z h0 cm sC "duals" "[D" (.ref du)) (f3_ : Arv Z h0 du k_du .double (2 : Int32) [.double yy0, .double 4607182418800017408] (.double 0)) : own_Met l Z own_mn34 prog_26_method_17_code 15 (some .double) ws ⟨1, 0, 0, 16⟩ #[.ref cm, .int 2] h0 (Q_rmRc2P Z cm du k_du yy0 h0 n0) := by
  refine own_begS sC n0 [] #[vr cm, vi 2, un, un, un, un, un, un, un, un, un, un, un, un, un] oT38 (plainFor_of_name own_pn_sC) fun p e s m below meth c s₁ hx D hml hown hnm hret hlk hZ X0 e0 PS y0 N0 KK0 => ?_
  have y2591 := rP 2 2 _ [.int 2, .ref cm] y0 X0 hx D rfl
  obtain ⟨_, T2590, L2590, X2590, ⟨rfl, Nq2590, eq2590⟩, y2590⟩ := cP y2591 X0 hx hZ hown hml.symm (own_V19 hw) (rmBd2 l Z a0 hw [] cm h0 n0 (Nat.le_trans Z0 KK0.1) f0_ f1_) 0 f0_ e0 [.int 2] [] D
  have y2594 := rP 3 10 _ [.int 2, .ref cm] y2590 X2590 hx D rfl
  obtain ⟨_, T2593, L2593, X2593, ⟨rfl, Nq2593, eq2593⟩, y2593⟩ := cP y2594 X2590 hx hZ hown hml.symm (own_V22 hw) (rmSi2 l Z a0 hw [] cm h0 n0 (Nat.le_trans Z0 KK0.1) f0_ f1_) 0 f0_ eq2590 [.int 2] [] D
  have y2597 := rP 6 25 [vr cm, vi 2, vd 0, .second, un, un, un, un, un, un, un, un, un, un, un] [.int 2, .ref cm] y2593 X2593 hx D rfl
  obtain ⟨_, T2596, L2596, X2596, ⟨rfl, Nq2596, eq2596⟩, y2596⟩ := cP y2597 X2593 hx hZ hown hml.symm (own_V22 hw) (rmSi2 l Z a0 hw [] cm h0 n0 (Nat.le_trans Z0 KK0.1) f0_ f1_) 0 f0_ eq2593 [.int 2] [] D
  have y2598 := rP 1 29 _ [(.double (FP.i2d (-1 : Int32)))] y2596 X2596 hx D rfl
  have y2599 := nD y2598 own_q2
  have y2600 := rP 1 30 _ [.ref cm, .double 13830554455654793216] y2599 X2596 hx D rfl
  obtain ⟨T2601, X2601, e2601, y2601⟩ := gP y2600 X2596 hx hZ hown (w43 hw) eq2596 f2_ D
  have y2604 := rP 2 35 _ [.int 2, .ref cm, .ref du, .double 13830554455654793216] y2601 X2601 hx D rfl
  obtain ⟨_, T2603, L2603, X2603, ⟨rfl, Nq2603, eq2603⟩, y2603⟩ := cP y2604 X2601 hx hZ hown hml.symm (own_V21 hw) (rmCo2 l Z a0 hw [] cm h0 n0 (Nat.le_trans Z0 KK0.1) f0_ f1_) 3 f0_ e2601 [.int 2] [.ref du, .double 13830554455654793216] D
  have y2605 := rP 2 40 _ [.int 1, .ref du, .double 13830554455654793216] y2603 X2603 hx D rfl
  have y2606 := dP y2605 X2603 hx hZ eq2603 f3_ D
  have y2607 := own_dmulP y2606 X2603 hx D (own_ok_no own_okc_13830554455654793216)
  have y2608 := nD y2607 own_q26
  have y2609 := rP 3 47 [vr cm, vi 2, vd 0, .second, vd 13830554455654793216, .second, un, un, un, un, un, un, un, un, un] [.double 13830554455654793216, .double 4607182418800017408] y2608 X2603 hx D rfl
  obtain ⟨T2610, X2610, e2610, y2610⟩ := own_absR (W := 2) y2609 X2603 hx hZ hown (w108 hw) (w109 hw) (w96 hw) (w110 hw) eq2603 (own_ok_no own_okc_13830554455654793216) rfl hml.symm rfl (Nat.le_of_eq rfl) (D 47 rfl) (by decide) (by decide) (by decide) (by decide)
  have y2611 := nD y2610 own_q27
  obtain ⟨T2612, X2612, e2612, y2612⟩ := own_maxR (W := 0) y2611 X2610 hx hZ hown (w111 hw) (w112 hw) (w96 hw) (w113 hw) e2610 (own_ok_no own_okc_4607182418800017408) (own_ok_no own_okc_4607182418800017408) rfl hml.symm rfl (Nat.le_of_eq rfl) (D 50 rfl) (by decide) (by decide) (by decide) (by decide)
  have y2613 := nD y2612 own_q28
  have y2614 := rP 4 178 [vr cm, vi 2, vd 0, .second, vd 13830554455654793216, .second, vd 4607182418800017408, .second, un, un, un, un, un, un, un] [.double 13830554455654793216, .double 0] y2613 X2612 hx D rfl
  have y2615 := own_dsubP y2614 X2612 hx D (own_ok_no own_okc_4607182418800017408)
  have y2616 := nD y2615 own_q29
  have y2617 := rP 2 183 [vr cm, vi 2, vd 0, .second, vd 13830554455654793216, .second, vd 4607182418800017408, .second, vd 4607182418800017408, .second, un, un, un, un, un] [.double 4607182418800017408] y2616 X2612 hx D rfl
  have y2618 := fun (τ : State) kt => y2617 τ (X2612.ldc2DoubleC hx hown (mvT hZ (w275 hw)) (g := (mkF m 183 #[vr cm, vi 2, vd 0, .second, vd 13830554455654793216, .second, vd 4607182418800017408, .second, vd 4607182418800017408, .second, un, un, un, un, un] [.double 4607182418800017408])) rfl (D 183 rfl) _ kt)
  have y2619 := rP 1 188 _ [.double 4607182418800017408, .double 13650858631089744401, .double 4607182418800017408] y2618 X2612 hx D rfl
  have y2620 := own_dmulP y2619 X2612 hx D (own_ok_no own_okc_13650858631089744401)
  have y2621 := nD y2620 own_q17
  have y2622 := rP 1 190 _ [(.int (cmpValue (FP.dcmp (4607182418800017408 : UInt64) (13650858631089744401 : UInt64)) .g))] y2621 X2612 hx D rfl
  have y2623 := nI y2622 own_q21
  have y2624 := rP 2 199 _ [.double 0] y2623 X2612 hx D rfl
  exact own_retDb X2612 hlk y2624 hx hret (D 199 rfl) (by decide) (by decide) e2612 ⟨rfl, (Fr.app (Fr.app (Fr.app (Fr.app N0 Nq2590) Nq2593) Nq2596) Nq2603), rfl⟩
def Q_rmEnM (Z : State) (cm : Addr) (kr sd du al ed x1 x2 t0 : Addr) (k_kr k_sd k_du k_ed k_t0 : ClassId) (yy0 tv p0 z0 : UInt64) (h0 : Heap) (n0 : Nat) (v : Option Value) (h : Heap) (L : List Loc) : Prop := v = some (.int (-1)) ∧ Fr n0 L ∧ h = h0
theorem rmEnM (l : Launch) (Z : State) (a0 : Array Value) (hw : own_Hw a0 Z) (ws : List Jvm.Cond) (cm : Addr) (kr sd du al ed x1 x2 t0 : Addr) (k_kr k_sd k_du k_ed k_t0 : ClassId) (yy0 tv p0 z0 : UInt64) (h0 : Heap) (n0 : Nat) (Z0 : n0 ≤ h0.size) (f0_ : Exa Z h0 cm sC) (f1_ : Fld Z h0 cm sC "dimension" "I" (.int 1)) (f2_ : Fld Z h0 cm sC "dense" "Ljava/util/List;" (.ref al)) (f3_ : Fld Z h0 cm sC "side" "[I" (.ref sd)) (f4_ : Fld Z h0 cm sC "kernelRows" "[I" (.ref kr)) (f5_ : Fld Z h0 cm sC "duals" "[D" (.ref du)) (f6_ : Arv Z h0 kr k_kr .int 1 [.int 0] (.int 0)) (f7_ : Arv Z h0 sd k_sd .int 1 [.int (-1)] (.int 0)) (f8_ : Arv Z h0 du k_du .double (2 : Int32) [.double yy0, .double 0] (.double 0)) (f9_ : own_BA Z h0 al (.ref ed) (.int 2) (.int 2)) (f10_ : Arv Z h0 ed k_ed (.object "java/lang/Object") (10 : Int32) [.ref x1, .ref x2, .null, .null, .null, .null, .null, .null, .null, .null] .null) (f11_ : Ovr Z k_ed "java/lang/Object") (f12_ : own_BD Z h0 x1 (.ref t0) (.double tv) (.double p0) (.double z0) (.int 0)) (f13_ : Exa Z h0 x2 sD) (f14_ : Fld Z h0 x2 sD "basic" "Z" (.int 1)) (f15_ : Arv Z h0 t0 k_t0 .double (2 : Int32) [.double 0, .double 4607182418800017408] (.double 0)) (ne_kr_sd : kr ≠ sd) (ne_du_t0 : du ≠ t0) (ne_x1_x2 : x1 ≠ x2) (hp : p0 = 0 ∨ p0 = (4607182418800017408 : UInt64)) (hc : own_nb tv p0 z0) (ok_yy0 : own_ok 2 yy0) (ok_tv : own_ok 1 tv) (ok_p0 : own_ok 1 p0) (ok_z0 : own_ok 1 z0) : own_Met l Z own_mn35 prog_26_method_6_code 9 (some .int) ws ⟨4, 0, 0, 67⟩ #[.ref cm, .int 0] h0 (Q_rmEnM Z cm kr sd du al ed x1 x2 t0 k_kr k_sd k_du k_ed k_t0 yy0 tv p0 z0 h0 n0) := by
  refine own_begS sC n0 [] #[vr cm, vi 0, un, un, un, un, un, un, un] oT34 (plainFor_of_name own_pn_sC) fun p e s m below meth c s₁ hx D hml hown hnm hret hlk hZ X0 e0 PS y0 N0 KK0 => ?_
  have y2625 := rP 4 4 [vr cm, vi 0, vi (-1), vd 0, .second, un, un, un, un] [] y0 X0 hx D rfl
  have y2626 := rP 2 6 _ [.ref cm, .int 2] y2625 X0 hx D rfl
  obtain ⟨T2627, X2627, e2627, y2627⟩ := gP y2626 X0 hx hZ hown (w45 hw) e0 f1_ D
  have y2628 := rP 2 11 _ [.ref cm, .int 2] y2627 X2627 hx D rfl
  obtain ⟨T2629, X2629, e2629, y2629⟩ := gP y2628 X2627 hx hZ hown (w35 hw) e2627 f2_ D
  obtain ⟨_, T2631, L2631, X2631, ⟨rfl, Nq2631, eq2631⟩, y2631⟩ := cF y2629 X2629 hx hZ hown hml.symm (own_V16 hw) (rmSz l Z a0 hw [] al ed h0 n0 (Nat.le_trans Z0 KK0.1) f9_) 1 f9_.e e2629 [] [.int 2] D
  have y2634 := rP 4 25 [vr cm, vi 0, vi (-1), vd 0, .second, vi 4, vi 0, un, un] [] y2631 X2631 hx D rfl
  have y2635 := rP 7 43 _ [.int 0, .ref cm] y2634 X2631 hx D rfl
  obtain ⟨_, T2633, L2633, X2633, ⟨rfl, Nq2633, eq2633⟩, y2633⟩ := cP y2635 X2631 hx hZ hown hml.symm (own_V23 hw) (rmIb00 l Z a0 hw [] cm al ed x1 k_ed x2 h0 n0 (Nat.le_trans Z0 KK0.1) f0_ f1_ f2_ f9_ f10_ f11_ f12_.e f12_.f4) 0 f0_ eq2631 [.int 0] [] D
  have y2638 := rP 3 52 _ [.int 0, .ref cm] y2633 X2633 hx D rfl
  obtain ⟨_, T2637, L2637, X2637, ⟨rfl, Nq2637, eq2637⟩, y2637⟩ := cP y2638 X2633 hx hZ hown hml.symm (own_V24 hw) (rmRc0Z l Z a0 hw [] cm kr du al ed x1 t0 k_kr k_du k_ed k_t0 yy0 (0 : UInt64) tv p0 z0 x2 h0 n0 (Nat.le_trans Z0 KK0.1) f0_ f1_ f2_ f4_ f5_ f6_ f8_ f9_ f10_ f11_ f12_ f15_ ne_du_t0 hp hc ok_yy0 ok_tv ok_p0 ok_z0) 0 f0_ eq2633 [.int 0] [] D
  have y2641 := rP 4 61 [vr cm, vi 0, vi (-1), vd 0, .second, vi 4, vi 0, vd 0, .second] [(.int (cmpValue (FP.dcmp (0 : UInt64) (0 : UInt64)) .g))] y2637 X2637 hx D rfl
  have y2642 := nI y2641 own_q30
  have y2643 := rP 10 43 [vr cm, vi 0, vi (-1), vd 0, .second, vi 4, vi 1, vd 0, .second] [.int 1, .ref cm] y2642 X2637 hx D rfl
  obtain ⟨_, T2640, L2640, X2640, ⟨rfl, Nq2640, eq2640⟩, y2640⟩ := cP y2643 X2637 hx hZ hown hml.symm (own_V23 hw) (rmIb1M l Z a0 hw [] cm sd k_sd h0 n0 (Nat.le_trans Z0 KK0.1) f0_ f1_ f3_ f7_) 0 f0_ eq2637 [.int 1] [] D
  have y2646 := rP 3 52 _ [.int 1, .ref cm] y2640 X2640 hx D rfl
  obtain ⟨_, T2645, L2645, X2645, ⟨rfl, Nq2645, eq2645⟩, y2645⟩ := cP y2646 X2640 hx hZ hown hml.symm (own_V24 hw) (rmRc1Z l Z a0 hw [] cm du k_du yy0 h0 n0 (Nat.le_trans Z0 KK0.1) f0_ f1_ f5_ f8_) 0 f0_ eq2640 [.int 1] [] D
  have y2649 := rP 4 61 _ [(.int (cmpValue (FP.dcmp (0 : UInt64) (0 : UInt64)) .g))] y2645 X2645 hx D rfl
  have y2650 := nI y2649 own_q30
  have y2651 := rP 10 43 [vr cm, vi 0, vi (-1), vd 0, .second, vi 4, vi 2, vd 0, .second] [.int 2, .ref cm] y2650 X2645 hx D rfl
  obtain ⟨_, T2648, L2648, X2648, ⟨rfl, Nq2648, eq2648⟩, y2648⟩ := cP y2651 X2645 hx hZ hown hml.symm (own_V23 hw) (rmIb2M l Z a0 hw [] cm sd k_sd h0 n0 (Nat.le_trans Z0 KK0.1) f0_ f1_ f3_ f7_) 0 f0_ eq2645 [.int 2] [] D
  have y2654 := rP 10 43 [vr cm, vi 0, vi (-1), vd 0, .second, vi 4, vi 3, vd 0, .second] [.int 3, .ref cm] y2648 X2648 hx D rfl
  obtain ⟨_, T2653, L2653, X2653, ⟨rfl, Nq2653, eq2653⟩, y2653⟩ := cP y2654 X2648 hx hZ hown hml.symm (own_V23 hw) (rmIb3 l Z a0 hw [] cm al ed x2 k_ed x1 h0 n0 (Nat.le_trans Z0 KK0.1) f0_ f1_ f2_ f9_ f10_ f11_ f13_ f14_) 0 f0_ eq2648 [.int 3] [] D
  have y2655 := rP 7 77 [vr cm, vi 0, vi (-1), vd 0, .second, vi 4, vi 4, vd 0, .second] [.int (-1)] y2653 X2653 hx D rfl
  exact own_retI X2653 hlk y2655 hx hret (D 77 rfl) (by decide) (by decide) eq2653 ⟨rfl, (Fr.app (Fr.app (Fr.app (Fr.app (Fr.app (Fr.app (Fr.app N0 Nq2631) Nq2633) Nq2637) Nq2640) Nq2645) Nq2648) Nq2653), rfl⟩
def Q_rmEnB (Z : State) (cm : Addr) (kr sd du al ed x1 x2 t0 : Addr) (k_kr k_sd k_du k_ed k_t0 : ClassId) (yy0 tv p0 z0 : UInt64) (h0 : Heap) (n0 : Nat) (v : Option Value) (h : Heap) (L : List Loc) : Prop := v = some (.int (-1)) ∧ Fr n0 L ∧ h = h0
theorem rmEnB (l : Launch) (Z : State) (a0 : Array Value) (hw : own_Hw a0 Z) (ws : List Jvm.Cond) (cm : Addr) (kr sd du al ed x1 x2 t0 : Addr) (k_kr k_sd k_du k_ed k_t0 : ClassId) (yy0 tv p0 z0 : UInt64) (h0 : Heap) (n0 : Nat) (Z0 : n0 ≤ h0.size) (f0_ : Exa Z h0 cm sC) (f1_ : Fld Z h0 cm sC "dimension" "I" (.int 1)) (f2_ : Fld Z h0 cm sC "dense" "Ljava/util/List;" (.ref al)) (f3_ : Fld Z h0 cm sC "side" "[I" (.ref sd)) (f4_ : Fld Z h0 cm sC "kernelRows" "[I" (.ref kr)) (f5_ : Fld Z h0 cm sC "duals" "[D" (.ref du)) (f6_ : Arv Z h0 kr k_kr .int 1 [.int 0] (.int 0)) (f7_ : Arv Z h0 sd k_sd .int 1 [.int 1] (.int 0)) (f8_ : Arv Z h0 du k_du .double (2 : Int32) [.double yy0, .double 4607182418800017408] (.double 0)) (f9_ : own_BA Z h0 al (.ref ed) (.int 2) (.int 2)) (f10_ : Arv Z h0 ed k_ed (.object "java/lang/Object") (10 : Int32) [.ref x1, .ref x2, .null, .null, .null, .null, .null, .null, .null, .null] .null) (f11_ : Ovr Z k_ed "java/lang/Object") (f12_ : own_BD Z h0 x1 (.ref t0) (.double tv) (.double p0) (.double z0) (.int 0)) (f13_ : Exa Z h0 x2 sD) (f14_ : Fld Z h0 x2 sD "basic" "Z" (.int 1)) (f15_ : Arv Z h0 t0 k_t0 .double (2 : Int32) [.double 0, .double 4607182418800017408] (.double 0)) (ne_kr_sd : kr ≠ sd) (ne_du_t0 : du ≠ t0) (ne_x1_x2 : x1 ≠ x2) (hp : p0 = 0 ∨ p0 = (4607182418800017408 : UInt64)) (hc : own_nb tv p0 z0) (ok_yy0 : own_ok 2 yy0) (ok_tv : own_ok 1 tv) (ok_p0 : own_ok 1 p0) (ok_z0 : own_ok 1 z0) : own_Met l Z own_mn35 prog_26_method_6_code 9 (some .int) ws ⟨4, 0, 0, 67⟩ #[.ref cm, .int 0] h0 (Q_rmEnB Z cm kr sd du al ed x1 x2 t0 k_kr k_sd k_du k_ed k_t0 yy0 tv p0 z0 h0 n0) := by
  refine own_begS sC n0 [] #[vr cm, vi 0, un, un, un, un, un, un, un] oT34 (plainFor_of_name own_pn_sC) fun p e s m below meth c s₁ hx D hml hown hnm hret hlk hZ X0 e0 PS y0 N0 KK0 => ?_
  have y2656 := rP 4 4 [vr cm, vi 0, vi (-1), vd 0, .second, un, un, un, un] [] y0 X0 hx D rfl
  have y2657 := rP 2 6 _ [.ref cm, .int 2] y2656 X0 hx D rfl
  obtain ⟨T2658, X2658, e2658, y2658⟩ := gP y2657 X0 hx hZ hown (w45 hw) e0 f1_ D
  have y2659 := rP 2 11 _ [.ref cm, .int 2] y2658 X2658 hx D rfl
  obtain ⟨T2660, X2660, e2660, y2660⟩ := gP y2659 X2658 hx hZ hown (w35 hw) e2658 f2_ D
  obtain ⟨_, T2662, L2662, X2662, ⟨rfl, Nq2662, eq2662⟩, y2662⟩ := cF y2660 X2660 hx hZ hown hml.symm (own_V16 hw) (rmSz l Z a0 hw [] al ed h0 n0 (Nat.le_trans Z0 KK0.1) f9_) 1 f9_.e e2660 [] [.int 2] D
  have y2665 := rP 4 25 [vr cm, vi 0, vi (-1), vd 0, .second, vi 4, vi 0, un, un] [] y2662 X2662 hx D rfl
  have y2666 := rP 7 43 _ [.int 0, .ref cm] y2665 X2662 hx D rfl
  obtain ⟨_, T2664, L2664, X2664, ⟨rfl, Nq2664, eq2664⟩, y2664⟩ := cP y2666 X2662 hx hZ hown hml.symm (own_V23 hw) (rmIb00 l Z a0 hw [] cm al ed x1 k_ed x2 h0 n0 (Nat.le_trans Z0 KK0.1) f0_ f1_ f2_ f9_ f10_ f11_ f12_.e f12_.f4) 0 f0_ eq2662 [.int 0] [] D
  have y2669 := rP 3 52 _ [.int 0, .ref cm] y2664 X2664 hx D rfl
  obtain ⟨_, T2668, L2668, X2668, ⟨rfl, Nq2668, eq2668⟩, y2668⟩ := cP y2669 X2664 hx hZ hown hml.symm (own_V24 hw) (rmRc0Z l Z a0 hw [] cm kr du al ed x1 t0 k_kr k_du k_ed k_t0 yy0 (4607182418800017408 : UInt64) tv p0 z0 x2 h0 n0 (Nat.le_trans Z0 KK0.1) f0_ f1_ f2_ f4_ f5_ f6_ f8_ f9_ f10_ f11_ f12_ f15_ ne_du_t0 hp hc ok_yy0 ok_tv ok_p0 ok_z0) 0 f0_ eq2664 [.int 0] [] D
  have y2672 := rP 4 61 [vr cm, vi 0, vi (-1), vd 0, .second, vi 4, vi 0, vd 0, .second] [(.int (cmpValue (FP.dcmp (0 : UInt64) (0 : UInt64)) .g))] y2668 X2668 hx D rfl
  have y2673 := nI y2672 own_q30
  have y2674 := rP 10 43 [vr cm, vi 0, vi (-1), vd 0, .second, vi 4, vi 1, vd 0, .second] [.int 1, .ref cm] y2673 X2668 hx D rfl
  obtain ⟨_, T2671, L2671, X2671, ⟨rfl, Nq2671, eq2671⟩, y2671⟩ := cP y2674 X2668 hx hZ hown hml.symm (own_V23 hw) (rmIb1P l Z a0 hw [] cm sd k_sd h0 n0 (Nat.le_trans Z0 KK0.1) f0_ f1_ f3_ f7_) 0 f0_ eq2668 [.int 1] [] D
  have y2677 := rP 10 43 [vr cm, vi 0, vi (-1), vd 0, .second, vi 4, vi 2, vd 0, .second] [.int 2, .ref cm] y2671 X2671 hx D rfl
  obtain ⟨_, T2676, L2676, X2676, ⟨rfl, Nq2676, eq2676⟩, y2676⟩ := cP y2677 X2671 hx hZ hown hml.symm (own_V23 hw) (rmIb2P l Z a0 hw [] cm sd k_sd h0 n0 (Nat.le_trans Z0 KK0.1) f0_ f1_ f3_ f7_) 0 f0_ eq2671 [.int 2] [] D
  have y2680 := rP 3 52 _ [.int 2, .ref cm] y2676 X2676 hx D rfl
  obtain ⟨_, T2679, L2679, X2679, ⟨rfl, Nq2679, eq2679⟩, y2679⟩ := cP y2680 X2676 hx hZ hown hml.symm (own_V24 hw) (rmRc2P l Z a0 hw [] cm du k_du yy0 h0 n0 (Nat.le_trans Z0 KK0.1) f0_ f1_ f5_ f8_) 0 f0_ eq2676 [.int 2] [] D
  have y2683 := rP 4 61 _ [(.int (cmpValue (FP.dcmp (0 : UInt64) (0 : UInt64)) .g))] y2679 X2679 hx D rfl
  have y2684 := nI y2683 own_q30
  have y2685 := rP 10 43 [vr cm, vi 0, vi (-1), vd 0, .second, vi 4, vi 3, vd 0, .second] [.int 3, .ref cm] y2684 X2679 hx D rfl
  obtain ⟨_, T2682, L2682, X2682, ⟨rfl, Nq2682, eq2682⟩, y2682⟩ := cP y2685 X2679 hx hZ hown hml.symm (own_V23 hw) (rmIb3 l Z a0 hw [] cm al ed x2 k_ed x1 h0 n0 (Nat.le_trans Z0 KK0.1) f0_ f1_ f2_ f9_ f10_ f11_ f13_ f14_) 0 f0_ eq2679 [.int 3] [] D
  have y2686 := rP 7 77 [vr cm, vi 0, vi (-1), vd 0, .second, vi 4, vi 4, vd 0, .second] [.int (-1)] y2682 X2682 hx D rfl
  exact own_retI X2682 hlk y2686 hx hret (D 77 rfl) (by decide) (by decide) eq2682 ⟨rfl, (Fr.app (Fr.app (Fr.app (Fr.app (Fr.app (Fr.app (Fr.app N0 Nq2662) Nq2664) Nq2668) Nq2671) Nq2676) Nq2679) Nq2682), rfl⟩
def Q_rmEnC (Z : State) (cm : Addr) (kr sd du al ed x1 x2 t0 : Addr) (k_kr k_sd k_du k_ed k_t0 : ClassId) (yy0 : UInt64) (h0 : Heap) (n0 : Nat) (v : Option Value) (h : Heap) (L : List Loc) : Prop := v = some (.int 0) ∧ Fr n0 L ∧ h = h0
theorem rmEnC (l : Launch) (Z : State) (a0 : Array Value) (hw : own_Hw a0 Z) (ws : List Jvm.Cond) (cm : Addr) (kr sd du al ed x1 x2 t0 : Addr) (k_kr k_sd k_du k_ed k_t0 : ClassId) (yy0 : UInt64) (h0 : Heap) (n0 : Nat) (Z0 : n0 ≤ h0.size) (f0_ : Exa Z h0 cm sC) (f1_ : Fld Z h0 cm sC "dimension" "I" (.int 1)) (f2_ : Fld Z h0 cm sC "dense" "Ljava/util/List;" (.ref al)) (f3_ : Fld Z h0 cm sC "side" "[I" (.ref sd)) (f4_ : Fld Z h0 cm sC "kernelRows" "[I" (.ref kr)) (f5_ : Fld Z h0 cm sC "duals" "[D" (.ref du)) (f6_ : Arv Z h0 kr k_kr .int 1 [.int 0] (.int 0)) (f7_ : Arv Z h0 sd k_sd .int 1 [.int 1] (.int 0)) (f8_ : Arv Z h0 du k_du .double (2 : Int32) [.double yy0, .double 4607182418800017408] (.double 0)) (f9_ : own_BA Z h0 al (.ref ed) (.int 2) (.int 2)) (f10_ : Arv Z h0 ed k_ed (.object "java/lang/Object") (10 : Int32) [.ref x1, .ref x2, .null, .null, .null, .null, .null, .null, .null, .null] .null) (f11_ : Ovr Z k_ed "java/lang/Object") (f12_ : own_BD Z h0 x1 (.ref t0) (.double 0) (.double 4607182418800017408) (.double 4607182418800017408) (.int 0)) (f13_ : Exa Z h0 x2 sD) (f14_ : Fld Z h0 x2 sD "basic" "Z" (.int 1)) (f15_ : Arv Z h0 t0 k_t0 .double (2 : Int32) [.double 0, .double 4607182418800017408] (.double 0)) (ne_kr_sd : kr ≠ sd) (ne_du_t0 : du ≠ t0) (ne_x1_x2 : x1 ≠ x2) (ok_yy0 : own_ok 2 yy0) : own_Met l Z own_mn35 prog_26_method_6_code 9 (some .int) ws ⟨4, 0, 0, 67⟩ #[.ref cm, .int 0] h0 (Q_rmEnC Z cm kr sd du al ed x1 x2 t0 k_kr k_sd k_du k_ed k_t0 yy0 h0 n0) := by
  refine own_begS sC n0 [] #[vr cm, vi 0, un, un, un, un, un, un, un] oT34 (plainFor_of_name own_pn_sC) fun p e s m below meth c s₁ hx D hml hown hnm hret hlk hZ X0 e0 PS y0 N0 KK0 => ?_
  have y2687 := rP 4 4 [vr cm, vi 0, vi (-1), vd 0, .second, un, un, un, un] [] y0 X0 hx D rfl
  have y2688 := rP 2 6 _ [.ref cm, .int 2] y2687 X0 hx D rfl
  obtain ⟨T2689, X2689, e2689, y2689⟩ := gP y2688 X0 hx hZ hown (w45 hw) e0 f1_ D
  have y2690 := rP 2 11 _ [.ref cm, .int 2] y2689 X2689 hx D rfl
  obtain ⟨T2691, X2691, e2691, y2691⟩ := gP y2690 X2689 hx hZ hown (w35 hw) e2689 f2_ D
  obtain ⟨_, T2693, L2693, X2693, ⟨rfl, Nq2693, eq2693⟩, y2693⟩ := cF y2691 X2691 hx hZ hown hml.symm (own_V16 hw) (rmSz l Z a0 hw [] al ed h0 n0 (Nat.le_trans Z0 KK0.1) f9_) 1 f9_.e e2691 [] [.int 2] D
  have y2696 := rP 4 25 [vr cm, vi 0, vi (-1), vd 0, .second, vi 4, vi 0, un, un] [] y2693 X2693 hx D rfl
  have y2697 := rP 7 43 _ [.int 0, .ref cm] y2696 X2693 hx D rfl
  obtain ⟨_, T2695, L2695, X2695, ⟨rfl, Nq2695, eq2695⟩, y2695⟩ := cP y2697 X2693 hx hZ hown hml.symm (own_V23 hw) (rmIb00 l Z a0 hw [] cm al ed x1 k_ed x2 h0 n0 (Nat.le_trans Z0 KK0.1) f0_ f1_ f2_ f9_ f10_ f11_ f12_.e f12_.f4) 0 f0_ eq2693 [.int 0] [] D
  have y2700 := rP 3 52 _ [.int 0, .ref cm] y2695 X2695 hx D rfl
  obtain ⟨_, T2699, L2699, X2699, ⟨rfl, Nq2699, eq2699⟩, y2699⟩ := cP y2700 X2695 hx hZ hown hml.symm (own_V24 hw) (rmRc0N l Z a0 hw [] cm kr du al ed x1 t0 k_kr k_du k_ed k_t0 yy0 (4607182418800017408 : UInt64) x2 h0 n0 (Nat.le_trans Z0 KK0.1) f0_ f1_ f2_ f4_ f5_ f6_ f8_ f9_ f10_ f11_ f12_ f15_ ne_du_t0 ok_yy0) 0 f0_ eq2695 [.int 0] [] D
  have y2703 := rP 4 61 [vr cm, vi 0, vi (-1), vd 0, .second, vi 4, vi 0, vd 13830554455654793216, .second] [(.int (cmpValue (FP.dcmp (13830554455654793216 : UInt64) (0 : UInt64)) .g))] y2699 X2699 hx D rfl
  have y2704 := nI y2703 own_q31
  have y2705 := rP 5 70 [vr cm, vi 0, vi 0, vd 13830554455654793216, .second, vi 4, vi 0, vd 13830554455654793216, .second] [] y2704 X2699 hx D rfl
  have y2706 := rP 9 43 [vr cm, vi 0, vi 0, vd 13830554455654793216, .second, vi 4, vi 1, vd 13830554455654793216, .second] [.int 1, .ref cm] y2705 X2699 hx D rfl
  obtain ⟨_, T2702, L2702, X2702, ⟨rfl, Nq2702, eq2702⟩, y2702⟩ := cP y2706 X2699 hx hZ hown hml.symm (own_V23 hw) (rmIb1P l Z a0 hw [] cm sd k_sd h0 n0 (Nat.le_trans Z0 KK0.1) f0_ f1_ f3_ f7_) 0 f0_ eq2699 [.int 1] [] D
  have y2709 := rP 10 43 [vr cm, vi 0, vi 0, vd 13830554455654793216, .second, vi 4, vi 2, vd 13830554455654793216, .second] [.int 2, .ref cm] y2702 X2702 hx D rfl
  obtain ⟨_, T2708, L2708, X2708, ⟨rfl, Nq2708, eq2708⟩, y2708⟩ := cP y2709 X2702 hx hZ hown hml.symm (own_V23 hw) (rmIb2P l Z a0 hw [] cm sd k_sd h0 n0 (Nat.le_trans Z0 KK0.1) f0_ f1_ f3_ f7_) 0 f0_ eq2702 [.int 2] [] D
  have y2712 := rP 3 52 _ [.int 2, .ref cm] y2708 X2708 hx D rfl
  obtain ⟨_, T2711, L2711, X2711, ⟨rfl, Nq2711, eq2711⟩, y2711⟩ := cP y2712 X2708 hx hZ hown hml.symm (own_V24 hw) (rmRc2P l Z a0 hw [] cm du k_du yy0 h0 n0 (Nat.le_trans Z0 KK0.1) f0_ f1_ f5_ f8_) 0 f0_ eq2708 [.int 2] [] D
  have y2715 := rP 4 61 [vr cm, vi 0, vi 0, vd 13830554455654793216, .second, vi 4, vi 2, vd 0, .second] [(.int (cmpValue (FP.dcmp (0 : UInt64) (13830554455654793216 : UInt64)) .g))] y2711 X2711 hx D rfl
  have y2716 := nI y2715 own_q32
  have y2717 := rP 10 43 [vr cm, vi 0, vi 0, vd 13830554455654793216, .second, vi 4, vi 3, vd 0, .second] [.int 3, .ref cm] y2716 X2711 hx D rfl
  obtain ⟨_, T2714, L2714, X2714, ⟨rfl, Nq2714, eq2714⟩, y2714⟩ := cP y2717 X2711 hx hZ hown hml.symm (own_V23 hw) (rmIb3 l Z a0 hw [] cm al ed x2 k_ed x1 h0 n0 (Nat.le_trans Z0 KK0.1) f0_ f1_ f2_ f9_ f10_ f11_ f13_ f14_) 0 f0_ eq2711 [.int 3] [] D
  have y2718 := rP 7 77 [vr cm, vi 0, vi 0, vd 13830554455654793216, .second, vi 4, vi 4, vd 0, .second] [.int 0] y2714 X2714 hx D rfl
  exact own_retI X2714 hlk y2718 hx hret (D 77 rfl) (by decide) (by decide) eq2714 ⟨rfl, (Fr.app (Fr.app (Fr.app (Fr.app (Fr.app (Fr.app (Fr.app N0 Nq2693) Nq2695) Nq2699) Nq2702) Nq2708) Nq2711) Nq2714), rfl⟩
def Q_rmEn2 (Z : State) (cm : Addr) (sd du al ed x1 x2 : Addr) (k_sd k_du k_ed : ClassId) (yy0 : UInt64) (h0 : Heap) (n0 : Nat) (v : Option Value) (h : Heap) (L : List Loc) : Prop := v = some (.int (-1)) ∧ Fr n0 L ∧ h = h0
theorem rmEn2 (l : Launch) (Z : State) (a0 : Array Value) (hw : own_Hw a0 Z) (ws : List Jvm.Cond) (cm : Addr) (sd du al ed x1 x2 : Addr) (k_sd k_du k_ed : ClassId) (yy0 : UInt64) (h0 : Heap) (n0 : Nat) (Z0 : n0 ≤ h0.size) (f0_ : Exa Z h0 cm sC) (f1_ : Fld Z h0 cm sC "dimension" "I" (.int 1)) (f2_ : Fld Z h0 cm sC "dense" "Ljava/util/List;" (.ref al)) (f3_ : Fld Z h0 cm sC "side" "[I" (.ref sd)) (f4_ : Fld Z h0 cm sC "duals" "[D" (.ref du)) (f5_ : Arv Z h0 sd k_sd .int 1 [.int 0] (.int 0)) (f6_ : Arv Z h0 du k_du .double (2 : Int32) [.double yy0, .double 0] (.double 0)) (f7_ : own_BA Z h0 al (.ref ed) (.int 2) (.int 2)) (f8_ : Arv Z h0 ed k_ed (.object "java/lang/Object") (10 : Int32) [.ref x1, .ref x2, .null, .null, .null, .null, .null, .null, .null, .null] .null) (f9_ : Ovr Z k_ed "java/lang/Object") (f10_ : Exa Z h0 x1 sD) (f11_ : Fld Z h0 x1 sD "basic" "Z" (.int 1)) (f12_ : Exa Z h0 x2 sD) (f13_ : Fld Z h0 x2 sD "basic" "Z" (.int 1)) (ne_x1_x2 : x1 ≠ x2) : own_Met l Z own_mn35 prog_26_method_6_code 9 (some .int) ws ⟨4, 0, 0, 54⟩ #[.ref cm, .int 0] h0 (Q_rmEn2 Z cm sd du al ed x1 x2 k_sd k_du k_ed yy0 h0 n0) := by
  refine own_begS sC n0 [] #[vr cm, vi 0, un, un, un, un, un, un, un] oT34 (plainFor_of_name own_pn_sC) fun p e s m below meth c s₁ hx D hml hown hnm hret hlk hZ X0 e0 PS y0 N0 KK0 => ?_
  have y2719 := rP 4 4 [vr cm, vi 0, vi (-1), vd 0, .second, un, un, un, un] [] y0 X0 hx D rfl
  have y2720 := rP 2 6 _ [.ref cm, .int 2] y2719 X0 hx D rfl
  obtain ⟨T2721, X2721, e2721, y2721⟩ := gP y2720 X0 hx hZ hown (w45 hw) e0 f1_ D
  have y2722 := rP 2 11 _ [.ref cm, .int 2] y2721 X2721 hx D rfl
  obtain ⟨T2723, X2723, e2723, y2723⟩ := gP y2722 X2721 hx hZ hown (w35 hw) e2721 f2_ D
  obtain ⟨_, T2725, L2725, X2725, ⟨rfl, Nq2725, eq2725⟩, y2725⟩ := cF y2723 X2723 hx hZ hown hml.symm (own_V16 hw) (rmSz l Z a0 hw [] al ed h0 n0 (Nat.le_trans Z0 KK0.1) f7_) 1 f7_.e e2723 [] [.int 2] D
  have y2728 := rP 4 25 [vr cm, vi 0, vi (-1), vd 0, .second, vi 4, vi 0, un, un] [] y2725 X2725 hx D rfl
  have y2729 := rP 7 43 _ [.int 0, .ref cm] y2728 X2725 hx D rfl
  obtain ⟨_, T2727, L2727, X2727, ⟨rfl, Nq2727, eq2727⟩, y2727⟩ := cP y2729 X2725 hx hZ hown hml.symm (own_V23 hw) (rmIb01 l Z a0 hw [] cm al ed x1 k_ed x2 h0 n0 (Nat.le_trans Z0 KK0.1) f0_ f1_ f2_ f7_ f8_ f9_ f10_ f11_) 0 f0_ eq2725 [.int 0] [] D
  have y2732 := rP 10 43 [vr cm, vi 0, vi (-1), vd 0, .second, vi 4, vi 1, un, un] [.int 1, .ref cm] y2727 X2727 hx D rfl
  obtain ⟨_, T2731, L2731, X2731, ⟨rfl, Nq2731, eq2731⟩, y2731⟩ := cP y2732 X2727 hx hZ hown hml.symm (own_V23 hw) (rmIb10 l Z a0 hw [] cm sd k_sd h0 n0 (Nat.le_trans Z0 KK0.1) f0_ f1_ f3_ f5_) 0 f0_ eq2727 [.int 1] [] D
  have y2735 := rP 3 52 _ [.int 1, .ref cm] y2731 X2731 hx D rfl
  obtain ⟨_, T2734, L2734, X2734, ⟨rfl, Nq2734, eq2734⟩, y2734⟩ := cP y2735 X2731 hx hZ hown hml.symm (own_V24 hw) (rmRc1Z l Z a0 hw [] cm du k_du yy0 h0 n0 (Nat.le_trans Z0 KK0.1) f0_ f1_ f4_ f6_) 0 f0_ eq2731 [.int 1] [] D
  have y2738 := rP 4 61 [vr cm, vi 0, vi (-1), vd 0, .second, vi 4, vi 1, vd 0, .second] [(.int (cmpValue (FP.dcmp (0 : UInt64) (0 : UInt64)) .g))] y2734 X2734 hx D rfl
  have y2739 := nI y2738 own_q30
  have y2740 := rP 10 43 [vr cm, vi 0, vi (-1), vd 0, .second, vi 4, vi 2, vd 0, .second] [.int 2, .ref cm] y2739 X2734 hx D rfl
  obtain ⟨_, T2737, L2737, X2737, ⟨rfl, Nq2737, eq2737⟩, y2737⟩ := cP y2740 X2734 hx hZ hown hml.symm (own_V23 hw) (rmIb20 l Z a0 hw [] cm sd k_sd h0 n0 (Nat.le_trans Z0 KK0.1) f0_ f1_ f3_ f5_) 0 f0_ eq2734 [.int 2] [] D
  have y2743 := rP 3 52 _ [.int 2, .ref cm] y2737 X2737 hx D rfl
  obtain ⟨_, T2742, L2742, X2742, ⟨rfl, Nq2742, eq2742⟩, y2742⟩ := cP y2743 X2737 hx hZ hown hml.symm (own_V24 hw) (rmRc2Z l Z a0 hw [] cm du k_du yy0 h0 n0 (Nat.le_trans Z0 KK0.1) f0_ f1_ f4_ f6_) 0 f0_ eq2737 [.int 2] [] D
  have y2746 := rP 4 61 _ [(.int (cmpValue (FP.dcmp (0 : UInt64) (0 : UInt64)) .g))] y2742 X2742 hx D rfl
  have y2747 := nI y2746 own_q30
  have y2748 := rP 10 43 [vr cm, vi 0, vi (-1), vd 0, .second, vi 4, vi 3, vd 0, .second] [.int 3, .ref cm] y2747 X2742 hx D rfl
  obtain ⟨_, T2745, L2745, X2745, ⟨rfl, Nq2745, eq2745⟩, y2745⟩ := cP y2748 X2742 hx hZ hown hml.symm (own_V23 hw) (rmIb3 l Z a0 hw [] cm al ed x2 k_ed x1 h0 n0 (Nat.le_trans Z0 KK0.1) f0_ f1_ f2_ f7_ f8_ f9_ f12_ f13_) 0 f0_ eq2742 [.int 3] [] D
  have y2749 := rP 7 77 [vr cm, vi 0, vi (-1), vd 0, .second, vi 4, vi 4, vd 0, .second] [.int (-1)] y2745 X2745 hx D rfl
  exact own_retI X2745 hlk y2749 hx hret (D 77 rfl) (by decide) (by decide) eq2745 ⟨rfl, (Fr.app (Fr.app (Fr.app (Fr.app (Fr.app (Fr.app (Fr.app N0 Nq2725) Nq2727) Nq2731) Nq2734) Nq2737) Nq2742) Nq2745), rfl⟩
def Q_rmDuM (Z : State) (cm : Addr) (sd kr kc iv i0 al ed x2 : Addr) (k_sd k_kr k_kc k_iv k_i0 k_ed : ClassId) (co pn1 : UInt64) (x1 : Addr) (h0 : Heap) (n0 : Nat) (v : Option Value) (h : Heap) (L : List Loc) : Prop := ∃ (yy : Addr) (k_yy : ClassId), v = some (.ref yy) ∧ Fr n0 L ∧ Keep h0 h [] ∧ n0 ≤ yy ∧ h0.size ≤ yy ∧ Arv Z h yy k_yy .double (2 : Int32) [(.double (FP.dadd (0 : UInt64) (FP.dmul (FP.dsub co pn1) (4607182418800017408 : UInt64)))), .double 0] (.double 0)
theorem rmDuM (l : Launch) (Z : State) (a0 : Array Value) (hw : own_Hw a0 Z) (ws : List Jvm.Cond) (cm : Addr) (sd kr kc iv i0 al ed x2 : Addr) (k_sd k_kr k_kc k_iv k_i0 k_ed : ClassId) (co pn1 : UInt64) (x1 : Addr) (h0 : Heap) (n0 : Nat) (Z0 : n0 ≤ h0.size) (f0_ : Exa Z h0 cm sC) (f1_ : Fld Z h0 cm sC "dimension" "I" (.int 1)) (f2_ : Fld Z h0 cm sC "rows" "I" (.int 2)) (f3_ : Fld Z h0 cm sC "dense" "Ljava/util/List;" (.ref al)) (f4_ : Fld Z h0 cm sC "side" "[I" (.ref sd)) (f5_ : Fld Z h0 cm sC "kernelRows" "[I" (.ref kr)) (f6_ : Fld Z h0 cm sC "kernelColumns" "[I" (.ref kc)) (f7_ : Fld Z h0 cm sC "inverse" "[[D" (.ref iv)) (f8_ : Arv Z h0 sd k_sd .int 1 [.int (-1)] (.int 0)) (f9_ : Arv Z h0 kr k_kr .int 1 [.int 0] (.int 0)) (f10_ : Arv Z h0 kc k_kc .int 1 [.int 1] (.int 0)) (f11_ : Arv Z h0 iv k_iv (.array .double) (1 : Int32) [.ref i0] .null) (f12_ : OvrA Z k_iv .double "[D") (f13_ : Exa Z h0 iv "[[D") (f14_ : Arv Z h0 i0 k_i0 .double (1 : Int32) [.double 4607182418800017408] (.double 0)) (f15_ : Exa Z h0 i0 "[D") (f16_ : own_BA Z h0 al (.ref ed) (.int 2) (.int 2)) (f17_ : Arv Z h0 ed k_ed (.object "java/lang/Object") (10 : Int32) [.ref x1, .ref x2, .null, .null, .null, .null, .null, .null, .null, .null] .null) (f18_ : Ovr Z k_ed "java/lang/Object") (f19_ : Exa Z h0 x2 sD) (f20_ : Fld Z h0 x2 sD "cost" "D" (.double co)) (f21_ : Fld Z h0 x2 sD "atOne" "D" (.double pn1)) (ne_sd_kr : sd ≠ kr) (ne_sd_kc : sd ≠ kc) (ne_kr_kc : kr ≠ kc) (ok_co : own_ok 1 co) (ok_pn1 : own_ok 1 pn1) : own_Met l Z own_mn36 prog_26_method_18_code 7 (some (.array .double)) ws ⟨3, 1, 2, 41⟩ #[.ref cm] h0 (Q_rmDuM Z cm sd kr kc iv i0 al ed x2 k_sd k_kr k_kc k_iv k_i0 k_ed co pn1 x1 h0 n0) := by
  refine own_begS sC n0 [] #[vr cm, un, un, un, un, un, un] oT33 (plainFor_of_name own_pn_sC) fun p e s m below meth c s₁ hx D hml hown hnm hret hlk hZ X0 e0 PS y0 N0 KK0 => ?_
  have y2750 := rP 1 1 _ [.ref cm] y0 X0 hx D rfl
  obtain ⟨T2751, X2751, e2751, y2751⟩ := gP y2750 X0 hx hZ hown (w47 hw) e0 f2_ D
  obtain ⟨T2752, h2752, k2752, X2752, e2752, E2752, A2752, st2752⟩ := newP (aty := .double) X2751 hx hZ (w42 hw) e2751 (g := (mkF m 4 #[vr cm, un, un, un, un, un, un] [.int 2])) rfl (D 4 rfl) rfl (by decide) (cap := 2) (by decide) (by decide) (by decide) (by decide)
  obtain ⟨yy, g2752⟩ : ∃ z, z = h0.size := ⟨_, rfl⟩
  rw [← g2752] at A2752 st2752
  have g_yy : n0 ≤ yy := Nat.le_trans (Nat.le_trans Z0 KK0.1) (Nat.le_of_eq g2752.symm)
  have sz_yy : h0.size ≤ yy := Nat.le_trans KK0.1 (Nat.le_of_eq g2752.symm)
  have V_yy : Arv Z h2752 yy k2752 .double (2 : Int32) [.double 0, .double 0] (.double 0) := (Arv.new A2752 (by decide)).pad (pad_rep [] (.double 0) 2)
  have y2753 := fun (τ : State) kt => y2751 τ (st2752 τ kt)
  have f2754 := f1_.ext E2752
  have y2755 := rP 3 9 [vr cm, vr yy, vi 0, un, un, un, un] [] y2753 X2752 hx D rfl
  have y2756 := rP 2 11 _ [.ref cm, .int 0] y2755 X2752 hx D rfl
  obtain ⟨T2757, X2757, e2757, y2757⟩ := gP y2756 X2752 hx hZ hown (w45 hw) e2752 f2754 D
  have f2758 := f4_.ext E2752
  have y2759 := rP 6 22 _ [.ref cm, .int 1, .ref yy] y2757 X2757 hx D rfl
  obtain ⟨T2760, X2760, e2760, y2760⟩ := gP y2759 X2757 hx hZ hown (w51 hw) e2757 f2758 D
  have f2761 := f8_.ext E2752
  have y2762 := rP 1 26 _ [.int 0, .ref sd, .int 1, .ref yy] y2760 X2760 hx D rfl
  have y2763 := iP y2762 X2760 hx hZ e2760 f2761 D
  have y2764 := rP 3 36 _ [.double 0, .int 1, .ref yy] y2763 X2760 hx D rfl
  obtain ⟨T2765, h2765, X2765, e2765, W2765, V2765, y2765⟩ := own_dstK y2764 X2760 hx hZ e2760 V_yy rfl rfl (D 36 rfl) ⟨by decide, by decide⟩ 1 rfl (Nat.le_of_ble_eq_true rfl)
  have ne2766 := own_ltn f0_.lt sz_yy
  have f2767 := f2754.other W2765 (Or.inl ne2766)
  have y2768 := rP 4 11 [vr cm, vr yy, vi 1, un, un, un, un] [.ref cm, .int 1] y2765 X2765 hx D rfl
  obtain ⟨T2769, X2769, e2769, y2769⟩ := gP y2768 X2765 hx hZ hown (w45 hw) e2765 f2767 D
  have K2770 := (KK0.ext E2752).wr W2765 (Or.inr sz_yy)
  have ni2772 : cm ∉ [] := nin0
  have f2771 := f6_.keep K2770 ni2772
  have y2773 := rP 5 47 [vr cm, vr yy, vi 0, un, un, un, un] [.ref cm, .int 0] y2769 X2769 hx D rfl
  obtain ⟨T2774, X2774, e2774, y2774⟩ := gP y2773 X2769 hx hZ hown (w40 hw) e2769 f2771 D
  have ni2776 : kc ∉ [] := nin0
  have f2775 := f10_.keep K2770 ni2776
  have f2777 := f3_.keep K2770 ni2772
  have y2778 := lP y2774 X2774 hx hZ e2774 f2775 D
  have y2779 := rP 2 55 _ [.ref cm] y2778 X2774 hx D rfl
  obtain ⟨T2780, X2780, e2780, y2780⟩ := gP y2779 X2774 hx hZ hown (w35 hw) e2774 f2777 D
  have y2781 := rP 1 59 _ [.ref cm, .ref al] y2780 X2780 hx D rfl
  obtain ⟨T2782, X2782, e2782, y2782⟩ := gP y2781 X2780 hx hZ hown (w40 hw) e2780 f2771 D
  have ni2784 : al ∉ [] := nin0
  have b2783 := f16_.keep K2770 ni2784
  have ni2786 : ed ∉ [] := nin0
  have f2785 := f17_.keep K2770 ni2786
  have y2789 := rP 1 63 _ [.int 0, .ref kc, .ref al] y2782 X2782 hx D rfl
  have y2790 := iP y2789 X2782 hx hZ e2782 f2775 D
  obtain ⟨_, T2788, L2788, X2788, ⟨rfl, Nq2788, eq2788⟩, y2788⟩ := cF y2790 X2782 hx hZ hown hml.symm (own_V10 hw) (rmGet1 l Z a0 hw [] al ed k_ed x1 x2 h2765 n0 (Nat.le_trans Z0 K2770.1) b2783 f2785 f18_) 0 b2783.e e2782 [.int 1] [] D
  have f2792 := f19_.keep K2770
  obtain ⟨T2791, X2791, e2791, st2791⟩ := castY X2788 hx hZ hown (w55 hw) eq2788 (Ins.self f2792) (g := (mkF m 69 #[vr cm, vr yy, vi 0, un, un, un, un] [.ref x2])) rfl rfl (D 69 rfl)
  have y2793 := fun (τ : State) kt => y2788 τ (st2791 τ kt)
  have ni2795 : x2 ∉ [] := nin0
  have f2794 := f20_.keep K2770 ni2795
  have y2796 := rP 2 74 [vr cm, vr yy, vi 0, vr x2, un, un, un] [.ref x2] y2793 X2791 hx D rfl
  obtain ⟨T2797, X2797, e2797, y2797⟩ := own_getS y2796 X2791 hx hZ hown (w254 hw) e2791 f2794 rfl rfl (D 74 rfl)
  have f2798 := f21_.keep K2770 ni2795
  have y2799 := rP 1 78 _ [.ref x2, .double co] y2797 X2797 hx D rfl
  obtain ⟨T2800, X2800, e2800, y2800⟩ := own_getS y2799 X2797 hx hZ hown (w120 hw) e2797 f2798 rfl rfl (D 78 rfl)
  have f2801 := f5_.keep K2770 ni2772
  have y2802 := own_dsubP y2800 X2800 hx D (own_ok_no (own_ok_sub ok_co ok_pn1 (by decide)))
  have y2803 := rP 3 87 [vr cm, vr yy, vi 0, vr x2, .val (.double (FP.dsub co pn1)), .second, vi 0] [] y2802 X2800 hx D rfl
  have y2804 := rP 2 90 _ [.ref cm, .int 0] y2803 X2800 hx D rfl
  obtain ⟨T2805, X2805, e2805, y2805⟩ := gP y2804 X2800 hx hZ hown (w38 hw) e2800 f2801 D
  have ni2807 : kr ∉ [] := nin0
  have f2806 := f9_.keep K2770 ni2807
  have y2808 := lP y2805 X2805 hx hZ e2805 f2806 D
  have y2809 := rP 3 99 _ [.ref cm, .ref yy] y2808 X2805 hx D rfl
  obtain ⟨T2810, X2810, e2810, y2810⟩ := gP y2809 X2805 hx hZ hown (w38 hw) e2805 f2801 D
  have f2811 := f7_.keep K2770 ni2772
  have y2812 := rP 1 104 _ [.int 0, .ref kr, .ref yy] y2810 X2810 hx D rfl
  have y2813 := iP y2812 X2810 hx hZ e2810 f2806 D
  have y2814 := fun (τ : State) kt => y2813 τ (XT.dup2 X2810.here hx rfl (D 105 rfl) rfl rfl rfl kt)
  have y2815 := dP y2814 X2810 hx hZ e2810 V2765 D
  have y2816 := rP 2 110 _ [.ref cm, (.double (FP.dsub co pn1)), .double 0, .int 0, .ref yy] y2815 X2810 hx D rfl
  obtain ⟨T2817, X2817, e2817, y2817⟩ := gP y2816 X2810 hx hZ hown (w106 hw) e2810 f2811 D
  have ni2819 : iv ∉ [] := nin0
  have f2818 := f11_.keep K2770 ni2819
  have ni2821 : i0 ∉ [] := nin0
  have f2820 := f14_.keep K2770 ni2821
  have y2822 := rP 1 114 _ [.int 0, .ref iv, (.double (FP.dsub co pn1)), .double 0, .int 0, .ref yy] y2817 X2817 hx D rfl
  have y2823 := aP y2822 X2817 hx hZ e2817 f2818 D
  have y2824 := rP 1 117 _ [.int 0, .ref i0, (.double (FP.dsub co pn1)), .double 0, .int 0, .ref yy] y2823 X2817 hx D rfl
  have y2825 := dP y2824 X2817 hx hZ e2817 f2820 D
  have y2826 := own_dmulP y2825 X2817 hx D (own_ok_no (own_ok_mul (own_ok_sub ok_co ok_pn1 (by decide)) own_okc_4607182418800017408 (by decide)))
  have y2827 := own_daddP y2826 X2817 hx D (own_ok_no (own_ok_add own_okc_0 (own_ok_mul (own_ok_sub ok_co ok_pn1 (by decide)) own_okc_4607182418800017408 (by decide)) (by decide)))
  obtain ⟨T2828, h2828, X2828, e2828, W2828, V2828, y2828⟩ := own_dstK y2827 X2817 hx hZ e2817 V2765 rfl rfl (D 120 rfl) ⟨by decide, by decide⟩ 0 rfl (Nat.le_of_ble_eq_true rfl)
  have f2829 := f2801.other W2828 (Or.inl ne2766)
  have y2830 := rP 4 90 [vr cm, vr yy, vi 0, vr x2, .val (.double (FP.dsub co pn1)), .second, vi 1] [.ref cm, .int 1] y2828 X2828 hx D rfl
  obtain ⟨T2831, X2831, e2831, y2831⟩ := gP y2830 X2828 hx hZ hown (w38 hw) e2828 f2829 D
  have ne2832 := own_ltn f9_.lt sz_yy
  have f2833 := f2806.other W2828 ne2832
  have f2834 := f2771.other W2828 (Or.inl ne2766)
  have y2835 := lP y2831 X2831 hx hZ e2831 f2833 D
  have y2836 := rP 5 47 [vr cm, vr yy, vi 1, vr x2, .val (.double (FP.dsub co pn1)), .second, vi 1] [.ref cm, .int 1] y2835 X2831 hx D rfl
  obtain ⟨T2837, X2837, e2837, y2837⟩ := gP y2836 X2831 hx hZ hown (w40 hw) e2831 f2834 D
  have ne2838 := own_ltn f10_.lt sz_yy
  have f2839 := f2775.other W2828 ne2838
  have K2840 := K2770.wr W2828 (Or.inr sz_yy)
  have y2841 := lP y2837 X2837 hx hZ e2837 f2839 D
  have y2842 := rP 2 134 _ [.ref yy] y2841 X2837 hx D rfl
  exact own_retA X2837 hlk y2842 hx hret rfl rfl (D 134 rfl) (by decide) (by decide) e2837 ⟨yy, k2752, rfl, (Fr.snoc X2828 (Fr.app (Fr.snoc X2765 N0 g_yy) Nq2788) g_yy), K2840, g_yy, sz_yy, V2828⟩
def Q_rmDuP (Z : State) (cm : Addr) (sd kr kc iv i0 al ed x2 : Addr) (k_sd k_kr k_kc k_iv k_i0 k_ed : ClassId) (co pn1 : UInt64) (x1 : Addr) (h0 : Heap) (n0 : Nat) (v : Option Value) (h : Heap) (L : List Loc) : Prop := ∃ (yy : Addr) (k_yy : ClassId), v = some (.ref yy) ∧ Fr n0 L ∧ Keep h0 h [] ∧ n0 ≤ yy ∧ h0.size ≤ yy ∧ Arv Z h yy k_yy .double (2 : Int32) [(.double (FP.dadd (0 : UInt64) (FP.dmul (FP.dsub co pn1) (4607182418800017408 : UInt64)))), .double 4607182418800017408] (.double 0)
theorem rmDuP (l : Launch) (Z : State) (a0 : Array Value) (hw : own_Hw a0 Z) (ws : List Jvm.Cond) (cm : Addr) (sd kr kc iv i0 al ed x2 : Addr) (k_sd k_kr k_kc k_iv k_i0 k_ed : ClassId) (co pn1 : UInt64) (x1 : Addr) (h0 : Heap) (n0 : Nat) (Z0 : n0 ≤ h0.size) (f0_ : Exa Z h0 cm sC) (f1_ : Fld Z h0 cm sC "dimension" "I" (.int 1)) (f2_ : Fld Z h0 cm sC "rows" "I" (.int 2)) (f3_ : Fld Z h0 cm sC "dense" "Ljava/util/List;" (.ref al)) (f4_ : Fld Z h0 cm sC "side" "[I" (.ref sd)) (f5_ : Fld Z h0 cm sC "kernelRows" "[I" (.ref kr)) (f6_ : Fld Z h0 cm sC "kernelColumns" "[I" (.ref kc)) (f7_ : Fld Z h0 cm sC "inverse" "[[D" (.ref iv)) (f8_ : Arv Z h0 sd k_sd .int 1 [.int 1] (.int 0)) (f9_ : Arv Z h0 kr k_kr .int 1 [.int 0] (.int 0)) (f10_ : Arv Z h0 kc k_kc .int 1 [.int 1] (.int 0)) (f11_ : Arv Z h0 iv k_iv (.array .double) (1 : Int32) [.ref i0] .null) (f12_ : OvrA Z k_iv .double "[D") (f13_ : Exa Z h0 iv "[[D") (f14_ : Arv Z h0 i0 k_i0 .double (1 : Int32) [.double 4607182418800017408] (.double 0)) (f15_ : Exa Z h0 i0 "[D") (f16_ : own_BA Z h0 al (.ref ed) (.int 2) (.int 2)) (f17_ : Arv Z h0 ed k_ed (.object "java/lang/Object") (10 : Int32) [.ref x1, .ref x2, .null, .null, .null, .null, .null, .null, .null, .null] .null) (f18_ : Ovr Z k_ed "java/lang/Object") (f19_ : Exa Z h0 x2 sD) (f20_ : Fld Z h0 x2 sD "cost" "D" (.double co)) (f21_ : Fld Z h0 x2 sD "atOne" "D" (.double pn1)) (ne_sd_kr : sd ≠ kr) (ne_sd_kc : sd ≠ kc) (ne_kr_kc : kr ≠ kc) (ok_co : own_ok 1 co) (ok_pn1 : own_ok 1 pn1) : own_Met l Z own_mn36 prog_26_method_18_code 7 (some (.array .double)) ws ⟨3, 1, 2, 41⟩ #[.ref cm] h0 (Q_rmDuP Z cm sd kr kc iv i0 al ed x2 k_sd k_kr k_kc k_iv k_i0 k_ed co pn1 x1 h0 n0) := by
  refine own_begS sC n0 [] #[vr cm, un, un, un, un, un, un] oT33 (plainFor_of_name own_pn_sC) fun p e s m below meth c s₁ hx D hml hown hnm hret hlk hZ X0 e0 PS y0 N0 KK0 => ?_
  have y2843 := rP 1 1 _ [.ref cm] y0 X0 hx D rfl
  obtain ⟨T2844, X2844, e2844, y2844⟩ := gP y2843 X0 hx hZ hown (w47 hw) e0 f2_ D
  obtain ⟨T2845, h2845, k2845, X2845, e2845, E2845, A2845, st2845⟩ := newP (aty := .double) X2844 hx hZ (w42 hw) e2844 (g := (mkF m 4 #[vr cm, un, un, un, un, un, un] [.int 2])) rfl (D 4 rfl) rfl (by decide) (cap := 2) (by decide) (by decide) (by decide) (by decide)
  obtain ⟨yy, g2845⟩ : ∃ z, z = h0.size := ⟨_, rfl⟩
  rw [← g2845] at A2845 st2845
  have g_yy : n0 ≤ yy := Nat.le_trans (Nat.le_trans Z0 KK0.1) (Nat.le_of_eq g2845.symm)
  have sz_yy : h0.size ≤ yy := Nat.le_trans KK0.1 (Nat.le_of_eq g2845.symm)
  have V_yy : Arv Z h2845 yy k2845 .double (2 : Int32) [.double 0, .double 0] (.double 0) := (Arv.new A2845 (by decide)).pad (pad_rep [] (.double 0) 2)
  have y2846 := fun (τ : State) kt => y2844 τ (st2845 τ kt)
  have f2847 := f1_.ext E2845
  have y2848 := rP 3 9 [vr cm, vr yy, vi 0, un, un, un, un] [] y2846 X2845 hx D rfl
  have y2849 := rP 2 11 _ [.ref cm, .int 0] y2848 X2845 hx D rfl
  obtain ⟨T2850, X2850, e2850, y2850⟩ := gP y2849 X2845 hx hZ hown (w45 hw) e2845 f2847 D
  have f2851 := f4_.ext E2845
  have y2852 := rP 6 22 _ [.ref cm, .int 1, .ref yy] y2850 X2850 hx D rfl
  obtain ⟨T2853, X2853, e2853, y2853⟩ := gP y2852 X2850 hx hZ hown (w51 hw) e2850 f2851 D
  have f2854 := f8_.ext E2845
  have y2855 := rP 1 26 _ [.int 0, .ref sd, .int 1, .ref yy] y2853 X2853 hx D rfl
  have y2856 := iP y2855 X2853 hx hZ e2853 f2854 D
  have y2857 := rP 4 36 _ [.double 4607182418800017408, .int 1, .ref yy] y2856 X2853 hx D rfl
  obtain ⟨T2858, h2858, X2858, e2858, W2858, V2858, y2858⟩ := own_dstK y2857 X2853 hx hZ e2853 V_yy rfl rfl (D 36 rfl) ⟨by decide, by decide⟩ 1 rfl (Nat.le_of_ble_eq_true rfl)
  have ne2859 := own_ltn f0_.lt sz_yy
  have f2860 := f2847.other W2858 (Or.inl ne2859)
  have y2861 := rP 4 11 [vr cm, vr yy, vi 1, un, un, un, un] [.ref cm, .int 1] y2858 X2858 hx D rfl
  obtain ⟨T2862, X2862, e2862, y2862⟩ := gP y2861 X2858 hx hZ hown (w45 hw) e2858 f2860 D
  have K2863 := (KK0.ext E2845).wr W2858 (Or.inr sz_yy)
  have ni2865 : cm ∉ [] := nin0
  have f2864 := f6_.keep K2863 ni2865
  have y2866 := rP 5 47 [vr cm, vr yy, vi 0, un, un, un, un] [.ref cm, .int 0] y2862 X2862 hx D rfl
  obtain ⟨T2867, X2867, e2867, y2867⟩ := gP y2866 X2862 hx hZ hown (w40 hw) e2862 f2864 D
  have ni2869 : kc ∉ [] := nin0
  have f2868 := f10_.keep K2863 ni2869
  have f2870 := f3_.keep K2863 ni2865
  have y2871 := lP y2867 X2867 hx hZ e2867 f2868 D
  have y2872 := rP 2 55 _ [.ref cm] y2871 X2867 hx D rfl
  obtain ⟨T2873, X2873, e2873, y2873⟩ := gP y2872 X2867 hx hZ hown (w35 hw) e2867 f2870 D
  have y2874 := rP 1 59 _ [.ref cm, .ref al] y2873 X2873 hx D rfl
  obtain ⟨T2875, X2875, e2875, y2875⟩ := gP y2874 X2873 hx hZ hown (w40 hw) e2873 f2864 D
  have ni2877 : al ∉ [] := nin0
  have b2876 := f16_.keep K2863 ni2877
  have ni2879 : ed ∉ [] := nin0
  have f2878 := f17_.keep K2863 ni2879
  have y2882 := rP 1 63 _ [.int 0, .ref kc, .ref al] y2875 X2875 hx D rfl
  have y2883 := iP y2882 X2875 hx hZ e2875 f2868 D
  obtain ⟨_, T2881, L2881, X2881, ⟨rfl, Nq2881, eq2881⟩, y2881⟩ := cF y2883 X2875 hx hZ hown hml.symm (own_V10 hw) (rmGet1 l Z a0 hw [] al ed k_ed x1 x2 h2858 n0 (Nat.le_trans Z0 K2863.1) b2876 f2878 f18_) 0 b2876.e e2875 [.int 1] [] D
  have f2885 := f19_.keep K2863
  obtain ⟨T2884, X2884, e2884, st2884⟩ := castY X2881 hx hZ hown (w55 hw) eq2881 (Ins.self f2885) (g := (mkF m 69 #[vr cm, vr yy, vi 0, un, un, un, un] [.ref x2])) rfl rfl (D 69 rfl)
  have y2886 := fun (τ : State) kt => y2881 τ (st2884 τ kt)
  have ni2888 : x2 ∉ [] := nin0
  have f2887 := f20_.keep K2863 ni2888
  have y2889 := rP 2 74 [vr cm, vr yy, vi 0, vr x2, un, un, un] [.ref x2] y2886 X2884 hx D rfl
  obtain ⟨T2890, X2890, e2890, y2890⟩ := own_getS y2889 X2884 hx hZ hown (w254 hw) e2884 f2887 rfl rfl (D 74 rfl)
  have f2891 := f21_.keep K2863 ni2888
  have y2892 := rP 1 78 _ [.ref x2, .double co] y2890 X2890 hx D rfl
  obtain ⟨T2893, X2893, e2893, y2893⟩ := own_getS y2892 X2890 hx hZ hown (w120 hw) e2890 f2891 rfl rfl (D 78 rfl)
  have f2894 := f5_.keep K2863 ni2865
  have y2895 := own_dsubP y2893 X2893 hx D (own_ok_no (own_ok_sub ok_co ok_pn1 (by decide)))
  have y2896 := rP 3 87 [vr cm, vr yy, vi 0, vr x2, .val (.double (FP.dsub co pn1)), .second, vi 0] [] y2895 X2893 hx D rfl
  have y2897 := rP 2 90 _ [.ref cm, .int 0] y2896 X2893 hx D rfl
  obtain ⟨T2898, X2898, e2898, y2898⟩ := gP y2897 X2893 hx hZ hown (w38 hw) e2893 f2894 D
  have ni2900 : kr ∉ [] := nin0
  have f2899 := f9_.keep K2863 ni2900
  have y2901 := lP y2898 X2898 hx hZ e2898 f2899 D
  have y2902 := rP 3 99 _ [.ref cm, .ref yy] y2901 X2898 hx D rfl
  obtain ⟨T2903, X2903, e2903, y2903⟩ := gP y2902 X2898 hx hZ hown (w38 hw) e2898 f2894 D
  have f2904 := f7_.keep K2863 ni2865
  have y2905 := rP 1 104 _ [.int 0, .ref kr, .ref yy] y2903 X2903 hx D rfl
  have y2906 := iP y2905 X2903 hx hZ e2903 f2899 D
  have y2907 := fun (τ : State) kt => y2906 τ (XT.dup2 X2903.here hx rfl (D 105 rfl) rfl rfl rfl kt)
  have y2908 := dP y2907 X2903 hx hZ e2903 V2858 D
  have y2909 := rP 2 110 _ [.ref cm, (.double (FP.dsub co pn1)), .double 0, .int 0, .ref yy] y2908 X2903 hx D rfl
  obtain ⟨T2910, X2910, e2910, y2910⟩ := gP y2909 X2903 hx hZ hown (w106 hw) e2903 f2904 D
  have ni2912 : iv ∉ [] := nin0
  have f2911 := f11_.keep K2863 ni2912
  have ni2914 : i0 ∉ [] := nin0
  have f2913 := f14_.keep K2863 ni2914
  have y2915 := rP 1 114 _ [.int 0, .ref iv, (.double (FP.dsub co pn1)), .double 0, .int 0, .ref yy] y2910 X2910 hx D rfl
  have y2916 := aP y2915 X2910 hx hZ e2910 f2911 D
  have y2917 := rP 1 117 _ [.int 0, .ref i0, (.double (FP.dsub co pn1)), .double 0, .int 0, .ref yy] y2916 X2910 hx D rfl
  have y2918 := dP y2917 X2910 hx hZ e2910 f2913 D
  have y2919 := own_dmulP y2918 X2910 hx D (own_ok_no (own_ok_mul (own_ok_sub ok_co ok_pn1 (by decide)) own_okc_4607182418800017408 (by decide)))
  have y2920 := own_daddP y2919 X2910 hx D (own_ok_no (own_ok_add own_okc_0 (own_ok_mul (own_ok_sub ok_co ok_pn1 (by decide)) own_okc_4607182418800017408 (by decide)) (by decide)))
  obtain ⟨T2921, h2921, X2921, e2921, W2921, V2921, y2921⟩ := own_dstK y2920 X2910 hx hZ e2910 V2858 rfl rfl (D 120 rfl) ⟨by decide, by decide⟩ 0 rfl (Nat.le_of_ble_eq_true rfl)
  have f2922 := f2894.other W2921 (Or.inl ne2859)
  have y2923 := rP 4 90 [vr cm, vr yy, vi 0, vr x2, .val (.double (FP.dsub co pn1)), .second, vi 1] [.ref cm, .int 1] y2921 X2921 hx D rfl
  obtain ⟨T2924, X2924, e2924, y2924⟩ := gP y2923 X2921 hx hZ hown (w38 hw) e2921 f2922 D
  have ne2925 := own_ltn f9_.lt sz_yy
  have f2926 := f2899.other W2921 ne2925
  have f2927 := f2864.other W2921 (Or.inl ne2859)
  have y2928 := lP y2924 X2924 hx hZ e2924 f2926 D
  have y2929 := rP 5 47 [vr cm, vr yy, vi 1, vr x2, .val (.double (FP.dsub co pn1)), .second, vi 1] [.ref cm, .int 1] y2928 X2924 hx D rfl
  obtain ⟨T2930, X2930, e2930, y2930⟩ := gP y2929 X2924 hx hZ hown (w40 hw) e2924 f2927 D
  have ne2931 := own_ltn f10_.lt sz_yy
  have f2932 := f2868.other W2921 ne2931
  have K2933 := K2863.wr W2921 (Or.inr sz_yy)
  have y2934 := lP y2930 X2930 hx hZ e2930 f2932 D
  have y2935 := rP 2 134 _ [.ref yy] y2934 X2930 hx D rfl
  exact own_retA X2930 hlk y2935 hx hret rfl rfl (D 134 rfl) (by decide) (by decide) e2930 ⟨yy, k2845, rfl, (Fr.snoc X2921 (Fr.app (Fr.snoc X2858 N0 g_yy) Nq2881) g_yy), K2933, g_yy, sz_yy, V2921⟩
def Q_rmDu2 (Z : State) (cm : Addr) (sd kr kc iv i0 i1 al ed x1 x2 : Addr) (k_sd k_kr k_kc k_iv k_i0 k_i1 k_ed : ClassId) (co at1 mz gx : UInt64) (h0 : Heap) (n0 : Nat) (v : Option Value) (h : Heap) (L : List Loc) : Prop := ∃ (yz : UInt64) (yy : Addr) (k_yy : ClassId), v = some (.ref yy) ∧ Fr n0 L ∧ Keep h0 h [] ∧ n0 ≤ yy ∧ h0.size ≤ yy ∧ Arv Z h yy k_yy .double (2 : Int32) [.double yz, .double 0] (.double 0) ∧ own_eq yz co
theorem rmDu2 (l : Launch) (Z : State) (a0 : Array Value) (hw : own_Hw a0 Z) (ws : List Jvm.Cond) (cm : Addr) (sd kr kc iv i0 i1 al ed x1 x2 : Addr) (k_sd k_kr k_kc k_iv k_i0 k_i1 k_ed : ClassId) (co at1 mz gx : UInt64) (h0 : Heap) (n0 : Nat) (Z0 : n0 ≤ h0.size) (f0_ : Exa Z h0 cm sC) (f1_ : Fld Z h0 cm sC "dimension" "I" (.int 1)) (f2_ : Fld Z h0 cm sC "rows" "I" (.int 2)) (f3_ : Fld Z h0 cm sC "dense" "Ljava/util/List;" (.ref al)) (f4_ : Fld Z h0 cm sC "side" "[I" (.ref sd)) (f5_ : Fld Z h0 cm sC "kernelRows" "[I" (.ref kr)) (f6_ : Fld Z h0 cm sC "kernelColumns" "[I" (.ref kc)) (f7_ : Fld Z h0 cm sC "inverse" "[[D" (.ref iv)) (f8_ : Arv Z h0 sd k_sd .int 1 [.int 0] (.int 0)) (f9_ : Arv Z h0 kr k_kr .int 2 [.int 0, .int 1] (.int 0)) (f10_ : Arv Z h0 kc k_kc .int 2 [.int 1, .int 0] (.int 0)) (f11_ : Arv Z h0 iv k_iv (.array .double) (2 : Int32) [.ref i0, .ref i1] .null) (f12_ : OvrA Z k_iv .double "[D") (f13_ : Exa Z h0 iv "[[D") (f14_ : Arv Z h0 i0 k_i0 .double (2 : Int32) [.double 4607182418800017408, .double mz] (.double 0)) (f15_ : Exa Z h0 i0 "[D") (f16_ : Arv Z h0 i1 k_i1 .double (2 : Int32) [.double gx, .double 4607182418800017408] (.double 0)) (f17_ : Exa Z h0 i1 "[D") (f18_ : own_BA Z h0 al (.ref ed) (.int 2) (.int 2)) (f19_ : Arv Z h0 ed k_ed (.object "java/lang/Object") (10 : Int32) [.ref x1, .ref x2, .null, .null, .null, .null, .null, .null, .null, .null] .null) (f20_ : Ovr Z k_ed "java/lang/Object") (f21_ : Exa Z h0 x1 sD) (f22_ : Fld Z h0 x1 sD "cost" "D" (.double 0)) (f23_ : Fld Z h0 x1 sD "atOne" "D" (.double 0)) (f24_ : Exa Z h0 x2 sD) (f25_ : Fld Z h0 x2 sD "cost" "D" (.double co)) (f26_ : Fld Z h0 x2 sD "atOne" "D" (.double at1)) (ne_sd_kr : sd ≠ kr) (ne_sd_kc : sd ≠ kc) (ne_kr_kc : kr ≠ kc) (ne_i0_i1 : i0 ≠ i1) (ne_x1_x2 : x1 ≠ x2) (ok_co : own_ok 1 co) (ok_at1 : own_sz at1) (ok_mz : own_sz mz) (ok_gx : own_ok 1 gx) : own_Met l Z own_mn36 prog_26_method_18_code 7 (some (.array .double)) ws ⟨3, 1, 2, 41⟩ #[.ref cm] h0 (Q_rmDu2 Z cm sd kr kc iv i0 i1 al ed x1 x2 k_sd k_kr k_kc k_iv k_i0 k_i1 k_ed co at1 mz gx h0 n0) := by
  refine own_begS sC n0 [] #[vr cm, un, un, un, un, un, un] oT33 (plainFor_of_name own_pn_sC) fun p e s m below meth c s₁ hx D hml hown hnm hret hlk hZ X0 e0 PS y0 N0 KK0 => ?_
  have y2936 := rP 1 1 _ [.ref cm] y0 X0 hx D rfl
  obtain ⟨T2937, X2937, e2937, y2937⟩ := gP y2936 X0 hx hZ hown (w47 hw) e0 f2_ D
  obtain ⟨T2938, h2938, k2938, X2938, e2938, E2938, A2938, st2938⟩ := newP (aty := .double) X2937 hx hZ (w42 hw) e2937 (g := (mkF m 4 #[vr cm, un, un, un, un, un, un] [.int 2])) rfl (D 4 rfl) rfl (by decide) (cap := 2) (by decide) (by decide) (by decide) (by decide)
  obtain ⟨yy, g2938⟩ : ∃ z, z = h0.size := ⟨_, rfl⟩
  rw [← g2938] at A2938 st2938
  have g_yy : n0 ≤ yy := Nat.le_trans (Nat.le_trans Z0 KK0.1) (Nat.le_of_eq g2938.symm)
  have sz_yy : h0.size ≤ yy := Nat.le_trans KK0.1 (Nat.le_of_eq g2938.symm)
  have V_yy : Arv Z h2938 yy k2938 .double (2 : Int32) [.double 0, .double 0] (.double 0) := (Arv.new A2938 (by decide)).pad (pad_rep [] (.double 0) 2)
  have y2939 := fun (τ : State) kt => y2937 τ (st2938 τ kt)
  have f2940 := f1_.ext E2938
  have y2941 := rP 3 9 [vr cm, vr yy, vi 0, un, un, un, un] [] y2939 X2938 hx D rfl
  have y2942 := rP 2 11 _ [.ref cm, .int 0] y2941 X2938 hx D rfl
  obtain ⟨T2943, X2943, e2943, y2943⟩ := gP y2942 X2938 hx hZ hown (w45 hw) e2938 f2940 D
  have f2944 := f4_.ext E2938
  have y2945 := rP 6 22 _ [.ref cm, .int 1, .ref yy] y2943 X2943 hx D rfl
  obtain ⟨T2946, X2946, e2946, y2946⟩ := gP y2945 X2943 hx hZ hown (w51 hw) e2943 f2944 D
  have f2947 := f8_.ext E2938
  have y2948 := rP 1 26 _ [.int 0, .ref sd, .int 1, .ref yy] y2946 X2946 hx D rfl
  have y2949 := iP y2948 X2946 hx hZ e2946 f2947 D
  have y2950 := rP 3 36 _ [.double 0, .int 1, .ref yy] y2949 X2946 hx D rfl
  obtain ⟨T2951, h2951, X2951, e2951, W2951, V2951, y2951⟩ := own_dstK y2950 X2946 hx hZ e2946 V_yy rfl rfl (D 36 rfl) ⟨by decide, by decide⟩ 1 rfl (Nat.le_of_ble_eq_true rfl)
  have ne2952 := own_ltn f0_.lt sz_yy
  have f2953 := f2940.other W2951 (Or.inl ne2952)
  have y2954 := rP 4 11 [vr cm, vr yy, vi 1, un, un, un, un] [.ref cm, .int 1] y2951 X2951 hx D rfl
  obtain ⟨T2955, X2955, e2955, y2955⟩ := gP y2954 X2951 hx hZ hown (w45 hw) e2951 f2953 D
  have K2956 := (KK0.ext E2938).wr W2951 (Or.inr sz_yy)
  have ni2958 : cm ∉ [] := nin0
  have f2957 := f6_.keep K2956 ni2958
  have y2959 := rP 5 47 [vr cm, vr yy, vi 0, un, un, un, un] [.ref cm, .int 0] y2955 X2955 hx D rfl
  obtain ⟨T2960, X2960, e2960, y2960⟩ := gP y2959 X2955 hx hZ hown (w40 hw) e2955 f2957 D
  have ni2962 : kc ∉ [] := nin0
  have f2961 := f10_.keep K2956 ni2962
  have f2963 := f3_.keep K2956 ni2958
  have y2964 := lP y2960 X2960 hx hZ e2960 f2961 D
  have y2965 := rP 2 55 _ [.ref cm] y2964 X2960 hx D rfl
  obtain ⟨T2966, X2966, e2966, y2966⟩ := gP y2965 X2960 hx hZ hown (w35 hw) e2960 f2963 D
  have y2967 := rP 1 59 _ [.ref cm, .ref al] y2966 X2966 hx D rfl
  obtain ⟨T2968, X2968, e2968, y2968⟩ := gP y2967 X2966 hx hZ hown (w40 hw) e2966 f2957 D
  have ni2970 : al ∉ [] := nin0
  have b2969 := f18_.keep K2956 ni2970
  have ni2972 : ed ∉ [] := nin0
  have f2971 := f19_.keep K2956 ni2972
  have y2975 := rP 1 63 _ [.int 0, .ref kc, .ref al] y2968 X2968 hx D rfl
  have y2976 := iP y2975 X2968 hx hZ e2968 f2961 D
  obtain ⟨_, T2974, L2974, X2974, ⟨rfl, Nq2974, eq2974⟩, y2974⟩ := cF y2976 X2968 hx hZ hown hml.symm (own_V10 hw) (rmGet1 l Z a0 hw [] al ed k_ed x1 x2 h2951 n0 (Nat.le_trans Z0 K2956.1) b2969 f2971 f20_) 0 b2969.e e2968 [.int 1] [] D
  have f2978 := f24_.keep K2956
  obtain ⟨T2977, X2977, e2977, st2977⟩ := castY X2974 hx hZ hown (w55 hw) eq2974 (Ins.self f2978) (g := (mkF m 69 #[vr cm, vr yy, vi 0, un, un, un, un] [.ref x2])) rfl rfl (D 69 rfl)
  have y2979 := fun (τ : State) kt => y2974 τ (st2977 τ kt)
  have ni2981 : x2 ∉ [] := nin0
  have f2980 := f25_.keep K2956 ni2981
  have y2982 := rP 2 74 [vr cm, vr yy, vi 0, vr x2, un, un, un] [.ref x2] y2979 X2977 hx D rfl
  obtain ⟨T2983, X2983, e2983, y2983⟩ := own_getS y2982 X2977 hx hZ hown (w254 hw) e2977 f2980 rfl rfl (D 74 rfl)
  have f2984 := f26_.keep K2956 ni2981
  have y2985 := rP 1 78 _ [.ref x2, .double co] y2983 X2983 hx D rfl
  obtain ⟨T2986, X2986, e2986, y2986⟩ := own_getS y2985 X2983 hx hZ hown (w120 hw) e2983 f2984 rfl rfl (D 78 rfl)
  have f2987 := f5_.keep K2956 ni2958
  have y2988 := own_dsubP y2986 X2986 hx D (own_ok_no (own_ok_sub ok_co (own_sz_ok ok_at1) (by decide)))
  have y2989 := rP 3 87 [vr cm, vr yy, vi 0, vr x2, .val (.double (FP.dsub co at1)), .second, vi 0] [] y2988 X2986 hx D rfl
  have y2990 := rP 2 90 _ [.ref cm, .int 0] y2989 X2986 hx D rfl
  obtain ⟨T2991, X2991, e2991, y2991⟩ := gP y2990 X2986 hx hZ hown (w38 hw) e2986 f2987 D
  have ni2993 : kr ∉ [] := nin0
  have f2992 := f9_.keep K2956 ni2993
  have y2994 := lP y2991 X2991 hx hZ e2991 f2992 D
  have y2995 := rP 3 99 _ [.ref cm, .ref yy] y2994 X2991 hx D rfl
  obtain ⟨T2996, X2996, e2996, y2996⟩ := gP y2995 X2991 hx hZ hown (w38 hw) e2991 f2987 D
  have f2997 := f7_.keep K2956 ni2958
  have y2998 := rP 1 104 _ [.int 0, .ref kr, .ref yy] y2996 X2996 hx D rfl
  have y2999 := iP y2998 X2996 hx hZ e2996 f2992 D
  have y3000 := fun (τ : State) kt => y2999 τ (XT.dup2 X2996.here hx rfl (D 105 rfl) rfl rfl rfl kt)
  have y3001 := dP y3000 X2996 hx hZ e2996 V2951 D
  have y3002 := rP 2 110 _ [.ref cm, (.double (FP.dsub co at1)), .double 0, .int 0, .ref yy] y3001 X2996 hx D rfl
  obtain ⟨T3003, X3003, e3003, y3003⟩ := gP y3002 X2996 hx hZ hown (w106 hw) e2996 f2997 D
  have ni3005 : iv ∉ [] := nin0
  have f3004 := f11_.keep K2956 ni3005
  have ni3007 : i0 ∉ [] := nin0
  have f3006 := f14_.keep K2956 ni3007
  have y3008 := rP 1 114 _ [.int 0, .ref iv, (.double (FP.dsub co at1)), .double 0, .int 0, .ref yy] y3003 X3003 hx D rfl
  have y3009 := aP y3008 X3003 hx hZ e3003 f3004 D
  have y3010 := rP 1 117 _ [.int 0, .ref i0, (.double (FP.dsub co at1)), .double 0, .int 0, .ref yy] y3009 X3003 hx D rfl
  have y3011 := dP y3010 X3003 hx hZ e3003 f3006 D
  have y3012 := own_dmulP y3011 X3003 hx D (own_ok_no (own_ok_mul (own_ok_sub ok_co (own_sz_ok ok_at1) (by decide)) own_okc_4607182418800017408 (by decide)))
  have y3013 := own_daddP y3012 X3003 hx D (own_ok_no (own_ok_add own_okc_0 (own_ok_mul (own_ok_sub ok_co (own_sz_ok ok_at1) (by decide)) own_okc_4607182418800017408 (by decide)) (by decide)))
  obtain ⟨T3014, h3014, X3014, e3014, W3014, V3014, y3014⟩ := own_dstK y3013 X3003 hx hZ e3003 V2951 rfl rfl (D 120 rfl) ⟨by decide, by decide⟩ 0 rfl (Nat.le_of_ble_eq_true rfl)
  have f3015 := f2987.other W3014 (Or.inl ne2952)
  have y3016 := rP 4 90 [vr cm, vr yy, vi 0, vr x2, .val (.double (FP.dsub co at1)), .second, vi 1] [.ref cm, .int 1] y3014 X3014 hx D rfl
  obtain ⟨T3017, X3017, e3017, y3017⟩ := gP y3016 X3014 hx hZ hown (w38 hw) e3014 f3015 D
  have ne3018 := own_ltn f9_.lt sz_yy
  have f3019 := f2992.other W3014 ne3018
  have y3020 := lP y3017 X3017 hx hZ e3017 f3019 D
  have y3021 := rP 3 99 _ [.ref cm, .ref yy] y3020 X3017 hx D rfl
  obtain ⟨T3022, X3022, e3022, y3022⟩ := gP y3021 X3017 hx hZ hown (w38 hw) e3017 f3015 D
  have f3023 := f2997.other W3014 (Or.inl ne2952)
  have y3024 := rP 1 104 _ [.int 1, .ref kr, .ref yy] y3022 X3022 hx D rfl
  have y3025 := iP y3024 X3022 hx hZ e3022 f3019 D
  have y3026 := fun (τ : State) kt => y3025 τ (XT.dup2 X3022.here hx rfl (D 105 rfl) rfl rfl rfl kt)
  have y3027 := dP y3026 X3022 hx hZ e3022 V3014 D
  have y3028 := rP 2 110 _ [.ref cm, (.double (FP.dsub co at1)), .double 0, .int 1, .ref yy] y3027 X3022 hx D rfl
  obtain ⟨T3029, X3029, e3029, y3029⟩ := gP y3028 X3022 hx hZ hown (w106 hw) e3022 f3023 D
  have ne3030 := own_ltn f11_.lt sz_yy
  have f3031 := f3004.other W3014 ne3030
  have ne3032 := own_ltn f14_.lt sz_yy
  have f3033 := f3006.other W3014 ne3032
  have y3034 := rP 1 114 _ [.int 0, .ref iv, (.double (FP.dsub co at1)), .double 0, .int 1, .ref yy] y3029 X3029 hx D rfl
  have y3035 := aP y3034 X3029 hx hZ e3029 f3031 D
  have y3036 := rP 1 117 _ [.int 1, .ref i0, (.double (FP.dsub co at1)), .double 0, .int 1, .ref yy] y3035 X3029 hx D rfl
  have y3037 := dP y3036 X3029 hx hZ e3029 f3033 D
  have y3038 := own_dmulP y3037 X3029 hx D (own_ok_no (own_sz_ok (own_sz_mul (own_ok_sub ok_co (own_sz_ok ok_at1) (by decide)) ok_mz)))
  have y3039 := own_daddP y3038 X3029 hx D (own_ok_no (own_sz_ok (own_sz_add (Or.inl rfl) (own_sz_mul (own_ok_sub ok_co (own_sz_ok ok_at1) (by decide)) ok_mz))))
  have y3040 := nD y3039 (own_u3 (own_sz_mul (own_ok_sub ok_co (own_sz_ok ok_at1) (by decide)) ok_mz))
  obtain ⟨T3041, h3041, X3041, e3041, W3041, V3041, y3041⟩ := own_dstK y3040 X3029 hx hZ e3029 V3014 rfl rfl (D 120 rfl) ⟨by decide, by decide⟩ 1 rfl (Nat.le_of_ble_eq_true rfl)
  have f3042 := f3015.other W3041 (Or.inl ne2952)
  have y3043 := rP 4 90 [vr cm, vr yy, vi 0, vr x2, .val (.double (FP.dsub co at1)), .second, vi 2] [.ref cm, .int 2] y3041 X3041 hx D rfl
  obtain ⟨T3044, X3044, e3044, y3044⟩ := gP y3043 X3041 hx hZ hown (w38 hw) e3041 f3042 D
  have f3045 := f3019.other W3041 ne3018
  have K3046 := (K2956.wr W3014 (Or.inr sz_yy)).wr W3041 (Or.inr sz_yy)
  have f3047 := f6_.keep K3046 ni2958
  have y3048 := lP y3044 X3044 hx hZ e3044 f3045 D
  have y3049 := rP 5 47 [vr cm, vr yy, vi 1, vr x2, .val (.double (FP.dsub co at1)), .second, vi 2] [.ref cm, .int 1] y3048 X3044 hx D rfl
  obtain ⟨T3050, X3050, e3050, y3050⟩ := gP y3049 X3044 hx hZ hown (w40 hw) e3044 f3047 D
  have f3051 := f10_.keep K3046 ni2962
  have f3052 := f3_.keep K3046 ni2958
  have y3053 := lP y3050 X3050 hx hZ e3050 f3051 D
  have y3054 := rP 2 55 _ [.ref cm] y3053 X3050 hx D rfl
  obtain ⟨T3055, X3055, e3055, y3055⟩ := gP y3054 X3050 hx hZ hown (w35 hw) e3050 f3052 D
  have y3056 := rP 1 59 _ [.ref cm, .ref al] y3055 X3055 hx D rfl
  obtain ⟨T3057, X3057, e3057, y3057⟩ := gP y3056 X3055 hx hZ hown (w40 hw) e3055 f3047 D
  have b3058 := f18_.keep K3046 ni2970
  have f3059 := f19_.keep K3046 ni2972
  have y3062 := rP 1 63 _ [.int 1, .ref kc, .ref al] y3057 X3057 hx D rfl
  have y3063 := iP y3062 X3057 hx hZ e3057 f3051 D
  obtain ⟨_, T3061, L3061, X3061, ⟨rfl, Nq3061, eq3061⟩, y3061⟩ := cF y3063 X3057 hx hZ hown hml.symm (own_V10 hw) (rmGet0 l Z a0 hw [] al ed k_ed x1 x2 h3041 n0 (Nat.le_trans Z0 K3046.1) b3058 f3059 f20_) 0 b3058.e e3057 [.int 0] [] D
  have f3065 := f21_.keep K3046
  obtain ⟨T3064, X3064, e3064, st3064⟩ := castY X3061 hx hZ hown (w55 hw) eq3061 (Ins.self f3065) (g := (mkF m 69 #[vr cm, vr yy, vi 1, vr x2, .val (.double (FP.dsub co at1)), .second, vi 2] [.ref x1])) rfl rfl (D 69 rfl)
  have y3066 := fun (τ : State) kt => y3061 τ (st3064 τ kt)
  have ni3068 : x1 ∉ [] := nin0
  have f3067 := f22_.keep K3046 ni3068
  have y3069 := rP 2 74 [vr cm, vr yy, vi 1, vr x1, .val (.double (FP.dsub co at1)), .second, vi 2] [.ref x1] y3066 X3064 hx D rfl
  obtain ⟨T3070, X3070, e3070, y3070⟩ := own_getS y3069 X3064 hx hZ hown (w254 hw) e3064 f3067 rfl rfl (D 74 rfl)
  have f3071 := f23_.keep K3046 ni3068
  have y3072 := rP 1 78 _ [.ref x1, .double 0] y3070 X3070 hx D rfl
  obtain ⟨T3073, X3073, e3073, y3073⟩ := own_getS y3072 X3070 hx hZ hown (w120 hw) e3070 f3071 rfl rfl (D 78 rfl)
  have y3074 := own_dsubP y3073 X3073 hx D (own_ok_no own_okc_0)
  have y3075 := nD y3074 own_q33
  have y3076 := rP 3 87 [vr cm, vr yy, vi 1, vr x1, vd 0, .second, vi 0] [] y3075 X3073 hx D rfl
  have y3077 := rP 2 90 _ [.ref cm, .int 0] y3076 X3073 hx D rfl
  obtain ⟨T3078, X3078, e3078, y3078⟩ := gP y3077 X3073 hx hZ hown (w38 hw) e3073 f3042 D
  have y3079 := lP y3078 X3078 hx hZ e3078 f3045 D
  have y3080 := rP 3 99 _ [.ref cm, .ref yy] y3079 X3078 hx D rfl
  obtain ⟨T3081, X3081, e3081, y3081⟩ := gP y3080 X3078 hx hZ hown (w38 hw) e3078 f3042 D
  have f3082 := f3023.other W3041 (Or.inl ne2952)
  have y3083 := rP 1 104 _ [.int 0, .ref kr, .ref yy] y3081 X3081 hx D rfl
  have y3084 := iP y3083 X3081 hx hZ e3081 f3045 D
  have y3085 := fun (τ : State) kt => y3084 τ (XT.dup2 X3081.here hx rfl (D 105 rfl) rfl rfl rfl kt)
  have y3086 := dP y3085 X3081 hx hZ e3081 V3041 D
  have y3087 := rP 2 110 _ [.ref cm, .double 0, (.double (FP.dadd (0 : UInt64) (FP.dmul (FP.dsub co at1) (4607182418800017408 : UInt64)))), .int 0, .ref yy] y3086 X3081 hx D rfl
  obtain ⟨T3088, X3088, e3088, y3088⟩ := gP y3087 X3081 hx hZ hown (w106 hw) e3081 f3082 D
  have f3089 := f3031.other W3041 ne3030
  have ni3091 : i1 ∉ [] := nin0
  have f3090 := f16_.keep K3046 ni3091
  have y3092 := rP 1 114 _ [.int 1, .ref iv, .double 0, (.double (FP.dadd (0 : UInt64) (FP.dmul (FP.dsub co at1) (4607182418800017408 : UInt64)))), .int 0, .ref yy] y3088 X3088 hx D rfl
  have y3093 := aP y3092 X3088 hx hZ e3088 f3089 D
  have y3094 := rP 1 117 _ [.int 0, .ref i1, .double 0, (.double (FP.dadd (0 : UInt64) (FP.dmul (FP.dsub co at1) (4607182418800017408 : UInt64)))), .int 0, .ref yy] y3093 X3088 hx D rfl
  have y3095 := dP y3094 X3088 hx hZ e3088 f3090 D
  have y3096 := own_dmulP y3095 X3088 hx D (own_ok_no (own_sz_ok (own_sz_mulL (Or.inl rfl) ok_gx)))
  have y3097 := own_daddP y3096 X3088 hx D (own_ok_no (own_ok_add (own_ok_add own_okc_0 (own_ok_mul (own_ok_sub ok_co (own_sz_ok ok_at1) (by decide)) own_okc_4607182418800017408 (by decide)) (by decide)) (own_sz_ok (own_sz_mulL (Or.inl rfl) ok_gx)) (by decide)))
  obtain ⟨T3098, h3098, X3098, e3098, W3098, V3098, y3098⟩ := own_dstK y3097 X3088 hx hZ e3088 V3041 rfl rfl (D 120 rfl) ⟨by decide, by decide⟩ 0 rfl (Nat.le_of_ble_eq_true rfl)
  have f3099 := f3042.other W3098 (Or.inl ne2952)
  have y3100 := rP 4 90 [vr cm, vr yy, vi 1, vr x1, vd 0, .second, vi 1] [.ref cm, .int 1] y3098 X3098 hx D rfl
  obtain ⟨T3101, X3101, e3101, y3101⟩ := gP y3100 X3098 hx hZ hown (w38 hw) e3098 f3099 D
  have f3102 := f3045.other W3098 ne3018
  have y3103 := lP y3101 X3101 hx hZ e3101 f3102 D
  have y3104 := rP 3 99 _ [.ref cm, .ref yy] y3103 X3101 hx D rfl
  obtain ⟨T3105, X3105, e3105, y3105⟩ := gP y3104 X3101 hx hZ hown (w38 hw) e3101 f3099 D
  have f3106 := f3082.other W3098 (Or.inl ne2952)
  have y3107 := rP 1 104 _ [.int 1, .ref kr, .ref yy] y3105 X3105 hx D rfl
  have y3108 := iP y3107 X3105 hx hZ e3105 f3102 D
  have y3109 := fun (τ : State) kt => y3108 τ (XT.dup2 X3105.here hx rfl (D 105 rfl) rfl rfl rfl kt)
  have y3110 := dP y3109 X3105 hx hZ e3105 V3098 D
  have y3111 := rP 2 110 _ [.ref cm, .double 0, .double 0, .int 1, .ref yy] y3110 X3105 hx D rfl
  obtain ⟨T3112, X3112, e3112, y3112⟩ := gP y3111 X3105 hx hZ hown (w106 hw) e3105 f3106 D
  have f3113 := f3089.other W3098 ne3030
  have ne3114 := own_ltn f16_.lt sz_yy
  have f3115 := f3090.other W3098 ne3114
  have y3116 := rP 1 114 _ [.int 1, .ref iv, .double 0, .double 0, .int 1, .ref yy] y3112 X3112 hx D rfl
  have y3117 := aP y3116 X3112 hx hZ e3112 f3113 D
  have y3118 := rP 1 117 _ [.int 1, .ref i1, .double 0, .double 0, .int 1, .ref yy] y3117 X3112 hx D rfl
  have y3119 := dP y3118 X3112 hx hZ e3112 f3115 D
  have y3120 := own_dmulP y3119 X3112 hx D (own_ok_no own_okc_0)
  have y3121 := nD y3120 own_q34
  have y3122 := own_daddP y3121 X3112 hx D (own_ok_no own_okc_0)
  have y3123 := nD y3122 own_q35
  obtain ⟨T3124, h3124, X3124, e3124, W3124, V3124, y3124⟩ := own_dstK y3123 X3112 hx hZ e3112 V3098 rfl rfl (D 120 rfl) ⟨by decide, by decide⟩ 1 rfl (Nat.le_of_ble_eq_true rfl)
  have f3125 := f3099.other W3124 (Or.inl ne2952)
  have y3126 := rP 4 90 [vr cm, vr yy, vi 1, vr x1, vd 0, .second, vi 2] [.ref cm, .int 2] y3124 X3124 hx D rfl
  obtain ⟨T3127, X3127, e3127, y3127⟩ := gP y3126 X3124 hx hZ hown (w38 hw) e3124 f3125 D
  have f3128 := f3102.other W3124 ne3018
  have K3129 := (K3046.wr W3098 (Or.inr sz_yy)).wr W3124 (Or.inr sz_yy)
  have f3130 := f6_.keep K3129 ni2958
  have y3131 := lP y3127 X3127 hx hZ e3127 f3128 D
  have y3132 := rP 5 47 [vr cm, vr yy, vi 2, vr x1, vd 0, .second, vi 2] [.ref cm, .int 2] y3131 X3127 hx D rfl
  obtain ⟨T3133, X3133, e3133, y3133⟩ := gP y3132 X3127 hx hZ hown (w40 hw) e3127 f3130 D
  have f3134 := f10_.keep K3129 ni2962
  have y3135 := lP y3133 X3133 hx hZ e3133 f3134 D
  have y3136 := rP 2 134 _ [.ref yy] y3135 X3133 hx D rfl
  exact own_retA X3133 hlk y3136 hx hret rfl rfl (D 134 rfl) (by decide) (by decide) e3133 ⟨(FP.dadd (FP.dadd (0 : UInt64) (FP.dmul (FP.dsub co at1) (4607182418800017408 : UInt64))) (FP.dmul (0 : UInt64) gx)), yy, k2938, rfl, (Fr.snoc X3124 (Fr.snoc X3098 (Fr.app (Fr.snoc X3041 (Fr.snoc X3014 (Fr.app (Fr.snoc X2951 N0 g_yy) Nq2974) g_yy) g_yy) Nq3061) g_yy) g_yy), K3129, g_yy, sz_yy, V3124, (own_y2 ok_co ok_at1 (own_sz_mulL (Or.inl rfl) ok_gx))⟩
def Q_rmRi (Z : State) (a : Addr)  (h0 : Heap) (n0 : Nat) (v : Option Value) (h : Heap) (L : List Loc) : Prop := v = none ∧ Fr n0 L ∧ h = h0
theorem own_pn_java_lang_Record : plainName "java/lang/Record" = true := by first | (simp [plainName, overriddenIn]; done) | decide +kernel
theorem rmRi (l : Launch) (Z : State) (a0 : Array Value) (hw : own_Hw a0 Z) (ws : List Jvm.Cond) (a : Addr)  (h0 : Heap) (n0 : Nat) (Z0 : n0 ≤ h0.size)  : own_Met l Z own_mn37 jdk_30_method_1_code 1 none ws ⟨1, 0, 0, 12⟩ #[.ref a] h0 (Q_rmRi Z a h0 n0) := by
  refine own_begS "java/lang/Record" n0 [] #[vr a] oT46 (plainFor_of_name own_pn_java_lang_Record) fun p e s m below meth c s₁ hx D hml hown hnm hret hlk hZ X0 e0 PS y0 N0 KK0 => ?_
  obtain ⟨T3137, X3137, e3137, st3137⟩ := initO X0 hx hZ hown (w318 hw) (w9 hw) (w10 hw) e0 (g := (mkF m 1 #[vr a] [.ref a])) rfl hml.symm rfl (D 1 rfl) (by decide) (W := 0) (by show 2 * 0 + _ ≤ _; exact Nat.le_of_eq rfl) (by decide)
  have y3138 := rP 1 1 _ [.ref a] y0 X0 hx D rfl
  have y3139 := fun (τ : State) kt => y3138 τ (st3137 τ kt)
  exact own_retV X3137 hlk y3139 hx hret (D 4 rfl) (by decide) (by decide) e3137 ⟨rfl, N0, rfl⟩
def Q_rmDi (Z : State) (di : Addr) (kn : Addr) (bo : Addr)  (h0 : Heap) (n0 : Nat) (v : Option Value) (h : Heap) (L : List Loc) : Prop := v = none ∧ Fr n0 L ∧ Keep h0 h [di] ∧ own_BR Z h di (.ref kn) (.ref bo)
theorem own_pn_sR : plainName sR = true := by first | (simp [plainName, overriddenIn]; done) | decide +kernel
theorem rmDi (l : Launch) (Z : State) (a0 : Array Value) (hw : own_Hw a0 Z) (ws : List Jvm.Cond) (di : Addr) (kn : Addr) (bo : Addr)  (h0 : Heap) (n0 : Nat) (Z0 : n0 ≤ h0.size) (f0_ : own_BR Z h0 di .null .null) (gg_di : n0 ≤ di) : own_Met l Z own_mn38 prog_28_method_1_code 3 none ws ⟨2, 0, 0, 24⟩ #[.ref di, .ref kn, .ref bo] h0 (Q_rmDi Z di kn bo h0 n0) := by
  refine own_begS sR n0 [di] #[vr di, vr kn, vr bo] oT45 (plainFor_of_name own_pn_sR) fun p e s m below meth c s₁ hx D hml hown hnm hret hlk hZ X0 e0 PS y0 N0 KK0 => ?_
  obtain ⟨_, T3141, L3141, X3141, ⟨rfl, Nq3141, eq3141⟩, st3141⟩ := own_spec (y := own_mn37) (b := di) X0 hx hZ rfl hown (w313 hw) (w314 hw) (by decide) (rmRi l Z a0 hw [] di h0 n0 (Nat.le_trans Z0 KK0.1) ) (w317 hw) (w316 hw) 0 (by decide) (by decide) e0 (mkF m 1 #[vr di, vr kn, vr bo] [.ref di]) rfl hml.symm [] [] rfl (lenOf own_pd___V rfl) rfl (Nat.le_refl _) (D 1 rfl) (by decide) (by decide)
  have y3142 := rP 1 1 _ [.ref di] y0 X0 hx D rfl
  have y3143 := fun (τ : State) kt => y3142 τ (st3141 τ kt)
  have y3144 := rP 2 6 _ [.ref kn, .ref di] y3143 X3141 hx D rfl
  obtain ⟨T3145, h3145, X3145, e3145, W3145, fw3145, y3145⟩ := own_putK y3144 X3141 hx hZ hown (w319 hw) Via.refl eq3141 f0_.f0 f0_.e (Or.inr ⟨(w320 hw), rfl, hnm⟩) (w308 hw) (.array .double) (by decide) rfl rfl rfl rfl (D 6 rfl)
  have b3146 := f0_.p0 hw W3145
  have y3147 := rP 2 11 _ [.ref bo, .ref di] y3145 X3145 hx D rfl
  obtain ⟨T3148, h3148, X3148, e3148, W3148, fw3148, y3148⟩ := own_putK y3147 X3145 hx hZ hown (w321 hw) Via.refl e3145 b3146.f1 b3146.e (Or.inr ⟨(w322 hw), rfl, hnm⟩) (w308 hw) (.array .double) (by decide) rfl rfl rfl rfl (D 11 rfl)
  have b3149 := b3146.p1 hw W3148
  have K3150 := (KK0.wr W3145 (Or.inl (by simp))).wr W3148 (Or.inl (by simp))
  exact own_retV X3148 hlk y3148 hx hret (D 14 rfl) (by decide) (by decide) e3148 ⟨rfl, (Fr.snoc X3148 (Fr.snoc X3145 (Fr.app N0 Nq3141) gg_di) gg_di), K3150, b3149⟩
def Q_rmAt0 (Z : State) (di : Addr) (kn bo : Addr) (k_kn k_bo : ClassId)  (h0 : Heap) (n0 : Nat) (v : Option Value) (h : Heap) (L : List Loc) : Prop := v = some (.double 0) ∧ Fr n0 L ∧ h = h0
theorem rmAt0 (l : Launch) (Z : State) (a0 : Array Value) (hw : own_Hw a0 Z) (ws : List Jvm.Cond) (di : Addr) (kn bo : Addr) (k_kn k_bo : ClassId)  (h0 : Heap) (n0 : Nat) (Z0 : n0 ≤ h0.size) (f0_ : own_BR Z h0 di (.ref kn) (.ref bo)) (f1_ : Arv Z h0 kn k_kn .double (1 : Int32) [.double 0] (.double 0)) (f2_ : Arv Z h0 bo k_bo .double (1 : Int32) [.double 4607182418800017408] (.double 0)) (ne_kn_bo : kn ≠ bo) : own_Met l Z own_mn39 prog_28_method_2_code 2 (some .double) ws ⟨0, 0, 0, 0⟩ #[.ref di, .int 0] h0 (Q_rmAt0 Z di kn bo k_kn k_bo h0 n0) := by
  refine own_begS sR n0 [] #[vr di, vi 0] oT47 (plainFor_of_name own_pn_sR) fun p e s m below meth c s₁ hx D hml hown hnm hret hlk hZ X0 e0 PS y0 N0 KK0 => ?_
  have y3151 := rP 2 2 _ [.ref di, .int 0] y0 X0 hx D rfl
  obtain ⟨T3152, X3152, e3152, y3152⟩ := gP y3151 X0 hx hZ hown (w319 hw) e0 f0_.f0 D
  have y3153 := lP y3152 X3152 hx hZ e3152 f1_ D
  have y3154 := rP 2 10 _ [.ref di] y3153 X3152 hx D rfl
  obtain ⟨T3155, X3155, e3155, y3155⟩ := gP y3154 X3152 hx hZ hown (w319 hw) e3152 f0_.f0 D
  have y3156 := rP 1 14 _ [.int 0, .ref kn] y3155 X3155 hx D rfl
  have y3157 := dP y3156 X3155 hx hZ e3155 f1_ D
  have y3158 := rP 1 30 _ [.double 0] y3157 X3155 hx D rfl
  exact own_retDb X3155 hlk y3158 hx hret (D 30 rfl) (by decide) (by decide) e3155 ⟨rfl, N0, rfl⟩
def Q_rmAt1 (Z : State) (di : Addr) (kn bo : Addr) (k_kn k_bo : ClassId)  (h0 : Heap) (n0 : Nat) (v : Option Value) (h : Heap) (L : List Loc) : Prop := v = some (.double 4607182418800017408) ∧ Fr n0 L ∧ h = h0
theorem rmAt1 (l : Launch) (Z : State) (a0 : Array Value) (hw : own_Hw a0 Z) (ws : List Jvm.Cond) (di : Addr) (kn bo : Addr) (k_kn k_bo : ClassId)  (h0 : Heap) (n0 : Nat) (Z0 : n0 ≤ h0.size) (f0_ : own_BR Z h0 di (.ref kn) (.ref bo)) (f1_ : Arv Z h0 kn k_kn .double (1 : Int32) [.double 0] (.double 0)) (f2_ : Arv Z h0 bo k_bo .double (1 : Int32) [.double 4607182418800017408] (.double 0)) (ne_kn_bo : kn ≠ bo) : own_Met l Z own_mn39 prog_28_method_2_code 2 (some .double) ws ⟨0, 0, 0, 0⟩ #[.ref di, .int 1] h0 (Q_rmAt1 Z di kn bo k_kn k_bo h0 n0) := by
  refine own_begS sR n0 [] #[vr di, vi 1] oT47 (plainFor_of_name own_pn_sR) fun p e s m below meth c s₁ hx D hml hown hnm hret hlk hZ X0 e0 PS y0 N0 KK0 => ?_
  have y3159 := rP 2 2 _ [.ref di, .int 1] y0 X0 hx D rfl
  obtain ⟨T3160, X3160, e3160, y3160⟩ := gP y3159 X0 hx hZ hown (w319 hw) e0 f0_.f0 D
  have y3161 := lP y3160 X3160 hx hZ e3160 f1_ D
  have y3162 := rP 2 19 _ [.ref di] y3161 X3160 hx D rfl
  obtain ⟨T3163, X3163, e3163, y3163⟩ := gP y3162 X3160 hx hZ hown (w321 hw) e3160 f0_.f1 D
  have y3164 := rP 2 24 _ [.ref di, .int 1, .ref bo] y3163 X3163 hx D rfl
  obtain ⟨T3165, X3165, e3165, y3165⟩ := gP y3164 X3163 hx hZ hown (w319 hw) e3163 f0_.f0 D
  have y3166 := lP y3165 X3165 hx hZ e3165 f1_ D
  have y3167 := rP 1 29 _ [.int 0, .ref bo] y3166 X3165 hx D rfl
  have y3168 := dP y3167 X3165 hx hZ e3165 f2_ D
  exact own_retDb X3165 hlk y3168 hx hret (D 30 rfl) (by decide) (by decide) e3165 ⟨rfl, N0, rfl⟩
def Q_rmDk (Z : State) (di : Addr) (kn bo : Addr) (h0 : Heap) (n0 : Nat) (v : Option Value) (h : Heap) (L : List Loc) : Prop := v = some (.ref kn) ∧ Fr n0 L ∧ h = h0
theorem rmDk (l : Launch) (Z : State) (a0 : Array Value) (hw : own_Hw a0 Z) (ws : List Jvm.Cond) (di : Addr) (kn bo : Addr) (h0 : Heap) (n0 : Nat) (Z0 : n0 ≤ h0.size) (f0_ : own_BR Z h0 di (.ref kn) (.ref bo)) : own_Met l Z own_mn40 prog_28_method_6_code 1 (some (.array .double)) ws ⟨0, 0, 0, 0⟩ #[.ref di] h0 (Q_rmDk Z di kn bo h0 n0) := by
  refine own_begS sR n0 [] #[vr di] oT50 (plainFor_of_name own_pn_sR) fun p e s m below meth c s₁ hx D hml hown hnm hret hlk hZ X0 e0 PS y0 N0 KK0 => ?_
  have y3169 := rP 1 1 _ [.ref di] y0 X0 hx D rfl
  obtain ⟨T3170, X3170, e3170, y3170⟩ := gP y3169 X0 hx hZ hown (w319 hw) e0 f0_.f0 D
  exact own_retA X3170 hlk y3170 hx hret rfl rfl (D 4 rfl) (by decide) (by decide) e3170 ⟨rfl, N0, rfl⟩
def Q_rmDb (Z : State) (di : Addr) (kn bo : Addr) (h0 : Heap) (n0 : Nat) (v : Option Value) (h : Heap) (L : List Loc) : Prop := v = some (.ref bo) ∧ Fr n0 L ∧ h = h0
theorem rmDb (l : Launch) (Z : State) (a0 : Array Value) (hw : own_Hw a0 Z) (ws : List Jvm.Cond) (di : Addr) (kn bo : Addr) (h0 : Heap) (n0 : Nat) (Z0 : n0 ≤ h0.size) (f0_ : own_BR Z h0 di (.ref kn) (.ref bo)) : own_Met l Z own_mn41 prog_28_method_7_code 1 (some (.array .double)) ws ⟨0, 0, 0, 0⟩ #[.ref di] h0 (Q_rmDb Z di kn bo h0 n0) := by
  refine own_begS sR n0 [] #[vr di] oT51 (plainFor_of_name own_pn_sR) fun p e s m below meth c s₁ hx D hml hown hnm hret hlk hZ X0 e0 PS y0 N0 KK0 => ?_
  have y3171 := rP 1 1 _ [.ref di] y0 X0 hx D rfl
  obtain ⟨T3172, X3172, e3172, y3172⟩ := gP y3171 X0 hx hZ hown (w321 hw) e0 f0_.f1 D
  exact own_retA X3172 hlk y3172 hx hret rfl rfl (D 4 rfl) (by decide) (by decide) e3172 ⟨rfl, N0, rfl⟩
def Q_rmDr (Z : State) (cm : Addr) (sd kr kc iv i0 al ed x1 t0 : Addr) (k_sd k_kr k_kc k_iv k_i0 k_ed k_t0 : ClassId) (x2 : Addr) (h0 : Heap) (n0 : Nat) (v : Option Value) (h : Heap) (L : List Loc) : Prop := ∃ (di : Addr) (kn : Addr) (bo : Addr) (k_kn : ClassId) (k_bo : ClassId), v = some (.ref di) ∧ Fr n0 L ∧ Keep h0 h [] ∧ n0 ≤ di ∧ h0.size ≤ di ∧ n0 ≤ kn ∧ h0.size ≤ kn ∧ n0 ≤ bo ∧ h0.size ≤ bo ∧ kn ≠ bo ∧ own_BR Z h di (.ref kn) (.ref bo) ∧ Arv Z h kn k_kn .double (1 : Int32) [.double 0] (.double 0) ∧ Arv Z h bo k_bo .double (1 : Int32) [.double 4607182418800017408] (.double 0)
theorem rmDr (l : Launch) (Z : State) (a0 : Array Value) (hw : own_Hw a0 Z) (ws : List Jvm.Cond) (cm : Addr) (sd kr kc iv i0 al ed x1 t0 : Addr) (k_sd k_kr k_kc k_iv k_i0 k_ed k_t0 : ClassId) (x2 : Addr) (h0 : Heap) (n0 : Nat) (Z0 : n0 ≤ h0.size) (f0_ : Exa Z h0 cm sC) (f1_ : Fld Z h0 cm sC "dimension" "I" (.int 1)) (f2_ : Fld Z h0 cm sC "rows" "I" (.int 2)) (f3_ : Fld Z h0 cm sC "dense" "Ljava/util/List;" (.ref al)) (f4_ : Fld Z h0 cm sC "side" "[I" (.ref sd)) (f5_ : Fld Z h0 cm sC "kernelRows" "[I" (.ref kr)) (f6_ : Fld Z h0 cm sC "kernelColumns" "[I" (.ref kc)) (f7_ : Fld Z h0 cm sC "inverse" "[[D" (.ref iv)) (f8_ : Arv Z h0 sd k_sd .int 1 [.int 1] (.int 0)) (f9_ : Arv Z h0 kr k_kr .int 1 [.int 0] (.int 0)) (f10_ : Arv Z h0 kc k_kc .int 1 [.int 1] (.int 0)) (f11_ : Arv Z h0 iv k_iv (.array .double) (1 : Int32) [.ref i0] .null) (f12_ : OvrA Z k_iv .double "[D") (f13_ : Exa Z h0 iv "[[D") (f14_ : Arv Z h0 i0 k_i0 .double (1 : Int32) [.double 4607182418800017408] (.double 0)) (f15_ : Exa Z h0 i0 "[D") (f16_ : own_BA Z h0 al (.ref ed) (.int 2) (.int 2)) (f17_ : Arv Z h0 ed k_ed (.object "java/lang/Object") (10 : Int32) [.ref x1, .ref x2, .null, .null, .null, .null, .null, .null, .null, .null] .null) (f18_ : Ovr Z k_ed "java/lang/Object") (f19_ : Exa Z h0 x1 sD) (f20_ : Fld Z h0 x1 sD "entries" "[D" (.ref t0)) (f21_ : Arv Z h0 t0 k_t0 .double (2 : Int32) [.double 0, .double 4607182418800017408] (.double 0)) (ne_sd_kr : sd ≠ kr) (ne_sd_kc : sd ≠ kc) (ne_kr_kc : kr ≠ kc) (ne_i0_t0 : i0 ≠ t0) : own_Met l Z own_mn42 prog_26_method_19_code 10 (some (.object sR)) ws ⟨3, 4, 6, 41⟩ #[.ref cm, .int 0] h0 (Q_rmDr Z cm sd kr kc iv i0 al ed x1 t0 k_sd k_kr k_kc k_iv k_i0 k_ed k_t0 x2 h0 n0) := by
  refine own_begS sC n0 [] #[vr cm, vi 0, un, un, un, un, un, un, un, un] oT44 (plainFor_of_name own_pn_sC) fun p e s m below meth c s₁ hx D hml hown hnm hret hlk hZ X0 e0 PS y0 N0 KK0 => ?_
  have y3173 := rP 1 1 _ [.ref cm] y0 X0 hx D rfl
  obtain ⟨T3174, X3174, e3174, y3174⟩ := gP y3173 X0 hx hZ hown (w40 hw) e0 f6_ D
  obtain ⟨T3175, h3175, k3175, X3175, e3175, E3175, A3175, st3175⟩ := newP (aty := .double) X3174 hx hZ (w42 hw) e3174 (g := (mkF m 7 #[vr cm, vi 0, vi 1, un, un, un, un, un, un, un] [.int 1])) rfl (D 7 rfl) rfl (by decide) (cap := 1) (by decide) (by decide) (by decide) (by decide)
  obtain ⟨kn, g3175⟩ : ∃ z, z = h0.size := ⟨_, rfl⟩
  rw [← g3175] at A3175 st3175
  have g_kn : n0 ≤ kn := Nat.le_trans (Nat.le_trans Z0 KK0.1) (Nat.le_of_eq g3175.symm)
  have sz_kn : h0.size ≤ kn := Nat.le_trans KK0.1 (Nat.le_of_eq g3175.symm)
  have V_kn : Arv Z h3175 kn k3175 .double (1 : Int32) [.double 0] (.double 0) := (Arv.new A3175 (by decide)).pad (pad_rep [] (.double 0) 1)
  have y3176 := lP y3174 X3174 hx hZ e3174 f10_ D
  have y3177 := rP 2 7 [vr cm, vi 0, vi 1, un, un, un, un, un, un, un] [.int 1] y3176 X3174 hx D rfl
  have y3178 := fun (τ : State) kt => y3177 τ (st3175 τ kt)
  have f3179 := f0_.ext E3175
  have f3180 := f1_.ext E3175
  have K3181 := KK0.ext E3175
  have y3184 := rP 3 12 [vr cm, vi 0, vi 1, vr kn, un, un, un, un, un, un] [.int 0, .ref cm] y3178 X3175 hx D rfl
  obtain ⟨_, T3183, L3183, X3183, ⟨rfl, Nq3183, eq3183⟩, y3183⟩ := cP y3184 X3175 hx hZ hown hml.symm (own_V19 hw) (rmBd0 l Z a0 hw [] cm h3175 n0 (Nat.le_trans Z0 K3181.1) f3179 f3180) 0 f3179 e3175 [.int 0] [] D
  have f3185 := f3_.ext E3175
  have y3186 := rP 2 74 _ [.ref cm] y3183 X3183 hx D rfl
  obtain ⟨T3187, X3187, e3187, y3187⟩ := gP y3186 X3183 hx hZ hown (w35 hw) eq3183 f3185 D
  have y3190 := rP 2 79 _ [.int 0, .ref cm, .ref al] y3187 X3187 hx D rfl
  obtain ⟨_, T3189, L3189, X3189, ⟨rfl, Nq3189, eq3189⟩, y3189⟩ := cP y3190 X3187 hx hZ hown hml.symm (own_V20 hw) (rmDe0 l Z a0 hw [] cm h3175 n0 (Nat.le_trans Z0 K3181.1) f3179 f3180) 1 f3179 e3187 [.int 0] [.ref al] D
  have b3191 := f16_.ext E3175
  have f3192 := f17_.ext E3175
  obtain ⟨_, T3194, L3194, X3194, ⟨rfl, Nq3194, eq3194⟩, y3194⟩ := cF y3189 X3189 hx hZ hown hml.symm (own_V10 hw) (rmGet0 l Z a0 hw [] al ed k_ed x1 x2 h3175 n0 (Nat.le_trans Z0 K3181.1) b3191 f3192 f18_) 0 b3191.e eq3189 [.int 0] [] D
  have f3196 := f19_.ext E3175
  obtain ⟨T3195, X3195, e3195, st3195⟩ := castY X3194 hx hZ hown (w55 hw) eq3194 (Ins.self f3196) (g := (mkF m 87 #[vr cm, vi 0, vi 1, vr kn, un, un, un, un, un, un] [.ref x1])) rfl rfl (D 87 rfl)
  have y3197 := fun (τ : State) kt => y3194 τ (st3195 τ kt)
  have f3198 := f20_.ext E3175
  obtain ⟨T3199, X3199, e3199, y3199⟩ := own_getS y3197 X3195 hx hZ hown (w166 hw) e3195 f3198 rfl rfl (D 90 rfl)
  have f3200 := f5_.ext E3175
  have y3201 := rP 3 98 [vr cm, vi 0, vi 1, vr kn, vr t0, vi 0, un, un, un, un] [] y3199 X3199 hx D rfl
  have y3202 := rP 7 110 [vr cm, vi 0, vi 1, vr kn, vr t0, vi 0, vd 0, .second, vi 0, un] [] y3201 X3199 hx D rfl
  have y3203 := rP 2 113 _ [.ref cm, .int 0] y3202 X3199 hx D rfl
  obtain ⟨T3204, X3204, e3204, y3204⟩ := gP y3203 X3199 hx hZ hown (w38 hw) e3199 f3200 D
  have f3205 := f9_.ext E3175
  have f3206 := f7_.ext E3175
  have y3207 := lP y3204 X3204 hx hZ e3204 f3205 D
  have y3208 := rP 3 123 _ [.ref cm, .double 0] y3207 X3204 hx D rfl
  obtain ⟨T3209, X3209, e3209, y3209⟩ := gP y3208 X3204 hx hZ hown (w106 hw) e3204 f3206 D
  have f3210 := f11_.ext E3175
  have f3211 := f14_.ext E3175
  have y3212 := rP 1 128 _ [.int 0, .ref iv, .double 0] y3209 X3209 hx D rfl
  have y3213 := aP y3212 X3209 hx hZ e3209 f3210 D
  have y3214 := rP 1 131 _ [.int 0, .ref i0, .double 0] y3213 X3209 hx D rfl
  have y3215 := dP y3214 X3209 hx hZ e3209 f3211 D
  have y3216 := rP 2 135 _ [.ref cm, .ref t0, .double 4607182418800017408, .double 0] y3215 X3209 hx D rfl
  obtain ⟨T3217, X3217, e3217, y3217⟩ := gP y3216 X3209 hx hZ hown (w38 hw) e3209 f3200 D
  have f3218 := f21_.ext E3175
  have y3219 := rP 1 140 _ [.int 0, .ref kr, .ref t0, .double 4607182418800017408, .double 0] y3217 X3217 hx D rfl
  have y3220 := iP y3219 X3217 hx hZ e3217 f3205 D
  have y3221 := dP y3220 X3217 hx hZ e3217 f3218 D
  have y3222 := own_dmulP y3221 X3217 hx D (own_ok_no own_okc_0)
  have y3223 := nD y3222 own_q19
  have y3224 := own_daddP y3223 X3217 hx D (own_ok_no own_okc_0)
  have y3225 := nD y3224 own_q35
  have y3226 := rP 2 149 [vr cm, vi 0, vi 1, vr kn, vr t0, vi 0, vd 0, .second, vi 1, un] [] y3225 X3217 hx D rfl
  have y3227 := rP 3 113 _ [.ref cm, .int 1] y3226 X3217 hx D rfl
  obtain ⟨T3228, X3228, e3228, y3228⟩ := gP y3227 X3217 hx hZ hown (w38 hw) e3217 f3200 D
  have y3229 := lP y3228 X3228 hx hZ e3228 f3205 D
  have y3230 := rP 4 157 _ [.double 0, .int 0, .ref kn] y3229 X3228 hx D rfl
  obtain ⟨T3231, h3231, X3231, e3231, W3231, V3231, y3231⟩ := own_dstK y3230 X3228 hx hZ e3228 V_kn rfl rfl (D 157 rfl) ⟨by decide, by decide⟩ 0 rfl (Nat.le_of_ble_eq_true rfl)
  have f3232 := f3179.wr W3231
  have K3233 := K3181.wr W3231 (Or.inr sz_kn)
  have ni3235 : cm ∉ [] := nin0
  have f3234 := f2_.keep K3233 ni3235
  have y3238 := rP 7 166 [vr cm, vi 0, vi 1, vr kn, vr t0, vi 1, vd 0, .second, vi 1, un] [.ref kn, .ref cm] y3231 X3231 hx D rfl
  obtain ⟨_, T3237, L3237, X3237, ⟨ca, k_ca, rfl, Nq3237, Kq3237, g3236_ca, z3236_ca, p3236_0⟩, y3237⟩ := cP y3238 X3231 hx hZ hown hml.symm (own_V14 hw) (rmCb0 l Z a0 hw [] cm kn k3175 h3231 n0 (Nat.le_trans Z0 K3233.1) f3232 f3234 V3231) 0 f3232 e3231 [.ref kn] [] D
  have sz_ca := Nat.le_trans K3233.1 z3236_ca
  have K3239 := K3233.trans Kq3237 (all0)
  have f3240 := f1_.keep K3239 ni3235
  have y3241 := rP 2 172 [vr cm, vi 0, vi 1, vr kn, vr t0, vr ca, vd 0, .second, vi 1, un] [.ref cm] y3237 X3237 hx D rfl
  obtain ⟨T3242, X3242, e3242, y3242⟩ := gP y3241 X3237 hx hZ hown (w45 hw) rfl f3240 D
  obtain ⟨T3243, h3243, k3243, X3243, e3243, E3243, A3243, st3243⟩ := newP (aty := .double) X3242 hx hZ (w42 hw) e3242 (g := (mkF m 175 #[vr cm, vi 0, vi 1, vr kn, vr t0, vr ca, vd 0, .second, vi 1, un] [.int 1])) rfl (D 175 rfl) rfl (by decide) (cap := 1) (by decide) (by decide) (by decide) (by decide)
  obtain ⟨bo, g3243⟩ : ∃ z, z = T3237.heap.size := ⟨_, rfl⟩
  rw [← g3243] at A3243 st3243
  have g_bo : n0 ≤ bo := Nat.le_trans (Nat.le_trans Z0 K3239.1) (Nat.le_of_eq g3243.symm)
  have sz_bo : h0.size ≤ bo := Nat.le_trans K3239.1 (Nat.le_of_eq g3243.symm)
  have V_bo : Arv Z h3243 bo k3243 .double (1 : Int32) [.double 0] (.double 0) := (Arv.new A3243 (by decide)).pad (pad_rep [] (.double 0) 1)
  have y3244 := fun (τ : State) kt => y3242 τ (st3243 τ kt)
  have f3245 := f3240.ext E3243
  have y3246 := fun (τ : State) kt => y3244 τ (XS.astore X3243.here hx rfl (D 177 rfl) rfl rfl (l' := #[vr cm, vi 0, vi 1, vr kn, vr t0, vr ca, vr bo, un, vi 1, un]) rfl kt)
  have y3247 := rP 4 185 [vr cm, vi 0, vi 1, vr kn, vr t0, vr ca, vr bo, vi 0, vi 1, un] [.ref cm, .int 0] y3246 X3243 hx D rfl
  obtain ⟨T3248, X3248, e3248, y3248⟩ := gP y3247 X3243 hx hZ hown (w45 hw) e3243 f3245 D
  have K3249 := K3239.ext E3243
  have f3250 := f4_.keep K3249 ni3235
  have y3251 := rP 2 192 _ [.ref cm] y3248 X3248 hx D rfl
  obtain ⟨T3252, X3252, e3252, y3252⟩ := gP y3251 X3248 hx hZ hown (w51 hw) e3248 f3250 D
  have ni3254 : sd ∉ [] := nin0
  have f3253 := f8_.keep K3249 ni3254
  have ni3256 : t0 ∉ [] := nin0
  have f3255 := f21_.keep K3249 ni3256
  have y3257 := rP 1 197 _ [.int 0, .ref sd] y3252 X3252 hx D rfl
  have y3258 := iP y3257 X3252 hx hZ e3252 f3253 D
  have y3259 := rP 7 216 _ [.int 1, .ref t0] y3258 X3252 hx D rfl
  have y3260 := dP y3259 X3252 hx hZ e3252 f3255 D
  have y3261 := rP 4 224 [vr cm, vi 0, vi 1, vr kn, vr t0, vr ca, vr bo, vi 0, vd 4607182418800017408, .second] [.ref cm, .int 0, .ref bo] y3260 X3252 hx D rfl
  obtain ⟨T3262, X3262, e3262, y3262⟩ := gP y3261 X3252 hx hZ hown (w51 hw) e3252 f3250 D
  have f3263 := p3236_0.ext E3243
  have y3264 := rP 1 229 _ [.int 0, .ref sd, .int 0, .ref bo] y3262 X3262 hx D rfl
  have y3265 := iP y3264 X3262 hx hZ e3262 f3253 D
  have y3266 := rP 1 231 _ [(.double (FP.i2d (1 : Int32))), .int 0, .ref bo] y3265 X3262 hx D rfl
  have y3267 := nD y3266 own_q1
  have y3268 := rP 5 239 _ [.int 1, .ref ca, .double 4607182418800017408, .double 4607182418800017408, .int 0, .ref bo] y3267 X3262 hx D rfl
  have y3269 := dP y3268 X3262 hx hZ e3262 f3263 D
  have y3270 := own_dsubP y3269 X3262 hx D (own_ok_no own_okc_4607182418800017408)
  have y3271 := nD y3270 own_q20
  have y3272 := own_dmulP y3271 X3262 hx D (own_ok_no own_okc_4607182418800017408)
  have y3273 := nD y3272 own_q36
  obtain ⟨T3274, h3274, X3274, e3274, W3274, V3274, y3274⟩ := own_dstK y3273 X3262 hx hZ e3262 V_bo rfl rfl (D 242 rfl) ⟨by decide, by decide⟩ 0 rfl (Nat.le_of_ble_eq_true rfl)
  have ne3275 := own_ltn f0_.lt sz_bo
  have f3276 := f3245.other W3274 (Or.inl ne3275)
  have y3277 := rP 4 185 [vr cm, vi 0, vi 1, vr kn, vr t0, vr ca, vr bo, vi 1, vd 4607182418800017408, .second] [.ref cm, .int 1] y3274 X3274 hx D rfl
  obtain ⟨T3278, X3278, e3278, y3278⟩ := gP y3277 X3274 hx hZ hown (w45 hw) e3274 f3276 D
  obtain ⟨T3279, h3279, X3279, e3279, E3279, A3279, D3279, -, st3279⟩ := newO X3278 hx hZ hown (w307 hw) (w308 hw) (w309 hw) e3278 (g := (mkF m 249 #[vr cm, vi 0, vi 1, vr kn, vr t0, vr ca, vr bo, vi 1, vd 4607182418800017408, .second] [])) rfl (D 249 rfl) (by decide) (by decide)
  obtain ⟨di, g3279⟩ : ∃ z, z = h3274.size := ⟨_, rfl⟩
  rw [← g3279] at A3279 D3279 st3279
  have K3280 := K3249.wr W3274 (Or.inr sz_bo)
  have g_di : n0 ≤ di := Nat.le_trans (Nat.le_trans Z0 K3280.1) (Nat.le_of_eq g3279.symm)
  have sz_di : h0.size ≤ di := Nat.le_trans K3280.1 (Nat.le_of_eq g3279.symm)
  have F_kernel_di : Fld Z h3279 di sR "kernel" "[D" .null := D3279 (Or.inr (w320 hw)) (ty := (.array .double)) (by decide)
  have F_bounds_di : Fld Z h3279 di sR "bounds" "[D" .null := D3279 (Or.inr (w322 hw)) (ty := (.array .double)) (by decide)
  have y3281 := rP 1 249 _ [] y3278 X3278 hx D rfl
  have y3282 := fun (τ : State) kt => y3281 τ (st3279 τ kt)
  have b3283 : own_BR Z h3279 di .null .null := ⟨A3279, F_kernel_di, F_bounds_di⟩
  have K3284 := K3280.ext E3279
  obtain ⟨_, T3286, L3286, X3286, ⟨rfl, Nq3286, Kq3286, p3285_0⟩, st3286⟩ := own_specR (y := own_mn38) (b := di) X3279 hx hZ rfl hown (w310 hw) (w311 hw) (by decide) (rmDi l Z a0 hw [] di kn bo h3279 n0 (Nat.le_trans Z0 K3284.1) b3283 g_di) (w312 hw) (w309 hw) 1 (by decide) (by decide) e3279 (mkF m 256 #[vr cm, vi 0, vi 1, vr kn, vr t0, vr ca, vr bo, vi 1, vd 4607182418800017408, .second] [.ref bo, .ref kn, .ref di, .ref di]) rfl hml.symm [.ref kn, .ref bo] [.ref di] rfl (lenOf own_pd___D_D_V rfl) rfl (Nat.le_refl _) (D 256 rfl) (by decide) (by decide)
  have y3287 := rP 3 256 _ [.ref bo, .ref kn, .ref di, .ref di] y3282 X3279 hx D rfl
  have y3288 := fun (τ : State) kt => y3287 τ (st3286 τ kt)
  have ne3289 := own_ltn (own_up (own_up V_kn.lt (Keep.of_wr W3231).1) Kq3237.1) (Nat.le_of_eq g3243.symm)
  have ne3290 := own_ltn (own_up (own_up (own_up (own_up V_kn.lt (Keep.of_wr W3231).1) Kq3237.1) E3243.1) (Keep.of_wr W3274).1) (Nat.le_of_eq g3279.symm)
  have f3291 := ((((V3231.keep Kq3237 nin0).ext E3243).other W3274 ne3289).ext E3279).keep Kq3286 (ninS ne3290 nin0)
  have ne3292 := own_ltn (own_up V_bo.lt (Keep.of_wr W3274).1) (Nat.le_of_eq g3279.symm)
  have f3293 := (V3274.ext E3279).keep Kq3286 (ninS ne3292 nin0)
  have K3294 := K3284.trans Kq3286 (allS (Or.inr sz_di) (all0))
  exact own_retA X3286 hlk y3288 hx hret rfl rfl (D 259 rfl) (by decide) (by decide) rfl ⟨di, kn, bo, k3175, k3243, rfl, (Fr.app (Fr.snoc X3274 (Fr.app (Fr.snoc X3231 (Fr.app (Fr.app (Fr.app N0 Nq3183) Nq3189) Nq3194) g_kn) Nq3237) g_bo) Nq3286), K3294, g_di, sz_di, g_kn, sz_kn, g_bo, sz_bo, ne3289, p3285_0, f3291, f3293⟩
def Q_rmVa (Z : State) (cm : Addr) (kc bvs : Addr) (k_kc k_bvs : ClassId) (bv : UInt64) (h0 : Heap) (n0 : Nat) (v : Option Value) (h : Heap) (L : List Loc) : Prop := v = some (.double bv) ∧ Fr n0 L ∧ h = h0
theorem rmVa (l : Launch) (Z : State) (a0 : Array Value) (hw : own_Hw a0 Z) (ws : List Jvm.Cond) (cm : Addr) (kc bvs : Addr) (k_kc k_bvs : ClassId) (bv : UInt64) (h0 : Heap) (n0 : Nat) (Z0 : n0 ≤ h0.size) (f0_ : Exa Z h0 cm sC) (f1_ : Fld Z h0 cm sC "kernelColumns" "[I" (.ref kc)) (f2_ : Fld Z h0 cm sC "boundValues" "[D" (.ref bvs)) (f3_ : Arv Z h0 kc k_kc .int 1 [.int 1] (.int 0)) (f4_ : Arv Z h0 bvs k_bvs .double (1 : Int32) [.double bv] (.double 0)) : own_Met l Z own_mn43 prog_26_method_15_code 3 (some .double) ws ⟨0, 0, 0, 0⟩ #[.ref cm, .int 1] h0 (Q_rmVa Z cm kc bvs k_kc k_bvs bv h0 n0) := by
  refine own_begS sC n0 [] #[vr cm, vi 1, un] oT48 (plainFor_of_name own_pn_sC) fun p e s m below meth c s₁ hx D hml hown hnm hret hlk hZ X0 e0 PS y0 N0 KK0 => ?_
  have y3295 := rP 1 1 _ [.ref cm] y0 X0 hx D rfl
  obtain ⟨T3296, X3296, e3296, y3296⟩ := gP y3295 X0 hx hZ hown (w40 hw) e0 f1_ D
  have y3297 := lP y3296 X3296 hx hZ e3296 f3_ D
  have y3298 := rP 5 21 [vr cm, vi 1, vi 1] [.ref cm] y3297 X3296 hx D rfl
  obtain ⟨T3299, X3299, e3299, y3299⟩ := gP y3298 X3296 hx hZ hown (w53 hw) e3296 f2_ D
  have y3300 := rP 3 27 _ [.int 0, .ref bvs] y3299 X3299 hx D rfl
  have y3301 := dP y3300 X3299 hx hZ e3299 f4_ D
  exact own_retDb X3299 hlk y3301 hx hret (D 28 rfl) (by decide) (by decide) e3299 ⟨rfl, N0, rfl⟩
def Q_rmTi (Z : State) (cm : Addr) (kr kc iv i0 al ed x2 t1 : Addr) (k_kr k_kc k_iv k_i0 k_ed k_t1 : ClassId) (xe : UInt64) (x1 : Addr) (h0 : Heap) (n0 : Nat) (v : Option Value) (h : Heap) (L : List Loc) : Prop := ∃ (px : UInt64) (pr : Addr) (k_pr : ClassId), v = some (.ref pr) ∧ Fr n0 L ∧ Keep h0 h [] ∧ n0 ≤ pr ∧ h0.size ≤ pr ∧ Arv Z h pr k_pr .double (1 : Int32) [.double px] (.double 0) ∧ own_ok 1 px
theorem rmTi (l : Launch) (Z : State) (a0 : Array Value) (hw : own_Hw a0 Z) (ws : List Jvm.Cond) (cm : Addr) (kr kc iv i0 al ed x2 t1 : Addr) (k_kr k_kc k_iv k_i0 k_ed k_t1 : ClassId) (xe : UInt64) (x1 : Addr) (h0 : Heap) (n0 : Nat) (Z0 : n0 ≤ h0.size) (f0_ : Exa Z h0 cm sC) (f1_ : Fld Z h0 cm sC "dense" "Ljava/util/List;" (.ref al)) (f2_ : Fld Z h0 cm sC "kernelRows" "[I" (.ref kr)) (f3_ : Fld Z h0 cm sC "kernelColumns" "[I" (.ref kc)) (f4_ : Fld Z h0 cm sC "inverse" "[[D" (.ref iv)) (f5_ : Arv Z h0 kr k_kr .int 1 [.int 0] (.int 0)) (f6_ : Arv Z h0 kc k_kc .int 1 [.int 1] (.int 0)) (f7_ : Arv Z h0 iv k_iv (.array .double) (1 : Int32) [.ref i0] .null) (f8_ : OvrA Z k_iv .double "[D") (f9_ : Exa Z h0 iv "[[D") (f10_ : Arv Z h0 i0 k_i0 .double (1 : Int32) [.double 4607182418800017408] (.double 0)) (f11_ : Exa Z h0 i0 "[D") (f12_ : own_BA Z h0 al (.ref ed) (.int 2) (.int 2)) (f13_ : Arv Z h0 ed k_ed (.object "java/lang/Object") (10 : Int32) [.ref x1, .ref x2, .null, .null, .null, .null, .null, .null, .null, .null] .null) (f14_ : Ovr Z k_ed "java/lang/Object") (f15_ : Exa Z h0 x2 sD) (f16_ : Fld Z h0 x2 sD "entries" "[D" (.ref t1)) (f17_ : Arv Z h0 t1 k_t1 .double (2 : Int32) [.double 4607182418800017408, .double xe] (.double 0)) (ne_kr_kc : kr ≠ kc) (ne_i0_t1 : i0 ≠ t1) (ok_xe : own_ok 1 xe) : own_Met l Z own_mn44 prog_26_method_27_code 8 (some (.array .double)) ws ⟨3, 1, 1, 41⟩ #[.ref cm, .int 1] h0 (Q_rmTi Z cm kr kc iv i0 al ed x2 t1 k_kr k_kc k_iv k_i0 k_ed k_t1 xe x1 h0 n0) := by
  refine own_begS sC n0 [] #[vr cm, vi 1, un, un, un, un, un, un] oT53 (plainFor_of_name own_pn_sC) fun p e s m below meth c s₁ hx D hml hown hnm hret hlk hZ X0 e0 PS y0 N0 KK0 => ?_
  have y3302 := rP 1 1 _ [.ref cm] y0 X0 hx D rfl
  obtain ⟨T3303, X3303, e3303, y3303⟩ := gP y3302 X0 hx hZ hown (w38 hw) e0 f2_ D
  obtain ⟨T3304, h3304, k3304, X3304, e3304, E3304, A3304, st3304⟩ := newP (aty := .double) X3303 hx hZ (w42 hw) e3303 (g := (mkF m 7 #[vr cm, vi 1, vi 1, un, un, un, un, un] [.int 1])) rfl (D 7 rfl) rfl (by decide) (cap := 1) (by decide) (by decide) (by decide) (by decide)
  obtain ⟨pr, g3304⟩ : ∃ z, z = h0.size := ⟨_, rfl⟩
  rw [← g3304] at A3304 st3304
  have g_pr : n0 ≤ pr := Nat.le_trans (Nat.le_trans Z0 KK0.1) (Nat.le_of_eq g3304.symm)
  have sz_pr : h0.size ≤ pr := Nat.le_trans KK0.1 (Nat.le_of_eq g3304.symm)
  have V_pr : Arv Z h3304 pr k3304 .double (1 : Int32) [.double 0] (.double 0) := (Arv.new A3304 (by decide)).pad (pad_rep [] (.double 0) 1)
  have y3305 := lP y3303 X3303 hx hZ e3303 f5_ D
  have y3306 := rP 2 7 [vr cm, vi 1, vi 1, un, un, un, un, un] [.int 1] y3305 X3303 hx D rfl
  have y3307 := fun (τ : State) kt => y3306 τ (st3304 τ kt)
  have f3308 := f1_.ext E3304
  have y3309 := rP 3 13 [vr cm, vi 1, vi 1, vr pr, vi 0, un, un, un] [] y3307 X3304 hx D rfl
  have y3310 := rP 4 20 _ [.ref cm] y3309 X3304 hx D rfl
  obtain ⟨T3311, X3311, e3311, y3311⟩ := gP y3310 X3304 hx hZ hown (w35 hw) e3304 f3308 D
  have f3312 := f3_.ext E3304
  have y3313 := rP 1 24 _ [.ref cm, .ref al] y3311 X3311 hx D rfl
  obtain ⟨T3314, X3314, e3314, y3314⟩ := gP y3313 X3311 hx hZ hown (w40 hw) e3311 f3312 D
  have f3315 := f6_.ext E3304
  have b3316 := f12_.ext E3304
  have f3317 := f13_.ext E3304
  have K3318 := KK0.ext E3304
  have y3321 := rP 1 29 _ [.int 0, .ref kc, .ref al] y3314 X3314 hx D rfl
  have y3322 := iP y3321 X3314 hx hZ e3314 f3315 D
  obtain ⟨_, T3320, L3320, X3320, ⟨rfl, Nq3320, eq3320⟩, y3320⟩ := cF y3322 X3314 hx hZ hown hml.symm (own_V10 hw) (rmGet1 l Z a0 hw [] al ed k_ed x1 x2 h3304 n0 (Nat.le_trans Z0 K3318.1) b3316 f3317 f14_) 0 b3316.e e3314 [.int 1] [] D
  have f3324 := f15_.ext E3304
  obtain ⟨T3323, X3323, e3323, st3323⟩ := castY X3320 hx hZ hown (w55 hw) eq3320 (Ins.self f3324) (g := (mkF m 35 #[vr cm, vi 1, vi 1, vr pr, vi 0, un, un, un] [.ref x2])) rfl rfl (D 35 rfl)
  have y3325 := fun (τ : State) kt => y3320 τ (st3323 τ kt)
  have f3326 := f16_.ext E3304
  obtain ⟨T3327, X3327, e3327, y3327⟩ := own_getS y3325 X3323 hx hZ hown (w166 hw) e3323 f3326 rfl rfl (D 38 rfl)
  have f3328 := f17_.ext E3304
  have y3329 := rP 1 42 _ [.int 1, .ref t1] y3327 X3327 hx D rfl
  have y3330 := dP y3329 X3327 hx hZ e3327 f3328 D
  have y3331 := rP 4 49 [vr cm, vi 1, vi 1, vr pr, vi 0, vd xe, .second, un] [(.int (cmpValue (FP.dcmp xe (0 : UInt64)) .l))] y3330 X3327 hx D rfl
  by_cases q : (cmpValue (FP.dcmp xe (0 : UInt64)) .l) = (0 : Int32)
  · skip
    have y3332 := fun (τ : State) kt => y3331 τ (XS.ifYes X3327.here hx rfl (pc0 := 49) (pc' := 87) rfl (D 49 rfl) rfl ((if0 _ _).trans (teq q).1) (by decide) (by decide) kt)
    have y3333 := rP 6 94 [vr cm, vi 1, vi 1, vr pr, vi 1, vd xe, .second, un] [.ref pr] y3332 X3327 hx D rfl
    exact own_retA X3327 hlk y3333 hx hret rfl rfl (D 94 rfl) (by decide) (by decide) e3327 ⟨(0 : UInt64), pr, k3304, rfl, (Fr.app N0 Nq3320), K3318, g_pr, sz_pr, V_pr, (own_ok_mono own_okc_0 (by decide))⟩
  · skip
    have f3334 := f4_.ext E3304
    have y3335 := fun (τ : State) kt => y3331 τ (XS.ifNo X3327.here hx rfl (D 49 rfl) rfl ((if0 _ _).trans (feq q).1) kt)
    have y3336 := rP 7 64 [vr cm, vi 1, vi 1, vr pr, vi 0, vd xe, .second, vi 0] [.int 0, .ref pr] y3335 X3327 hx D rfl
    have y3337 := fun (τ : State) kt => y3336 τ (XT.dup2 X3327.here hx rfl (D 64 rfl) rfl rfl rfl kt)
    have y3338 := dP y3337 X3327 hx hZ e3327 V_pr D
    have y3339 := rP 2 69 _ [.ref cm, .double xe, .double 0, .int 0, .ref pr] y3338 X3327 hx D rfl
    obtain ⟨T3340, X3340, e3340, y3340⟩ := gP y3339 X3327 hx hZ hown (w106 hw) e3327 f3334 D
    have f3341 := f7_.ext E3304
    have f3342 := f10_.ext E3304
    have y3343 := rP 1 74 _ [.int 0, .ref iv, .double xe, .double 0, .int 0, .ref pr] y3340 X3340 hx D rfl
    have y3344 := aP y3343 X3340 hx hZ e3340 f3341 D
    have y3345 := rP 1 77 _ [.int 0, .ref i0, .double xe, .double 0, .int 0, .ref pr] y3344 X3340 hx D rfl
    have y3346 := dP y3345 X3340 hx hZ e3340 f3342 D
    have y3347 := own_dmulP y3346 X3340 hx D (own_ok_no (own_ok_mul ok_xe own_okc_4607182418800017408 (by decide)))
    have y3348 := own_daddP y3347 X3340 hx D (own_ok_no (own_ok_add own_okc_0 (own_ok_mul ok_xe own_okc_4607182418800017408 (by decide)) (by decide)))
    obtain ⟨T3349, h3349, X3349, e3349, W3349, V3349, y3349⟩ := own_dstK y3348 X3340 hx hZ e3340 V_pr rfl rfl (D 80 rfl) ⟨by decide, by decide⟩ 0 rfl (Nat.le_of_ble_eq_true rfl)
    have K3350 := K3318.wr W3349 (Or.inr sz_pr)
    have y3351 := rP 6 90 [vr cm, vi 1, vi 1, vr pr, vi 1, vd xe, .second, vi 1] [] y3349 X3349 hx D rfl
    have y3352 := rP 5 94 _ [.ref pr] y3351 X3349 hx D rfl
    exact own_retA X3349 hlk y3352 hx hret rfl rfl (D 94 rfl) (by decide) (by decide) e3349 ⟨(FP.dadd (0 : UInt64) (FP.dmul xe (4607182418800017408 : UInt64))), pr, k3304, rfl, (Fr.snoc X3349 (Fr.app N0 Nq3320) g_pr), K3350, g_pr, sz_pr, V3349, (own_ok_mono (own_ok_add own_okc_0 (own_ok_mul ok_xe own_okc_4607182418800017408 (by decide)) (by decide)) (by decide))⟩
def Q_rmAp0 (Z : State) (ar : Addr) (k_ar : ClassId)  (h0 : Heap) (n0 : Nat) (v : Option Value) (h : Heap) (L : List Loc) : Prop := ∃ (an : Addr) (k_an : ClassId), v = some (.ref an) ∧ Fr n0 L ∧ Keep h0 h [] ∧ n0 ≤ an ∧ h0.size ≤ an ∧ Arv Z h an k_an .int 2 [.int 0, .int 1] (.int 0)
theorem rmAp0 (l : Launch) (Z : State) (a0 : Array Value) (hw : own_Hw a0 Z) (ws : List Jvm.Cond) (ar : Addr) (k_ar : ClassId)  (h0 : Heap) (n0 : Nat) (Z0 : n0 ≤ h0.size) (f0_ : Arv Z h0 ar k_ar .int 1 [.int 0] (.int 0)) : own_Met l Z own_mn45 prog_26_method_31_code 3 (some (.array .int)) ws ⟨1, 1, 2, 26⟩ #[.ref ar, .int 1] h0 (Q_rmAp0 Z ar k_ar h0 n0) := by
  refine own_begS sC n0 [] #[vr ar, vi 1, un] oT54 (plainFor_of_name own_pn_sC) fun p e s m below meth c s₁ hx D hml hown hnm hret hlk hZ X0 e0 PS y0 N0 KK0 => ?_
  obtain ⟨T3353, h3353, k3353, X3353, e3353, E3353, A3353, st3353⟩ := newP (aty := .int) X0 hx hZ (w37 hw) e0 (g := (mkF m 4 #[vr ar, vi 1, un] [.int 2])) rfl (D 4 rfl) rfl (by decide) (cap := 2) (by decide) (by decide) (by decide) (by decide)
  obtain ⟨an, g3353⟩ : ∃ z, z = h0.size := ⟨_, rfl⟩
  rw [← g3353] at A3353 st3353
  have g_an : n0 ≤ an := Nat.le_trans (Nat.le_trans Z0 KK0.1) (Nat.le_of_eq g3353.symm)
  have sz_an : h0.size ≤ an := Nat.le_trans KK0.1 (Nat.le_of_eq g3353.symm)
  have V_an : Arv Z h3353 an k3353 .int 2 [.int 0, .int 0] (.int 0) := (Arv.new A3353 (by decide)).pad (pad_rep [] (.int 0) 2)
  have y3354 := rP 1 1 _ [.ref ar] y0 X0 hx D rfl
  have y3355 := lP y3354 X0 hx hZ e0 f0_ D
  have y3356 := rP 2 4 _ [.int 2] y3355 X0 hx D rfl
  have y3357 := fun (τ : State) kt => y3356 τ (st3353 τ kt)
  have f3358 := f0_.ext E3353
  have y3359 := rP 6 12 [vr ar, vi 1, vr an] [.ref ar, .int 0, .ref an, .int 0, .ref ar] y3357 X3353 hx D rfl
  have y3360 := lP y3359 X3353 hx hZ e3353 f3358 D
  obtain ⟨T3361, h3361, L3361, X3361, e3361, N3361, Kq3361, V3361, st3361⟩ := cpA (sp := (0 : Int32)) (dp := (0 : Int32)) (nn := (1 : Int32)) X3353 hx hZ hown (w359 hw) (w362 hw) (w360 hw) (w361 hw) e3353 f3358 V_an (Or.inl ⟨rfl, rfl⟩) (by decide) (by decide) (by decide) (by decide) (by decide) rfl (by decide) N0 g_an (g := (mkF m 13 #[vr ar, vi 1, vr an] [.int 1, .int 0, .ref an, .int 0, .ref ar])) rfl hml.symm (rest := []) rfl (D 13 rfl) (by decide) (W := 0) (by show 2 * 0 + _ ≤ _; exact Nat.le_of_eq rfl) (by decide)
  have Va3361 : Arv Z h3361 an k3353 .int 2 [.int 0, .int 0] (.int 0) := V3361
  have y3362 := fun (τ : State) kt => y3360 τ (st3361 τ kt)
  have ne3363 := own_ltn f0_.lt sz_an
  have f3364 := f3358.keep Kq3361 (ninS ne3363 nin0)
  have y3365 := rP 2 18 _ [.ref ar, .ref an] y3362 X3361 hx D rfl
  have y3366 := lP y3365 X3361 hx hZ e3361 f3364 D
  have y3367 := rP 1 20 _ [.int 1, .int 1, .ref an] y3366 X3361 hx D rfl
  obtain ⟨T3368, h3368, X3368, e3368, W3368, V3368, y3368⟩ := own_istK y3367 X3361 hx hZ e3361 Va3361 rfl rfl (D 20 rfl) ⟨by decide, by decide⟩ 1 rfl (Nat.le_of_ble_eq_true rfl)
  have K3369 := ((KK0.ext E3353).trans Kq3361 (allS (Or.inr sz_an) (all0))).wr W3368 (Or.inr sz_an)
  have y3370 := rP 1 22 _ [.ref an] y3368 X3368 hx D rfl
  exact own_retA X3368 hlk y3370 hx hret rfl rfl (D 22 rfl) (by decide) (by decide) e3368 ⟨an, k3353, rfl, (Fr.snoc X3368 N3361 g_an), K3369, g_an, sz_an, V3368⟩
def Q_rmAp1 (Z : State) (ar : Addr) (k_ar : ClassId)  (h0 : Heap) (n0 : Nat) (v : Option Value) (h : Heap) (L : List Loc) : Prop := ∃ (an : Addr) (k_an : ClassId), v = some (.ref an) ∧ Fr n0 L ∧ Keep h0 h [] ∧ n0 ≤ an ∧ h0.size ≤ an ∧ Arv Z h an k_an .int 2 [.int 1, .int 0] (.int 0)
theorem rmAp1 (l : Launch) (Z : State) (a0 : Array Value) (hw : own_Hw a0 Z) (ws : List Jvm.Cond) (ar : Addr) (k_ar : ClassId)  (h0 : Heap) (n0 : Nat) (Z0 : n0 ≤ h0.size) (f0_ : Arv Z h0 ar k_ar .int 1 [.int 1] (.int 0)) : own_Met l Z own_mn45 prog_26_method_31_code 3 (some (.array .int)) ws ⟨1, 1, 2, 26⟩ #[.ref ar, .int 0] h0 (Q_rmAp1 Z ar k_ar h0 n0) := by
  refine own_begS sC n0 [] #[vr ar, vi 0, un] oT54 (plainFor_of_name own_pn_sC) fun p e s m below meth c s₁ hx D hml hown hnm hret hlk hZ X0 e0 PS y0 N0 KK0 => ?_
  obtain ⟨T3371, h3371, k3371, X3371, e3371, E3371, A3371, st3371⟩ := newP (aty := .int) X0 hx hZ (w37 hw) e0 (g := (mkF m 4 #[vr ar, vi 0, un] [.int 2])) rfl (D 4 rfl) rfl (by decide) (cap := 2) (by decide) (by decide) (by decide) (by decide)
  obtain ⟨an, g3371⟩ : ∃ z, z = h0.size := ⟨_, rfl⟩
  rw [← g3371] at A3371 st3371
  have g_an : n0 ≤ an := Nat.le_trans (Nat.le_trans Z0 KK0.1) (Nat.le_of_eq g3371.symm)
  have sz_an : h0.size ≤ an := Nat.le_trans KK0.1 (Nat.le_of_eq g3371.symm)
  have V_an : Arv Z h3371 an k3371 .int 2 [.int 0, .int 0] (.int 0) := (Arv.new A3371 (by decide)).pad (pad_rep [] (.int 0) 2)
  have y3372 := rP 1 1 _ [.ref ar] y0 X0 hx D rfl
  have y3373 := lP y3372 X0 hx hZ e0 f0_ D
  have y3374 := rP 2 4 _ [.int 2] y3373 X0 hx D rfl
  have y3375 := fun (τ : State) kt => y3374 τ (st3371 τ kt)
  have f3376 := f0_.ext E3371
  have y3377 := rP 6 12 [vr ar, vi 0, vr an] [.ref ar, .int 0, .ref an, .int 0, .ref ar] y3375 X3371 hx D rfl
  have y3378 := lP y3377 X3371 hx hZ e3371 f3376 D
  obtain ⟨T3379, h3379, L3379, X3379, e3379, N3379, Kq3379, V3379, st3379⟩ := cpA (sp := (0 : Int32)) (dp := (0 : Int32)) (nn := (1 : Int32)) X3371 hx hZ hown (w359 hw) (w362 hw) (w360 hw) (w361 hw) e3371 f3376 V_an (Or.inl ⟨rfl, rfl⟩) (by decide) (by decide) (by decide) (by decide) (by decide) rfl (by decide) N0 g_an (g := (mkF m 13 #[vr ar, vi 0, vr an] [.int 1, .int 0, .ref an, .int 0, .ref ar])) rfl hml.symm (rest := []) rfl (D 13 rfl) (by decide) (W := 0) (by show 2 * 0 + _ ≤ _; exact Nat.le_of_eq rfl) (by decide)
  have Va3379 : Arv Z h3379 an k3371 .int 2 [.int 1, .int 0] (.int 0) := V3379
  have y3380 := fun (τ : State) kt => y3378 τ (st3379 τ kt)
  have ne3381 := own_ltn f0_.lt sz_an
  have f3382 := f3376.keep Kq3379 (ninS ne3381 nin0)
  have y3383 := rP 2 18 _ [.ref ar, .ref an] y3380 X3379 hx D rfl
  have y3384 := lP y3383 X3379 hx hZ e3379 f3382 D
  have y3385 := rP 1 20 _ [.int 0, .int 1, .ref an] y3384 X3379 hx D rfl
  obtain ⟨T3386, h3386, X3386, e3386, W3386, V3386, y3386⟩ := own_istK y3385 X3379 hx hZ e3379 Va3379 rfl rfl (D 20 rfl) ⟨by decide, by decide⟩ 1 rfl (Nat.le_of_ble_eq_true rfl)
  have K3387 := ((KK0.ext E3371).trans Kq3379 (allS (Or.inr sz_an) (all0))).wr W3386 (Or.inr sz_an)
  have y3388 := rP 1 22 _ [.ref an] y3386 X3386 hx D rfl
  exact own_retA X3386 hlk y3388 hx hret rfl rfl (D 22 rfl) (by decide) (by decide) e3386 ⟨an, k3371, rfl, (Fr.snoc X3386 N3379 g_an), K3387, g_an, sz_an, V3386⟩
def Q_rmGk (Z : State) (cm : Addr) (kn : Addr) (st : UInt64) (kr kc iv i0 kv al ed x1 x2 t1 : Addr) (k_kr k_kc k_iv k_i0 k_kv k_ed k_t1 k_kn : ClassId) (uu cv0 p0 z0 xe : UInt64) (sd bvs du t0 : Addr) (h0 : Heap) (n0 : Nat) (v : Option Value) (h : Heap) (L : List Loc) : Prop := ∃ (gx : UInt64) (krn : Addr) (kcn : Addr) (gr : Addr) (g0 : Addr) (g1 : Addr) (vl : Addr) (k_krn : ClassId) (k_kcn : ClassId) (k_gr : ClassId) (k_g0 : ClassId) (k_g1 : ClassId) (k_vl : ClassId), v = none ∧ Fr n0 L ∧ Keep h0 h [cm, x1] ∧ n0 ≤ krn ∧ h0.size ≤ krn ∧ n0 ≤ kcn ∧ h0.size ≤ kcn ∧ n0 ≤ gr ∧ h0.size ≤ gr ∧ n0 ≤ g0 ∧ h0.size ≤ g0 ∧ n0 ≤ g1 ∧ h0.size ≤ g1 ∧ n0 ≤ vl ∧ h0.size ≤ vl ∧ krn ≠ kcn ∧ g0 ≠ g1 ∧ g0 ≠ vl ∧ g1 ≠ vl ∧ own_BC Z h cm (.int 1) (.int 2) (.int 2000) (.ref al) (.ref sd) (.ref bvs) (.ref krn) (.ref kcn) (.ref gr) (.ref vl) (.double uu) (.ref du) (.int 0) ∧ Arv Z h krn k_krn .int 2 [.int 0, .int 1] (.int 0) ∧ Arv Z h kcn k_kcn .int 2 [.int 1, .int 0] (.int 0) ∧ Arv Z h gr k_gr (.array .double) (2 : Int32) [.ref g0, .ref g1] .null ∧ OvrA Z k_gr .double "[D" ∧ Exa Z h gr "[[D" ∧ Arv Z h g0 k_g0 .double (2 : Int32) [.double 4607182418800017408, .double 9223372036854775808] (.double 0) ∧ Exa Z h g0 "[D" ∧ Arv Z h g1 k_g1 .double (2 : Int32) [.double gx, .double 4607182418800017408] (.double 0) ∧ Exa Z h g1 "[D" ∧ Arv Z h vl k_vl .double (2 : Int32) [.double 4607182418800017408, .double st] (.double 0) ∧ own_BD Z h x1 (.ref t0) (.double cv0) (.double p0) (.double z0) (.int 1) ∧ own_ok 1 gx
theorem rmGk (l : Launch) (Z : State) (a0 : Array Value) (hw : own_Hw a0 Z) (ws : List Jvm.Cond) (cm : Addr) (kn : Addr) (st : UInt64) (kr kc iv i0 kv al ed x1 x2 t1 : Addr) (k_kr k_kc k_iv k_i0 k_kv k_ed k_t1 k_kn : ClassId) (uu cv0 p0 z0 xe : UInt64) (sd bvs du t0 : Addr) (h0 : Heap) (n0 : Nat) (Z0 : n0 ≤ h0.size) (f0_ : own_BC Z h0 cm (.int 1) (.int 2) (.int 2000) (.ref al) (.ref sd) (.ref bvs) (.ref kr) (.ref kc) (.ref iv) (.ref kv) (.double uu) (.ref du) (.int 0)) (f1_ : Arv Z h0 kr k_kr .int 1 [.int 0] (.int 0)) (f2_ : Arv Z h0 kc k_kc .int 1 [.int 1] (.int 0)) (f3_ : Arv Z h0 iv k_iv (.array .double) (1 : Int32) [.ref i0] .null) (f4_ : OvrA Z k_iv .double "[D") (f5_ : Exa Z h0 iv "[[D") (f6_ : Arv Z h0 i0 k_i0 .double (1 : Int32) [.double 4607182418800017408] (.double 0)) (f7_ : Exa Z h0 i0 "[D") (f8_ : Arv Z h0 kv k_kv .double (1 : Int32) [.double 4607182418800017408] (.double 0)) (f9_ : own_BA Z h0 al (.ref ed) (.int 2) (.int 2)) (f10_ : Arv Z h0 ed k_ed (.object "java/lang/Object") (10 : Int32) [.ref x1, .ref x2, .null, .null, .null, .null, .null, .null, .null, .null] .null) (f11_ : Ovr Z k_ed "java/lang/Object") (f12_ : own_BD Z h0 x1 (.ref t0) (.double cv0) (.double p0) (.double z0) (.int 0)) (f13_ : Exa Z h0 x2 sD) (f14_ : Fld Z h0 x2 sD "entries" "[D" (.ref t1)) (f15_ : Arv Z h0 t1 k_t1 .double (2 : Int32) [.double 4607182418800017408, .double xe] (.double 0)) (f16_ : Arv Z h0 kn k_kn .double (1 : Int32) [.double 0] (.double 0)) (ne_kr_kc : kr ≠ kc) (ne_i0_kv : i0 ≠ kv) (ne_i0_t1 : i0 ≠ t1) (ne_i0_kn : i0 ≠ kn) (ne_kv_t1 : kv ≠ t1) (ne_kv_kn : kv ≠ kn) (ne_x1_x2 : x1 ≠ x2) (ne_t1_kn : t1 ≠ kn) (gg_cm : n0 ≤ cm) (gg_x1 : n0 ≤ x1) (ok_xe : own_ok 1 xe) : own_Met l Z own_mn46 prog_26_method_24_code 13 none ws ⟨4, 7, 13, 60⟩ #[.ref cm, .int 1, .int 0, .ref kn, .double 4607182418800017408, .double st] h0 (Q_rmGk Z cm kn st kr kc iv i0 kv al ed x1 x2 t1 k_kr k_kc k_iv k_i0 k_kv k_ed k_t1 k_kn uu cv0 p0 z0 xe sd bvs du t0 h0 n0) := by
  refine own_begS sC n0 [cm, x1] #[vr cm, vi 1, vi 0, vr kn, vd 4607182418800017408, .second, vd st, .second, un, un, un, un, un] oT52 (plainFor_of_name own_pn_sC) fun p e s m below meth c s₁ hx D hml hown hnm hret hlk hZ X0 e0 PS y0 N0 KK0 => ?_
  have y3389 := rP 1 1 _ [.ref cm] y0 X0 hx D rfl
  obtain ⟨T3390, X3390, e3390, y3390⟩ := gP y3389 X0 hx hZ hown (w38 hw) e0 f0_.f6 D
  have y3393 := lP y3390 X3390 hx hZ e3390 f1_ D
  have y3394 := rP 3 9 [vr cm, vi 1, vi 0, vr kn, vd 4607182418800017408, .second, vd st, .second, vi 1, un, un, un, un] [.int 1, .ref cm] y3393 X3390 hx D rfl
  obtain ⟨_, T3392, L3392, X3392, ⟨px3391, pr, k_pr, rfl, Nq3392, Kq3392, g3391_pr, z3391_pr, p3391_0, x3391_px⟩, y3392⟩ := cP y3394 X3390 hx hZ hown hml.symm (own_V25 hw) (rmTi l Z a0 hw [] cm kr kc iv i0 al ed x2 t1 k_kr k_kc k_iv k_i0 k_ed k_t1 xe x1 h0 n0 (Nat.le_trans Z0 KK0.1) f0_.e f0_.f3 f0_.f6 f0_.f7 f0_.f8 f1_ f2_ f3_ f4_ f5_ f6_ f7_ f9_ f10_ f11_ f13_ f14_ f15_ ne_kr_kc ne_i0_t1 ok_xe) 0 f0_.e e3390 [.int 1] [] D
  have sz_pr := Nat.le_trans KK0.1 z3391_pr
  obtain ⟨T3395, h3395, cA3395, cm3395, X3395, e3395, E3395, A3395, O3395, EX3395, RW3395, st3395⟩ := gridM X3392 hx hZ hown (C := "[D") (ad := "[[D") (ty := .double) (by decide) (by decide) (w142 hw) (w143 hw) (w42 hw) rfl (g := (mkF m 22 #[vr cm, vi 1, vi 0, vr kn, vd 4607182418800017408, .second, vd st, .second, vi 1, vr pr, un, un, un] [.int 2, .int 2])) rfl (D 22 rfl) rfl (by decide) (by decide) (N := 2) rfl rfl (cap := 2) (by decide) (by decide) (by decide) rfl rfl (by decide) (by decide)
  obtain ⟨gr, g3395⟩ : ∃ z, z = T3392.heap.size := ⟨_, rfl⟩
  obtain ⟨g0, g3395_0⟩ : ∃ z, z = T3392.heap.size + 1 + 0 := ⟨_, rfl⟩
  obtain ⟨g1, g3395_1⟩ : ∃ z, z = T3392.heap.size + 1 + 1 := ⟨_, rfl⟩
  have V_gr : Arv Z h3395 gr cA3395 (.array .double) (2 : Int32) [.ref g0, .ref g1] .null := by rw [g3395, g3395_0, g3395_1]; exact A3395
  have EX_gr : Exa Z h3395 gr "[[D" := by rw [g3395]; exact EX3395
  rw [← g3395] at st3395
  have RR3395_0 := RW3395 0 g0 (by rw [g3395_0]; rfl)
  have V_g0 : Arv Z h3395 g0 cm3395 .double (2 : Int32) [.double 0, .double 0] (.double 0) := (Arv.new RR3395_0.1 (by decide)).pad (pad_rep [] (.double 0) 2)
  have RR3395_1 := RW3395 1 g1 (by rw [g3395_1]; rfl)
  have V_g1 : Arv Z h3395 g1 cm3395 .double (2 : Int32) [.double 0, .double 0] (.double 0) := (Arv.new RR3395_1.1 (by decide)).pad (pad_rep [] (.double 0) 2)
  have K3396 := KK0.trans Kq3392 (all0)
  have g_gr : n0 ≤ gr := Nat.le_trans (Nat.le_trans Z0 K3396.1) (Nat.le_of_eq g3395.symm)
  have sz_gr : h0.size ≤ gr := Nat.le_trans K3396.1 (Nat.le_of_eq g3395.symm)
  have le_g0 : T3392.heap.size ≤ g0 := by omega
  have g_g0 : n0 ≤ g0 := Nat.le_trans (Nat.le_trans Z0 K3396.1) (le_g0)
  have sz_g0 : h0.size ≤ g0 := Nat.le_trans K3396.1 (le_g0)
  have le_g1 : T3392.heap.size ≤ g1 := by omega
  have g_g1 : n0 ≤ g1 := Nat.le_trans (Nat.le_trans Z0 K3396.1) (le_g1)
  have sz_g1 : h0.size ≤ g1 := Nat.le_trans K3396.1 (le_g1)
  have ne_gr_g0 : gr ≠ g0 := by omega
  have ne_gr_g1 : gr ≠ g1 := by omega
  have ne_g0_g1 : g0 ≠ g1 := by omega
  have y3397 := rP 7 22 [vr cm, vi 1, vi 0, vr kn, vd 4607182418800017408, .second, vd st, .second, vi 1, vr pr, un, un, un] [.int 2, .int 2] y3392 X3392 hx D rfl
  have y3398 := fun (τ : State) kt => y3397 τ (st3395 τ kt)
  have b3399 := (f0_.keep Kq3392 nin0).ext E3395
  have y3400 := rP 3 31 [vr cm, vi 1, vi 0, vr kn, vd 4607182418800017408, .second, vd st, .second, vi 1, vr pr, vr gr, vi 0, un] [] y3398 X3395 hx D rfl
  have y3401 := rP 10 52 [vr cm, vi 1, vi 0, vr kn, vd 4607182418800017408, .second, vd st, .second, vi 1, vr pr, vr gr, vi 0, vi 0] [.int 0, .ref gr] y3400 X3395 hx D rfl
  have y3402 := aP y3401 X3395 hx hZ e3395 V_gr D
  have y3403 := rP 2 56 _ [.ref cm, .int 0, .ref g0] y3402 X3395 hx D rfl
  obtain ⟨T3404, X3404, e3404, y3404⟩ := gP y3403 X3395 hx hZ hown (w106 hw) e3395 b3399.f8 D
  have K3405 := K3396.ext E3395
  have ni3407 : iv ∉ [cm, x1] := ninS (Ne.symm (Exa.neArv f0_.e f3_ (w3 hw))) (ninS (Ne.symm (Exa.neArv f12_.e f3_ (w56 hw))) nin0)
  have f3406 := f3_.keep K3405 ni3407
  have ni3409 : i0 ∉ [cm, x1] := ninS (Ne.symm (Exa.neArv f0_.e f6_ (w3 hw))) (ninS (Ne.symm (Exa.neArv f12_.e f6_ (w56 hw))) nin0)
  have f3408 := f6_.keep K3405 ni3409
  have ni3411 : kn ∉ [cm, x1] := ninS (Ne.symm (Exa.neArv f0_.e f16_ (w3 hw))) (ninS (Ne.symm (Exa.neArv f12_.e f16_ (w56 hw))) nin0)
  have f3410 := f16_.keep K3405 ni3411
  have f3412 := p3391_0.ext E3395
  have y3413 := rP 1 61 _ [.int 0, .ref iv, .int 0, .ref g0] y3404 X3404 hx D rfl
  have y3414 := aP y3413 X3404 hx hZ e3404 f3406 D
  have y3415 := rP 1 64 _ [.int 0, .ref i0, .int 0, .ref g0] y3414 X3404 hx D rfl
  have y3416 := dP y3415 X3404 hx hZ e3404 f3408 D
  have y3417 := rP 2 68 _ [.int 0, .ref kn, .double 4607182418800017408, .int 0, .ref g0] y3416 X3404 hx D rfl
  have y3418 := dP y3417 X3404 hx hZ e3404 f3410 D
  have y3419 := rP 2 73 _ [.int 0, .ref pr, .double 0, .double 4607182418800017408, .int 0, .ref g0] y3418 X3404 hx D rfl
  have y3420 := dP y3419 X3404 hx hZ e3404 f3412 D
  have y3421 := own_dmulP y3420 X3404 hx D (own_ok_no (own_sz_ok (own_sz_mulL (Or.inl rfl) x3391_px)))
  have y3422 := rP 1 77 _ [.double 4607182418800017408, (.double (FP.dmul (0 : UInt64) px3391)), .double 4607182418800017408, .int 0, .ref g0] y3421 X3404 hx D rfl
  have y3423 := own_ddivP y3422 X3404 hx D (own_ok_no (own_sz_ok (own_sz_div1 (own_sz_mulL (Or.inl rfl) x3391_px))))
  have y3424 := own_daddP y3423 X3404 hx D (own_ok_no (own_ok_add own_okc_4607182418800017408 (own_sz_ok (own_sz_div1 (own_sz_mulL (Or.inl rfl) x3391_px))) (by decide)))
  have y3425 := nD y3424 (own_u1 (own_sz_div1 (own_sz_mulL (Or.inl rfl) x3391_px)))
  obtain ⟨T3426, h3426, X3426, e3426, W3426, V3426, y3426⟩ := own_dstK y3425 X3404 hx hZ e3404 V_g0 rfl rfl (D 79 rfl) ⟨by decide, by decide⟩ 0 rfl (Nat.le_of_ble_eq_true rfl)
  have f3427 := V_gr.other W3426 ne_gr_g0
  have ne3428 := own_ltn f16_.lt sz_g0
  have f3429 := f3410.other W3426 ne3428
  have y3430 := rP 7 90 [vr cm, vi 1, vi 0, vr kn, vd 4607182418800017408, .second, vd st, .second, vi 1, vr pr, vr gr, vi 0, vi 1] [.int 0, .ref gr] y3426 X3426 hx D rfl
  have y3431 := aP y3430 X3426 hx hZ e3426 f3427 D
  have y3432 := rP 3 96 _ [.int 0, .ref kn, .int 1, .ref g0] y3431 X3426 hx D rfl
  have y3433 := dP y3432 X3426 hx hZ e3426 f3429 D
  have y3434 := rP 1 98 _ [(.double (FP.dneg (0 : UInt64))), .int 1, .ref g0] y3433 X3426 hx D rfl
  have y3435 := nD y3434 own_q37
  have y3436 := rP 1 100 _ [.double 4607182418800017408, .double 9223372036854775808, .int 1, .ref g0] y3435 X3426 hx D rfl
  have y3437 := own_ddivP y3436 X3426 hx D (own_ok_no own_okc_9223372036854775808)
  have y3438 := nD y3437 own_q38
  obtain ⟨T3439, h3439, X3439, e3439, W3439, V3439, y3439⟩ := own_dstK y3438 X3426 hx hZ e3426 V3426 rfl rfl (D 101 rfl) ⟨by decide, by decide⟩ 1 rfl (Nat.le_of_ble_eq_true rfl)
  have f3440 := f3427.other W3439 ne_gr_g0
  have ne3441 := own_ltn p3391_0.lt le_g0
  have f3442 := (f3412.other W3426 ne3441).other W3439 ne3441
  have f3443 := (V_g1.other W3426 (Ne.symm ne_g0_g1)).other W3439 (Ne.symm ne_g0_g1)
  have y3444 := rP 7 111 _ [] y3439 X3439 hx D rfl
  have y3445 := rP 5 122 _ [.int 1, .ref gr] y3444 X3439 hx D rfl
  have y3446 := aP y3445 X3439 hx hZ e3439 f3440 D
  have y3447 := rP 3 129 _ [.int 0, .ref pr, .int 0, .ref g1] y3446 X3439 hx D rfl
  have y3448 := dP y3447 X3439 hx hZ e3439 f3442 D
  have y3449 := rP 2 133 _ [.double 4607182418800017408, (.double (FP.dneg px3391)), .int 0, .ref g1] y3448 X3439 hx D rfl
  have y3450 := own_ddivP y3449 X3439 hx D (own_ok_no (own_ok_div1 (own_ok_neg x3391_px)))
  obtain ⟨T3451, h3451, X3451, e3451, W3451, V3451, y3451⟩ := own_dstK y3450 X3439 hx hZ e3439 f3443 rfl rfl (D 134 rfl) ⟨by decide, by decide⟩ 0 rfl (Nat.le_of_ble_eq_true rfl)
  have f3452 := f3440.other W3451 ne_gr_g1
  have y3453 := rP 7 145 [vr cm, vi 1, vi 0, vr kn, vd 4607182418800017408, .second, vd st, .second, vi 1, vr pr, vr gr, vi 1, vi 1] [.int 1, .ref gr] y3451 X3451 hx D rfl
  have y3454 := aP y3453 X3451 hx hZ e3451 f3452 D
  have y3455 := rP 3 151 _ [.double 4607182418800017408, .double 4607182418800017408, .int 1, .ref g1] y3454 X3451 hx D rfl
  have y3456 := own_ddivP y3455 X3451 hx D (own_ok_no own_okc_4607182418800017408)
  have y3457 := nD y3456 own_q10
  obtain ⟨T3458, h3458, X3458, e3458, W3458, V3458, y3458⟩ := own_dstK y3457 X3451 hx hZ e3451 V3451 rfl rfl (D 152 rfl) ⟨by decide, by decide⟩ 1 rfl (Nat.le_of_ble_eq_true rfl)
  have ne3459 := own_ltn f0_.e.lt sz_g0
  have ne3460 := own_ltn f0_.e.lt sz_g1
  have b3461 := (((b3399.other W3426 ne3459).other W3439 ne3459).other W3451 ne3460).other W3458 ne3460
  have y3462 := rP 2 156 _ [.ref gr, .ref cm] y3458 X3458 hx D rfl
  obtain ⟨T3463, h3463, X3463, e3463, W3463, fw3463, y3463⟩ := own_putK y3462 X3458 hx hZ hown (w106 hw) Via.refl e3458 b3461.f8 b3461.e (Or.inl (w107 hw)) (w3 hw) (.array (.array .double)) (by decide) rfl rfl rfl rfl (D 156 rfl)
  have b3464 := b3461.p8 hw W3463
  have y3465 := rP 2 161 _ [.ref cm, .ref cm] y3463 X3463 hx D rfl
  obtain ⟨T3466, X3466, e3466, y3466⟩ := gP y3465 X3463 hx hZ hown (w38 hw) e3463 b3464.f6 D
  have K3467 := ((((K3405.wr W3426 (Or.inr sz_g0)).wr W3439 (Or.inr sz_g0)).wr W3451 (Or.inr sz_g1)).wr W3458 (Or.inr sz_g1)).wr W3463 (Or.inl (by simp))
  have ni3469 : kr ∉ [cm, x1] := ninS (Ne.symm (Exa.neArv f0_.e f1_ (w3 hw))) (ninS (Ne.symm (Exa.neArv f12_.e f1_ (w56 hw))) nin0)
  have f3468 := f1_.keep K3467 ni3469
  have y3472 := rP 1 165 _ [.int 1, .ref kr, .ref cm] y3466 X3466 hx D rfl
  obtain ⟨_, T3471, L3471, X3471, ⟨krn, k_krn, rfl, Nq3471, Kq3471, g3470_an, z3470_an, p3470_0⟩, y3471⟩ := cS y3472 X3466 hx hZ hown hml.symm (own_V26 hw) (rmAp0 l Z a0 hw [] kr k_kr h3463 n0 (Nat.le_trans Z0 K3467.1) f3468) 1 e3466 [.ref kr, .int 1] [.ref cm] D
  have sz_krn := Nat.le_trans K3467.1 z3470_an
  have b3473 := b3464.keep Kq3471 nin0
  obtain ⟨T3474, h3474, X3474, e3474, W3474, fw3474, y3474⟩ := own_putK y3471 X3471 hx hZ hown (w38 hw) Via.refl rfl b3473.f6 b3473.e (Or.inl (w39 hw)) (w3 hw) (.array .int) (by decide) rfl rfl rfl rfl (D 168 rfl)
  have b3475 := b3473.p6 hw W3474
  have y3476 := rP 2 173 _ [.ref cm, .ref cm] y3474 X3474 hx D rfl
  obtain ⟨T3477, X3477, e3477, y3477⟩ := gP y3476 X3474 hx hZ hown (w40 hw) e3474 b3475.f7 D
  have K3478 := (K3467.trans Kq3471 (all0)).wr W3474 (Or.inl (by simp))
  have y3481 := rP 2 178 _ [.int 0, .ref cm, .ref kc, .ref cm] y3477 X3477 hx D rfl
  obtain ⟨_, T3480, L3480, X3480, ⟨rfl, Nq3480, eq3480⟩, y3480⟩ := cP y3481 X3477 hx hZ hown hml.symm (own_V20 hw) (rmDe0 l Z a0 hw [] cm h3474 n0 (Nat.le_trans Z0 K3478.1) b3475.e b3475.f0) 2 b3475.e e3477 [.int 0] [.ref kc, .ref cm] D
  have ni3483 : kc ∉ [cm, x1] := ninS (Ne.symm (Exa.neArv f0_.e f2_ (w3 hw))) (ninS (Ne.symm (Exa.neArv f12_.e f2_ (w56 hw))) nin0)
  have f3482 := f2_.keep K3478 ni3483
  obtain ⟨_, T3485, L3485, X3485, ⟨kcn, k_kcn, rfl, Nq3485, Kq3485, g3484_an, z3484_an, p3484_0⟩, y3485⟩ := cS y3480 X3480 hx hZ hown hml.symm (own_V26 hw) (rmAp1 l Z a0 hw [] kc k_kc h3474 n0 (Nat.le_trans Z0 K3478.1) f3482) 1 eq3480 [.ref kc, .int 0] [.ref cm] D
  have sz_kcn := Nat.le_trans K3478.1 z3484_an
  have b3486 := b3475.keep Kq3485 nin0
  obtain ⟨T3487, h3487, X3487, e3487, W3487, fw3487, y3487⟩ := own_putK y3485 X3485 hx hZ hown (w40 hw) Via.refl rfl b3486.f7 b3486.e (Or.inl (w41 hw)) (w3 hw) (.array .int) (by decide) rfl rfl rfl rfl (D 184 rfl)
  have b3488 := b3486.p7 hw W3487
  have y3489 := rP 1 188 _ [.ref cm] y3487 X3487 hx D rfl
  obtain ⟨T3490, X3490, e3490, y3490⟩ := gP y3489 X3487 hx hZ hown (w35 hw) e3487 b3488.f3 D
  have K3491 := (K3478.trans Kq3485 (all0)).wr W3487 (Or.inl (by simp))
  have y3494 := rP 2 193 _ [.int 0, .ref cm, .ref al] y3490 X3490 hx D rfl
  obtain ⟨_, T3493, L3493, X3493, ⟨rfl, Nq3493, eq3493⟩, y3493⟩ := cP y3494 X3490 hx hZ hown hml.symm (own_V20 hw) (rmDe0 l Z a0 hw [] cm h3487 n0 (Nat.le_trans Z0 K3491.1) b3488.e b3488.f0) 1 b3488.e e3490 [.int 0] [.ref al] D
  have ni3496 : al ∉ [cm, x1] := ninS (Ne.symm (Exa.ne f0_.e f9_.e (by decide))) (ninS (Exa.ne f9_.e f12_.e (by decide)) nin0)
  have b3495 := f9_.keep K3491 ni3496
  have ni3498 : ed ∉ [cm, x1] := ninS (Ne.symm (Exa.neArv f0_.e f10_ (w3 hw))) (ninS (Ne.symm (Exa.neArv f12_.e f10_ (w56 hw))) nin0)
  have f3497 := f10_.keep K3491 ni3498
  obtain ⟨_, T3500, L3500, X3500, ⟨rfl, Nq3500, eq3500⟩, y3500⟩ := cF y3493 X3493 hx hZ hown hml.symm (own_V10 hw) (rmGet0 l Z a0 hw [] al ed k_ed x1 x2 h3487 n0 (Nat.le_trans Z0 K3491.1) b3495 f3497 f11_) 0 b3495.e eq3493 [.int 0] [] D
  have ne3502 := own_ltn f12_.e.lt sz_g0
  have ne3503 := own_ltn f12_.e.lt sz_g1
  have b3504 := ((((((((((f12_.keep Kq3392 nin0).ext E3395).other W3426 ne3502).other W3439 ne3502).other W3451 ne3503).other W3458 ne3503).other W3463 (Ne.symm (Exa.ne f0_.e f12_.e (by decide)))).keep Kq3471 nin0).other W3474 (Ne.symm (Exa.ne f0_.e f12_.e (by decide)))).keep Kq3485 nin0).other W3487 (Ne.symm (Exa.ne f0_.e f12_.e (by decide)))
  obtain ⟨T3501, X3501, e3501, st3501⟩ := castY X3500 hx hZ hown (w55 hw) eq3500 (Ins.self b3504.e) (g := (mkF m 201 #[vr cm, vi 1, vi 0, vr kn, vd 4607182418800017408, .second, vd st, .second, vi 1, vr pr, vr gr, vi 1, vi 1] [.ref x1])) rfl rfl (D 201 rfl)
  have y3505 := fun (τ : State) kt => y3500 τ (st3501 τ kt)
  have y3506 := rP 1 205 _ [.int 1, .ref x1] y3505 X3501 hx D rfl
  obtain ⟨T3507, h3507, X3507, e3507, W3507, st3507⟩ := own_putR X3501 hx hZ hown (w132 hw) e3501 b3504.f4 b3504.e (w133 hw) (w56 hw) (ty := .boolean) (by decide) rfl rfl (g := (mkF m 205 #[vr cm, vi 1, vi 0, vr kn, vd 4607182418800017408, .second, vd st, .second, vi 1, vr pr, vr gr, vi 1, vi 1] [.int 1, .ref x1])) rfl rfl (D 205 rfl)
  have fw3507 := Fld.same W3507 b3504.f4
  have N3507 := Fr.snoc X3507 (Fr.app (Fr.app (Fr.snoc X3487 (Fr.app (Fr.app (Fr.snoc X3474 (Fr.app (Fr.snoc X3463 (Fr.snoc X3458 (Fr.snoc X3451 (Fr.snoc X3439 (Fr.snoc X3426 (Fr.app N0 Nq3392) g_g0) g_g0) g_g1) g_g1) gg_cm) Nq3471) gg_cm) Nq3480) Nq3485) gg_cm) Nq3493) Nq3500) gg_x1
  have y3508 := fun (τ : State) kt => y3506 τ (st3507 τ kt)
  have b3509 := b3504.p4 hw W3507
  obtain ⟨T3510, h3510, k3510, X3510, e3510, E3510, A3510, st3510⟩ := newP (aty := .double) X3507 hx hZ (w42 hw) e3507 (g := (mkF m 212 #[vr cm, vi 1, vi 0, vr kn, vd 4607182418800017408, .second, vd st, .second, vi 1, vr pr, vr gr, vi 1, vi 1] [.int 2])) rfl (D 212 rfl) rfl (by decide) (cap := 2) (by decide) (by decide) (by decide) (by decide)
  obtain ⟨vl, g3510⟩ : ∃ z, z = h3507.size := ⟨_, rfl⟩
  rw [← g3510] at A3510 st3510
  have K3511 := K3491.wr W3507 (Or.inl (by simp))
  have g_vl : n0 ≤ vl := Nat.le_trans (Nat.le_trans Z0 K3511.1) (Nat.le_of_eq g3510.symm)
  have sz_vl : h0.size ≤ vl := Nat.le_trans K3511.1 (Nat.le_of_eq g3510.symm)
  have V_vl : Arv Z h3510 vl k3510 .double (2 : Int32) [.double 0, .double 0] (.double 0) := (Arv.new A3510 (by decide)).pad (pad_rep [] (.double 0) 2)
  have y3512 := rP 3 212 _ [.int 2] y3508 X3507 hx D rfl
  have y3513 := fun (τ : State) kt => y3512 τ (st3510 τ kt)
  have b3514 := (b3488.other W3507 (Exa.ne f0_.e f12_.e (by decide))).ext E3510
  have y3515 := rP 2 217 [vr cm, vi 1, vi 0, vr kn, vd 4607182418800017408, .second, vd st, .second, vi 1, vr pr, vr gr, vr vl, vi 1] [.ref cm] y3513 X3510 hx D rfl
  obtain ⟨T3516, X3516, e3516, y3516⟩ := gP y3515 X3510 hx hZ hown (w188 hw) e3510 b3514.f9 D
  have y3517 := rP 4 226 _ [.int 1, .int 0, .ref vl, .int 0, .ref kv] y3516 X3516 hx D rfl
  have K3519 := K3511.ext E3510
  have ni3521 : kv ∉ [cm, x1] := ninS (Ne.symm (Exa.neArv f0_.e f8_ (w3 hw))) (ninS (Ne.symm (Exa.neArv f12_.e f8_ (w56 hw))) nin0)
  have f3520 := f8_.keep K3519 ni3521
  obtain ⟨T3518, h3518, L3518, X3518, e3518, N3518, Kq3518, V3518, st3518⟩ := cpA (sp := (0 : Int32)) (dp := (0 : Int32)) (nn := (1 : Int32)) X3516 hx hZ hown (w359 hw) (w362 hw) (w360 hw) (w361 hw) e3516 f3520 V_vl (Or.inl ⟨rfl, rfl⟩) (by decide) (by decide) (by decide) (by decide) (by decide) rfl (by decide) N3507 g_vl (g := (mkF m 226 #[vr cm, vi 1, vi 0, vr kn, vd 4607182418800017408, .second, vd st, .second, vi 1, vr pr, vr gr, vr vl, vi 1] [.int 1, .int 0, .ref vl, .int 0, .ref kv])) rfl hml.symm (rest := []) rfl (D 226 rfl) (by decide) (W := 0) (by show 2 * 0 + _ ≤ _; exact Nat.le_of_eq rfl) (by decide)
  have Va3518 : Arv Z h3518 vl k3510 .double (2 : Int32) [.double 4607182418800017408, .double 0] (.double 0) := V3518
  have y3522 := fun (τ : State) kt => y3517 τ (st3518 τ kt)
  have y3523 := rP 3 235 _ [.double st, .int 1, .ref vl] y3522 X3518 hx D rfl
  obtain ⟨T3524, h3524, X3524, e3524, W3524, V3524, y3524⟩ := own_dstK y3523 X3518 hx hZ e3518 Va3518 rfl rfl (D 235 rfl) ⟨by decide, by decide⟩ 1 rfl (Nat.le_of_ble_eq_true rfl)
  have ne3525 := own_ltn f0_.e.lt sz_vl
  have b3526 := (b3514.keep Kq3518 (ninS ne3525 nin0)).other W3524 ne3525
  have y3527 := rP 2 239 _ [.ref vl, .ref cm] y3524 X3524 hx D rfl
  obtain ⟨T3528, h3528, X3528, e3528, W3528, fw3528, y3528⟩ := own_putK y3527 X3524 hx hZ hown (w188 hw) Via.refl e3524 b3526.f9 b3526.e (Or.inl (w189 hw)) (w3 hw) (.array .double) (by decide) rfl rfl rfl rfl (D 239 rfl)
  have b3529 := b3526.p9 hw W3528
  have ne3530 := own_ltn f0_.e.lt sz_krn
  have ne3531 := own_ltn f12_.e.lt sz_krn
  have ne3532 := own_ltn (own_up (own_up (own_up (own_up p3470_0.lt (Keep.of_wr W3474).1) Kq3485.1) (Keep.of_wr W3487).1) (Keep.of_wr W3507).1) (Nat.le_of_eq g3510.symm)
  have f3533 := (((((((p3470_0.other W3474 (Ne.symm ne3530)).keep Kq3485 nin0).other W3487 (Ne.symm ne3530)).other W3507 (Ne.symm ne3531)).ext E3510).keep Kq3518 (ninS ne3532 nin0)).other W3524 ne3532).other W3528 (Ne.symm ne3530)
  have ne3534 := own_ltn f0_.e.lt sz_kcn
  have ne3535 := own_ltn f12_.e.lt sz_kcn
  have ne3536 := own_ltn (own_up (own_up p3484_0.lt (Keep.of_wr W3487).1) (Keep.of_wr W3507).1) (Nat.le_of_eq g3510.symm)
  have f3537 := (((((p3484_0.other W3487 (Ne.symm ne3534)).other W3507 (Ne.symm ne3535)).ext E3510).keep Kq3518 (ninS ne3536 nin0)).other W3524 ne3536).other W3528 (Ne.symm ne3534)
  have ne3538 := own_ltn f0_.e.lt sz_gr
  have ne3539 := own_ltn f12_.e.lt sz_gr
  have ne3540 := own_ltn (own_up (own_up (own_up (own_up (own_up (own_up (own_up (own_up (own_up (own_up V_gr.lt (Keep.of_wr W3426).1) (Keep.of_wr W3439).1) (Keep.of_wr W3451).1) (Keep.of_wr W3458).1) (Keep.of_wr W3463).1) Kq3471.1) (Keep.of_wr W3474).1) Kq3485.1) (Keep.of_wr W3487).1) (Keep.of_wr W3507).1) (Nat.le_of_eq g3510.symm)
  have f3541 := ((((((((((f3452.other W3458 ne_gr_g1).other W3463 (Ne.symm ne3538)).keep Kq3471 nin0).other W3474 (Ne.symm ne3538)).keep Kq3485 nin0).other W3487 (Ne.symm ne3538)).other W3507 (Ne.symm ne3539)).ext E3510).keep Kq3518 (ninS ne3540 nin0)).other W3524 ne3540).other W3528 (Ne.symm ne3538)
  have f3542 := (((((((((((((EX_gr.wr W3426).wr W3439).wr W3451).wr W3458).wr W3463).keep Kq3471).wr W3474).keep Kq3485).wr W3487).wr W3507).ext E3510).keep Kq3518).wr W3524).wr W3528
  have ne3543 := own_ltn (own_up (own_up (own_up (own_up (own_up (own_up (own_up (own_up (own_up (own_up V_g0.lt (Keep.of_wr W3426).1) (Keep.of_wr W3439).1) (Keep.of_wr W3451).1) (Keep.of_wr W3458).1) (Keep.of_wr W3463).1) Kq3471.1) (Keep.of_wr W3474).1) Kq3485.1) (Keep.of_wr W3487).1) (Keep.of_wr W3507).1) (Nat.le_of_eq g3510.symm)
  have f3544 := (((((((((((V3439.other W3451 ne_g0_g1).other W3458 ne_g0_g1).other W3463 (Ne.symm ne3459)).keep Kq3471 nin0).other W3474 (Ne.symm ne3459)).keep Kq3485 nin0).other W3487 (Ne.symm ne3459)).other W3507 (Ne.symm ne3502)).ext E3510).keep Kq3518 (ninS ne3543 nin0)).other W3524 ne3543).other W3528 (Ne.symm ne3459)
  have f3545 := (((((((((((((RR3395_0.2.wr W3426).wr W3439).wr W3451).wr W3458).wr W3463).keep Kq3471).wr W3474).keep Kq3485).wr W3487).wr W3507).ext E3510).keep Kq3518).wr W3524).wr W3528
  have ne3546 := own_ltn (own_up (own_up (own_up (own_up (own_up (own_up (own_up (own_up (own_up (own_up V_g1.lt (Keep.of_wr W3426).1) (Keep.of_wr W3439).1) (Keep.of_wr W3451).1) (Keep.of_wr W3458).1) (Keep.of_wr W3463).1) Kq3471.1) (Keep.of_wr W3474).1) Kq3485.1) (Keep.of_wr W3487).1) (Keep.of_wr W3507).1) (Nat.le_of_eq g3510.symm)
  have f3547 := (((((((((V3458.other W3463 (Ne.symm ne3460)).keep Kq3471 nin0).other W3474 (Ne.symm ne3460)).keep Kq3485 nin0).other W3487 (Ne.symm ne3460)).other W3507 (Ne.symm ne3503)).ext E3510).keep Kq3518 (ninS ne3546 nin0)).other W3524 ne3546).other W3528 (Ne.symm ne3460)
  have f3548 := (((((((((((((RR3395_1.2.wr W3426).wr W3439).wr W3451).wr W3458).wr W3463).keep Kq3471).wr W3474).keep Kq3485).wr W3487).wr W3507).ext E3510).keep Kq3518).wr W3524).wr W3528
  have f3549 := V3524.other W3528 (Ne.symm ne3525)
  have ne3550 := own_ltn f12_.e.lt sz_vl
  have b3551 := (((b3509.ext E3510).keep Kq3518 (ninS ne3550 nin0)).other W3524 ne3550).other W3528 (Ne.symm (Exa.ne f0_.e f12_.e (by decide)))
  have K3552 := ((K3519.trans Kq3518 (allS (Or.inr sz_vl) (all0))).wr W3524 (Or.inr sz_vl)).wr W3528 (Or.inl (by simp))
  have ne3553 := own_ltn (own_up p3470_0.lt (Keep.of_wr W3474).1) z3484_an
  exact own_retV X3528 hlk y3528 hx hret (D 242 rfl) (by decide) (by decide) e3528 ⟨(FP.ddiv (FP.dneg px3391) (4607182418800017408 : UInt64)), krn, kcn, gr, g0, g1, vl, k_krn, k_kcn, cA3395, cm3395, cm3395, k3510, rfl, (Fr.snoc X3528 (Fr.snoc X3524 N3518 g_vl) gg_cm), K3552, g3470_an, sz_krn, g3484_an, sz_kcn, g_gr, sz_gr, g_g0, sz_g0, g_g1, sz_g1, g_vl, sz_vl, ne3553, ne_g0_g1, ne3543, ne3546, b3529, f3533, f3537, f3541, O3395, f3542, f3544, f3545, f3547, f3548, f3549, b3551, (own_ok_mono (own_ok_div1 (own_ok_neg x3391_px)) (by decide))⟩
def Q_rmPv (Z : State) (cm : Addr) (di : Addr) (st : UInt64) (sd kr kc iv i0 kv bvs al ed x1 x2 t0 t1 kn bo : Addr) (k_sd k_kr k_kc k_iv k_i0 k_kv k_bvs k_ed k_t0 k_t1 k_kn k_bo : ClassId) (uu bv cv0 co xe : UInt64) (du : Addr) (h0 : Heap) (n0 : Nat) (v : Option Value) (h : Heap) (L : List Loc) : Prop := ∃ (gx : UInt64) (b2 : UInt64) (at1 : UInt64) (sz1 : UInt64) (vl1 : UInt64) (krn : Addr) (kcn : Addr) (gr : Addr) (g0 : Addr) (g1 : Addr) (vl : Addr) (k_krn : ClassId) (k_kcn : ClassId) (k_gr : ClassId) (k_g0 : ClassId) (k_g1 : ClassId) (k_vl : ClassId), v = none ∧ Fr n0 L ∧ Keep h0 h [cm, sd, kv, bvs, x1, x2] ∧ n0 ≤ krn ∧ h0.size ≤ krn ∧ n0 ≤ kcn ∧ h0.size ≤ kcn ∧ n0 ≤ gr ∧ h0.size ≤ gr ∧ n0 ≤ g0 ∧ h0.size ≤ g0 ∧ n0 ≤ g1 ∧ h0.size ≤ g1 ∧ n0 ≤ vl ∧ h0.size ≤ vl ∧ krn ≠ kcn ∧ g0 ≠ g1 ∧ g0 ≠ vl ∧ g1 ≠ vl ∧ own_BC Z h cm (.int 1) (.int 2) (.int 2000) (.ref al) (.ref sd) (.ref bvs) (.ref krn) (.ref kcn) (.ref gr) (.ref vl) (.double uu) (.ref du) (.int 1) ∧ Arv Z h sd k_sd .int 1 [.int 0] (.int 0) ∧ Arv Z h krn k_krn .int 2 [.int 0, .int 1] (.int 0) ∧ Arv Z h kcn k_kcn .int 2 [.int 1, .int 0] (.int 0) ∧ Arv Z h gr k_gr (.array .double) (2 : Int32) [.ref g0, .ref g1] .null ∧ OvrA Z k_gr .double "[D" ∧ Exa Z h gr "[[D" ∧ Arv Z h g0 k_g0 .double (2 : Int32) [.double 4607182418800017408, .double 9223372036854775808] (.double 0) ∧ Exa Z h g0 "[D" ∧ Arv Z h g1 k_g1 .double (2 : Int32) [.double gx, .double 4607182418800017408] (.double 0) ∧ Exa Z h g1 "[D" ∧ Arv Z h vl k_vl .double (2 : Int32) [.double 4607182418800017408, .double vl1] (.double 0) ∧ Arv Z h bvs k_bvs .double (1 : Int32) [.double b2] (.double 0) ∧ own_BD Z h x1 (.ref t0) (.double cv0) (.double 0) (.double 0) (.int 1) ∧ own_BD Z h x2 (.ref t1) (.double co) (.double at1) (.double sz1) (.int 1) ∧ own_ok 1 gx ∧ own_ok 2 b2 ∧ own_sz at1 ∧ own_ok 2 sz1 ∧ own_ok 1 vl1
theorem rmPv (l : Launch) (Z : State) (a0 : Array Value) (hw : own_Hw a0 Z) (ws : List Jvm.Cond) (cm : Addr) (di : Addr) (st : UInt64) (sd kr kc iv i0 kv bvs al ed x1 x2 t0 t1 kn bo : Addr) (k_sd k_kr k_kc k_iv k_i0 k_kv k_bvs k_ed k_t0 k_t1 k_kn k_bo : ClassId) (uu bv cv0 co xe : UInt64) (du : Addr) (h0 : Heap) (n0 : Nat) (Z0 : n0 ≤ h0.size) (f0_ : own_BC Z h0 cm (.int 1) (.int 2) (.int 2000) (.ref al) (.ref sd) (.ref bvs) (.ref kr) (.ref kc) (.ref iv) (.ref kv) (.double uu) (.ref du) (.int 0)) (f1_ : Arv Z h0 sd k_sd .int 1 [.int 1] (.int 0)) (f2_ : Arv Z h0 kr k_kr .int 1 [.int 0] (.int 0)) (f3_ : Arv Z h0 kc k_kc .int 1 [.int 1] (.int 0)) (f4_ : Arv Z h0 iv k_iv (.array .double) (1 : Int32) [.ref i0] .null) (f5_ : OvrA Z k_iv .double "[D") (f6_ : Exa Z h0 iv "[[D") (f7_ : Arv Z h0 i0 k_i0 .double (1 : Int32) [.double 4607182418800017408] (.double 0)) (f8_ : Exa Z h0 i0 "[D") (f9_ : Arv Z h0 kv k_kv .double (1 : Int32) [.double 4607182418800017408] (.double 0)) (f10_ : Arv Z h0 bvs k_bvs .double (1 : Int32) [.double bv] (.double 0)) (f11_ : own_BA Z h0 al (.ref ed) (.int 2) (.int 2)) (f12_ : Arv Z h0 ed k_ed (.object "java/lang/Object") (10 : Int32) [.ref x1, .ref x2, .null, .null, .null, .null, .null, .null, .null, .null] .null) (f13_ : Ovr Z k_ed "java/lang/Object") (f14_ : own_BD Z h0 x1 (.ref t0) (.double cv0) (.double 4607182418800017408) (.double 4607182418800017408) (.int 0)) (f15_ : own_BD Z h0 x2 (.ref t1) (.double co) (.double (FP.dadd (0 : UInt64) (FP.dmul (4607182418800017408 : UInt64) xe))) (.double (FP.dadd (0 : UInt64) (FP.dmul (4607182418800017408 : UInt64) (xe &&& (9223372036854775807 : UInt64))))) (.int 1)) (f16_ : Arv Z h0 t0 k_t0 .double (2 : Int32) [.double 0, .double 4607182418800017408] (.double 0)) (f17_ : Arv Z h0 t1 k_t1 .double (2 : Int32) [.double 4607182418800017408, .double xe] (.double 0)) (f18_ : own_BR Z h0 di (.ref kn) (.ref bo)) (f19_ : Arv Z h0 kn k_kn .double (1 : Int32) [.double 0] (.double 0)) (f20_ : Arv Z h0 bo k_bo .double (1 : Int32) [.double 4607182418800017408] (.double 0)) (ne_sd_kr : sd ≠ kr) (ne_sd_kc : sd ≠ kc) (ne_kr_kc : kr ≠ kc) (ne_i0_kv : i0 ≠ kv) (ne_i0_bvs : i0 ≠ bvs) (ne_i0_t0 : i0 ≠ t0) (ne_i0_t1 : i0 ≠ t1) (ne_i0_kn : i0 ≠ kn) (ne_i0_bo : i0 ≠ bo) (ne_kv_bvs : kv ≠ bvs) (ne_kv_t0 : kv ≠ t0) (ne_kv_t1 : kv ≠ t1) (ne_kv_kn : kv ≠ kn) (ne_kv_bo : kv ≠ bo) (ne_bvs_t0 : bvs ≠ t0) (ne_bvs_t1 : bvs ≠ t1) (ne_bvs_kn : bvs ≠ kn) (ne_bvs_bo : bvs ≠ bo) (ne_x1_x2 : x1 ≠ x2) (ne_t0_t1 : t0 ≠ t1) (ne_t0_kn : t0 ≠ kn) (ne_t0_bo : t0 ≠ bo) (ne_t1_kn : t1 ≠ kn) (ne_t1_bo : t1 ≠ bo) (ne_kn_bo : kn ≠ bo) (gg_cm : n0 ≤ cm) (gg_sd : n0 ≤ sd) (gg_kv : n0 ≤ kv) (gg_bvs : n0 ≤ bvs) (gg_x1 : n0 ≤ x1) (gg_x2 : n0 ≤ x2) (ok_xe : own_ok 1 xe) (ok_bv : own_ok 1 bv) (ok_st : own_ok 1 st) : own_Met l Z own_mn47 prog_26_method_22_code 11 none ws ⟨5, 8, 17, 84⟩ #[.ref cm, .int 0, .int 1, .ref di, .double st] h0 (Q_rmPv Z cm di st sd kr kc iv i0 kv bvs al ed x1 x2 t0 t1 kn bo k_sd k_kr k_kc k_iv k_i0 k_kv k_bvs k_ed k_t0 k_t1 k_kn k_bo uu bv cv0 co xe du h0 n0) := by
  refine own_begS sC n0 [cm, sd, kv, bvs, x1, x2] #[vr cm, vi 0, vi 1, vr di, vd st, .second, un, un, un, un, un] oT49 (plainFor_of_name own_pn_sC) fun p e s m below meth c s₁ hx D hml hown hnm hret hlk hZ X0 e0 PS y0 N0 KK0 => ?_
  have y3554 := rP 1 1 _ [.ref cm] y0 X0 hx D rfl
  obtain ⟨T3555, X3555, e3555, y3555⟩ := gP y3554 X0 hx hZ hown (w40 hw) e0 f0_.f7 D
  have y3556 := lP y3555 X3555 hx hZ e3555 f3_ D
  have y3557 := rP 3 10 [vr cm, vi 0, vi 1, vr di, vd st, .second, vi 1, vi 0, un, un, un] [] y3556 X3555 hx D rfl
  have y3558 := rP 4 18 _ [.ref cm] y3557 X3555 hx D rfl
  obtain ⟨T3559, X3559, e3559, y3559⟩ := gP y3558 X3555 hx hZ hown (w188 hw) e3555 f0_.f9 D
  have y3562 := rP 1 23 _ [.int 0, .ref kv] y3559 X3559 hx D rfl
  have y3563 := fun (τ : State) kt => y3562 τ (XT.dup2 X3559.here hx rfl (D 23 rfl) rfl rfl rfl kt)
  have y3564 := dP y3563 X3559 hx hZ e3559 f9_ D
  have y3565 := rP 2 28 _ [.ref di, .double st, .double 4607182418800017408, .int 0, .ref kv] y3564 X3559 hx D rfl
  obtain ⟨_, T3561, L3561, X3561, ⟨rfl, Nq3561, eq3561⟩, y3561⟩ := cV y3565 X3559 hx hZ hown hml.symm (own_V27 hw) (rmDk l Z a0 hw [] di kn bo h0 n0 (Nat.le_trans Z0 KK0.1) f18_) 6 f18_.e e3559 [] [.double st, .double 4607182418800017408, .int 0, .ref kv] D
  have y3566 := rP 1 33 _ [.int 0, .ref kn, .double st, .double 4607182418800017408, .int 0, .ref kv] y3561 X3561 hx D rfl
  have y3567 := dP y3566 X3561 hx hZ eq3561 f19_ D
  have y3568 := own_dmulP y3567 X3561 hx D (own_ok_no (own_sz_ok (own_sz_mul ok_st (Or.inl rfl))))
  have y3569 := own_dsubP y3568 X3561 hx D (own_ok_no (own_ok_sub own_okc_4607182418800017408 (own_sz_ok (own_sz_mul ok_st (Or.inl rfl))) (by decide)))
  have y3570 := nD y3569 (own_u0 (own_sz_mul ok_st (Or.inl rfl)))
  obtain ⟨T3571, h3571, X3571, e3571, W3571, V3571, y3571⟩ := own_dstK y3570 X3561 hx hZ eq3561 f9_ rfl rfl (D 36 rfl) ⟨by decide, by decide⟩ 0 rfl (Nat.le_of_ble_eq_true rfl)
  have b3572 := f0_.other W3571 (Exa.neArv f0_.e f9_ (w3 hw))
  have y3573 := rP 7 46 _ [] y3571 X3571 hx D rfl
  have y3574 := rP 2 49 _ [.ref cm, .int 0] y3573 X3571 hx D rfl
  obtain ⟨T3575, X3575, e3575, y3575⟩ := gP y3574 X3571 hx hZ hown (w45 hw) e3571 b3572.f0 D
  have y3576 := rP 2 56 _ [.ref cm] y3575 X3575 hx D rfl
  obtain ⟨T3577, X3577, e3577, y3577⟩ := gP y3576 X3575 hx hZ hown (w51 hw) e3575 b3572.f4 D
  have f3578 := f1_.other W3571 (own_arv_ne f1_ f9_ (by decide))
  have y3579 := rP 1 61 _ [.int 0, .ref sd] y3577 X3577 hx D rfl
  have y3580 := iP y3579 X3577 hx hZ e3577 f3578 D
  have y3581 := rP 2 66 _ [.ref cm] y3580 X3577 hx D rfl
  obtain ⟨T3582, X3582, e3582, y3582⟩ := gP y3581 X3577 hx hZ hown (w53 hw) e3577 b3572.f5 D
  have f3583 := f10_.other W3571 (Ne.symm ne_kv_bvs)
  have b3584 := f18_.other W3571 (Exa.neArv f18_.e f9_ (w308 hw))
  have K3585 := KK0.wr W3571 (Or.inl (by simp))
  have y3588 := rP 1 71 _ [.int 0, .ref bvs] y3582 X3582 hx D rfl
  have y3589 := fun (τ : State) kt => y3588 τ (XT.dup2 X3582.here hx rfl (D 71 rfl) rfl rfl rfl kt)
  have y3590 := dP y3589 X3582 hx hZ e3582 f3583 D
  have y3591 := rP 2 76 _ [.ref di, .double st, .double bv, .int 0, .ref bvs] y3590 X3582 hx D rfl
  obtain ⟨_, T3587, L3587, X3587, ⟨rfl, Nq3587, eq3587⟩, y3587⟩ := cV y3591 X3582 hx hZ hown hml.symm (own_V28 hw) (rmDb l Z a0 hw [] di kn bo h3571 n0 (Nat.le_trans Z0 K3585.1) b3584) 6 b3584.e e3582 [] [.double st, .double bv, .int 0, .ref bvs] D
  have f3592 := f20_.other W3571 (Ne.symm ne_kv_bo)
  have y3593 := rP 1 81 _ [.int 0, .ref bo, .double st, .double bv, .int 0, .ref bvs] y3587 X3587 hx D rfl
  have y3594 := dP y3593 X3587 hx hZ eq3587 f3592 D
  have y3595 := own_dmulP y3594 X3587 hx D (own_ok_no (own_ok_mul ok_st own_okc_4607182418800017408 (by decide)))
  have y3596 := own_dsubP y3595 X3587 hx D (own_ok_no (own_ok_sub ok_bv (own_ok_mul ok_st own_okc_4607182418800017408 (by decide)) (by decide)))
  obtain ⟨T3597, h3597, X3597, e3597, W3597, V3597, y3597⟩ := own_dstK y3596 X3587 hx hZ eq3587 f3583 rfl rfl (D 84 rfl) ⟨by decide, by decide⟩ 0 rfl (Nat.le_of_ble_eq_true rfl)
  have b3598 := b3572.other W3597 (Exa.neArv f0_.e f10_ (w3 hw))
  have y3599 := rP 4 49 [vr cm, vi 0, vi 1, vr di, vd st, .second, vi 1, vi 1, un, un, un] [.ref cm, .int 1] y3597 X3597 hx D rfl
  obtain ⟨T3600, X3600, e3600, y3600⟩ := gP y3599 X3597 hx hZ hown (w45 hw) e3597 b3598.f0 D
  have K3601 := K3585.wr W3597 (Or.inl (by simp))
  have y3604 := rP 8 106 [vr cm, vi 0, vi 1, vr di, vd st, .second, vi 1, vi 0, un, un, un] [.int 0, .ref cm] y3600 X3600 hx D rfl
  obtain ⟨_, T3603, L3603, X3603, ⟨rfl, Nq3603, eq3603⟩, y3603⟩ := cP y3604 X3600 hx hZ hown hml.symm (own_V19 hw) (rmBd0 l Z a0 hw [] cm h3597 n0 (Nat.le_trans Z0 K3601.1) b3598.e b3598.f0) 0 b3598.e e3600 [.int 0] [] D
  have y3607 := rP 5 134 _ [.int 0, .ref cm] y3603 X3603 hx D rfl
  obtain ⟨_, T3606, L3606, X3606, ⟨rfl, Nq3606, eq3606⟩, y3606⟩ := cP y3607 X3603 hx hZ hown hml.symm (own_V19 hw) (rmBd0 l Z a0 hw [] cm h3597 n0 (Nat.le_trans Z0 K3601.1) b3598.e b3598.f0) 0 b3598.e eq3603 [.int 0] [] D
  have y3608 := rP 6 147 [vr cm, vi 0, vi 1, vr di, vd st, .second, vi 1, vi 0, vi 0, un, un] [.ref cm] y3606 X3606 hx D rfl
  obtain ⟨T3609, X3609, e3609, y3609⟩ := gP y3608 X3606 hx hZ hown (w51 hw) eq3606 b3598.f4 D
  have f3610 := f3578.other W3597 (own_arv_ne f1_ f10_ (by decide))
  have b3611 := b3584.other W3597 (Exa.neArv f18_.e f10_ (w308 hw))
  have y3614 := rP 1 152 _ [.int 0, .ref sd] y3609 X3609 hx D rfl
  have y3615 := iP y3614 X3609 hx hZ e3609 f3610 D
  have y3616 := rP 1 154 _ [(.double (FP.i2d (1 : Int32)))] y3615 X3609 hx D rfl
  have y3617 := nD y3616 own_q1
  have y3618 := rP 1 155 _ [.ref di, .double 4607182418800017408] y3617 X3609 hx D rfl
  obtain ⟨_, T3613, L3613, X3613, ⟨rfl, Nq3613, eq3613⟩, y3613⟩ := cV y3618 X3609 hx hZ hown hml.symm (own_V28 hw) (rmDb l Z a0 hw [] di kn bo h3597 n0 (Nat.le_trans Z0 K3601.1) b3611) 2 b3611.e e3609 [] [.double 4607182418800017408] D
  have f3619 := f3592.other W3597 (Ne.symm ne_bvs_bo)
  have ni3621 : al ∉ [cm, sd, kv, bvs, x1, x2] := ninS (Ne.symm (Exa.ne f0_.e f11_.e (by decide))) (ninS (Exa.neArv f11_.e f1_ (w12 hw)) (ninS (Exa.neArv f11_.e f9_ (w12 hw)) (ninS (Exa.neArv f11_.e f10_ (w12 hw)) (ninS (Exa.ne f11_.e f14_.e (by decide)) (ninS (Exa.ne f11_.e f15_.e (by decide)) nin0)))))
  have b3620 := f11_.keep K3601 ni3621
  have ni3623 : ed ∉ [cm, sd, kv, bvs, x1, x2] := ninS (Ne.symm (Exa.neArv f0_.e f12_ (w3 hw))) (ninS (Ne.symm (own_arv_ne f1_ f12_ (by decide))) (ninS (Ne.symm (own_arv_ne f9_ f12_ (by decide))) (ninS (Ne.symm (own_arv_ne f10_ f12_ (by decide))) (ninS (Ne.symm (Exa.neArv f14_.e f12_ (w56 hw))) (ninS (Ne.symm (Exa.neArv f15_.e f12_ (w56 hw))) nin0)))))
  have f3622 := f12_.keep K3601 ni3623
  have b3624 := (f14_.other W3571 (Exa.neArv f14_.e f9_ (w56 hw))).other W3597 (Exa.neArv f14_.e f10_ (w56 hw))
  have b3625 := (f15_.other W3571 (Exa.neArv f15_.e f9_ (w56 hw))).other W3597 (Exa.neArv f15_.e f10_ (w56 hw))
  have ni3627 : t0 ∉ [cm, sd, kv, bvs, x1, x2] := ninS (Ne.symm (Exa.neArv f0_.e f16_ (w3 hw))) (ninS (Ne.symm (own_arv_ne f1_ f16_ (by decide))) (ninS (Ne.symm ne_kv_t0) (ninS (Ne.symm ne_bvs_t0) (ninS (Ne.symm (Exa.neArv f14_.e f16_ (w56 hw))) (ninS (Ne.symm (Exa.neArv f15_.e f16_ (w56 hw))) nin0)))))
  have f3626 := f16_.keep K3601 ni3627
  have ni3629 : t1 ∉ [cm, sd, kv, bvs, x1, x2] := ninS (Ne.symm (Exa.neArv f0_.e f17_ (w3 hw))) (ninS (Ne.symm (own_arv_ne f1_ f17_ (by decide))) (ninS (Ne.symm ne_kv_t1) (ninS (Ne.symm ne_bvs_t1) (ninS (Ne.symm (Exa.neArv f14_.e f17_ (w56 hw))) (ninS (Ne.symm (Exa.neArv f15_.e f17_ (w56 hw))) nin0)))))
  have f3628 := f17_.keep K3601 ni3629
  have y3632 := rP 1 160 _ [.int 0, .ref bo, .double 4607182418800017408] y3613 X3613 hx D rfl
  have y3633 := dP y3632 X3613 hx hZ eq3613 f3619 D
  have y3634 := own_dmulP y3633 X3613 hx D (own_ok_no own_okc_4607182418800017408)
  have y3635 := nD y3634 own_q36
  have y3636 := rP 4 168 [vr cm, vi 0, vi 1, vr di, vd st, .second, vi 1, vi 0, vi 0, vd 4607182418800017408, .second] [.int 0, .int 0, .ref cm] y3635 X3613 hx D rfl
  obtain ⟨_, T3631, L3631, X3631, ⟨at13630, sz13630, rfl, Nq3631, Kq3631, p3630_0, p3630_1, p3630_2, x3630_at1, x3630_sz1⟩, y3631⟩ := cP y3636 X3613 hx hZ hown hml.symm (own_V17 hw) (rmSsZ l Z a0 hw [] cm sd al ed x1 x2 t0 t1 k_sd k_ed k_t0 k_t1 cv0 co xe h3597 n0 (Nat.le_trans Z0 K3601.1) b3598.e b3598.f4 b3598.f3 f3610 b3620 f3622 f13_ b3624 b3625 f3626 f3628 ne_x1_x2 ne_t0_t1 gg_sd gg_x1 gg_x2 ok_xe) 0 b3598.e eq3613 [.int 0, .int 0] [] D
  have b3637 := b3611.keep Kq3631 (ninS (Exa.neArv f18_.e f1_ (w308 hw)) (ninS (Ne.symm (Exa.ne f14_.e f18_.e (by decide))) (ninS (Ne.symm (Exa.ne f15_.e f18_.e (by decide))) nin0)))
  have K3638 := K3601.trans Kq3631 (allS (Or.inl (by simp)) (allS (Or.inl (by simp)) (allS (Or.inl (by simp)) (all0))))
  have y3641 := rP 6 178 _ [.ref di, .int 0, .int 1, .ref cm] y3631 X3631 hx D rfl
  obtain ⟨_, T3640, L3640, X3640, ⟨rfl, Nq3640, eq3640⟩, y3640⟩ := cV y3641 X3631 hx hZ hown hml.symm (own_V27 hw) (rmDk l Z a0 hw [] di kn bo T3631.heap n0 (Nat.le_trans Z0 K3638.1) b3637) 3 b3637.e rfl [] [.int 0, .int 1, .ref cm] D
  have b3642 := b3598.keep Kq3631 (ninS (Exa.neArv f0_.e f1_ (w3 hw)) (ninS (Exa.ne f0_.e f14_.e (by decide)) (ninS (Exa.ne f0_.e f15_.e (by decide)) nin0)))
  have ni3644 : kr ∉ [cm, sd, kv, bvs, x1, x2] := ninS (Ne.symm (Exa.neArv f0_.e f2_ (w3 hw))) (ninS (Ne.symm ne_sd_kr) (ninS (own_arv_ne f2_ f9_ (by decide)) (ninS (own_arv_ne f2_ f10_ (by decide)) (ninS (Ne.symm (Exa.neArv f14_.e f2_ (w56 hw))) (ninS (Ne.symm (Exa.neArv f15_.e f2_ (w56 hw))) nin0)))))
  have f3643 := f2_.keep K3638 ni3644
  have ni3646 : kc ∉ [cm, sd, kv, bvs, x1, x2] := ninS (Ne.symm (Exa.neArv f0_.e f3_ (w3 hw))) (ninS (Ne.symm ne_sd_kc) (ninS (own_arv_ne f3_ f9_ (by decide)) (ninS (own_arv_ne f3_ f10_ (by decide)) (ninS (Ne.symm (Exa.neArv f14_.e f3_ (w56 hw))) (ninS (Ne.symm (Exa.neArv f15_.e f3_ (w56 hw))) nin0)))))
  have f3645 := f3_.keep K3638 ni3646
  have ni3648 : iv ∉ [cm, sd, kv, bvs, x1, x2] := ninS (Ne.symm (Exa.neArv f0_.e f4_ (w3 hw))) (ninS (Ne.symm (own_arv_ne f1_ f4_ (by decide))) (ninS (own_arv_ne f4_ f9_ (by decide)) (ninS (own_arv_ne f4_ f10_ (by decide)) (ninS (Ne.symm (Exa.neArv f14_.e f4_ (w56 hw))) (ninS (Ne.symm (Exa.neArv f15_.e f4_ (w56 hw))) nin0)))))
  have f3647 := f4_.keep K3638 ni3648
  have f3649 := f6_.keep K3638
  have ni3651 : i0 ∉ [cm, sd, kv, bvs, x1, x2] := ninS (Ne.symm (Exa.neArv f0_.e f7_ (w3 hw))) (ninS (Ne.symm (own_arv_ne f1_ f7_ (by decide))) (ninS ne_i0_kv (ninS ne_i0_bvs (ninS (Ne.symm (Exa.neArv f14_.e f7_ (w56 hw))) (ninS (Ne.symm (Exa.neArv f15_.e f7_ (w56 hw))) nin0)))))
  have f3650 := f7_.keep K3638 ni3651
  have f3652 := f8_.keep K3638
  have f3653 := (V3571.other W3597 ne_kv_bvs).keep Kq3631 (ninS (Ne.symm (own_arv_ne f1_ f9_ (by decide))) (ninS (Ne.symm (Exa.neArv f14_.e f9_ (w56 hw))) (ninS (Ne.symm (Exa.neArv f15_.e f9_ (w56 hw))) nin0)))
  have b3654 := b3620.keep Kq3631 (ninS (Exa.neArv f11_.e f1_ (w12 hw)) (ninS (Exa.ne f11_.e f14_.e (by decide)) (ninS (Exa.ne f11_.e f15_.e (by decide)) nin0)))
  have f3655 := f3622.keep Kq3631 (ninS (Ne.symm (own_arv_ne f1_ f12_ (by decide))) (ninS (Ne.symm (Exa.neArv f14_.e f12_ (w56 hw))) (ninS (Ne.symm (Exa.neArv f15_.e f12_ (w56 hw))) nin0)))
  have f3656 := f3628.keep Kq3631 (ninS (Ne.symm (own_arv_ne f1_ f17_ (by decide))) (ninS (Ne.symm (Exa.neArv f14_.e f17_ (w56 hw))) (ninS (Ne.symm (Exa.neArv f15_.e f17_ (w56 hw))) nin0)))
  have ni3658 : kn ∉ [cm, sd, kv, bvs, x1, x2] := ninS (Ne.symm (Exa.neArv f0_.e f19_ (w3 hw))) (ninS (Ne.symm (own_arv_ne f1_ f19_ (by decide))) (ninS (Ne.symm ne_kv_kn) (ninS (Ne.symm ne_bvs_kn) (ninS (Ne.symm (Exa.neArv f14_.e f19_ (w56 hw))) (ninS (Ne.symm (Exa.neArv f15_.e f19_ (w56 hw))) nin0)))))
  have f3657 := f19_.keep K3638 ni3658
  have y3661 := rP 2 185 _ [.double st, .double 4607182418800017408, .ref kn, .int 0, .int 1, .ref cm] y3640 X3640 hx D rfl
  obtain ⟨_, T3660, L3660, X3660, ⟨gx3659, krn, kcn, gr, g0, g1, vl, k_krn, k_kcn, k_gr, k_g0, k_g1, k_vl, rfl, Nq3660, Kq3660, g3659_krn, z3659_krn, g3659_kcn, z3659_kcn, g3659_gr, z3659_gr, g3659_g0, z3659_g0, g3659_g1, z3659_g1, g3659_vl, z3659_vl, w3659_0, w3659_1, w3659_2, w3659_3, p3659_0, p3659_1, p3659_2, p3659_3, p3659_4, p3659_5, p3659_6, p3659_7, p3659_8, p3659_9, p3659_10, p3659_11, x3659_gx⟩, y3660⟩ := cP y3661 X3640 hx hZ hown hml.symm (own_V29 hw) (rmGk l Z a0 hw [] cm kn st kr kc iv i0 kv al ed x1 x2 t1 k_kr k_kc k_iv k_i0 k_kv k_ed k_t1 k_kn uu cv0 (0 : UInt64) (0 : UInt64) xe sd bvs du t0 T3631.heap n0 (Nat.le_trans Z0 K3638.1) b3642 f3643 f3645 f3647 f5_ f3649 f3650 f3652 f3653 b3654 f3655 f13_ p3630_1 p3630_2.e p3630_2.f0 f3656 f3657 ne_kr_kc ne_i0_kv ne_i0_t1 ne_i0_kn ne_kv_t1 ne_kv_kn ne_x1_x2 ne_t1_kn gg_cm gg_x1 ok_xe) 0 b3642.e eq3640 [.int 1, .int 0, .ref kn, .double 4607182418800017408, .double st] [] D
  have sz_krn := Nat.le_trans K3638.1 z3659_krn
  have sz_kcn := Nat.le_trans K3638.1 z3659_kcn
  have sz_gr := Nat.le_trans K3638.1 z3659_gr
  have sz_g0 := Nat.le_trans K3638.1 z3659_g0
  have sz_g1 := Nat.le_trans K3638.1 z3659_g1
  have sz_vl := Nat.le_trans K3638.1 z3659_vl
  have y3662 := rP 3 297 _ [.ref cm, .ref cm] y3660 X3660 hx D rfl
  obtain ⟨T3663, X3663, e3663, y3663⟩ := gP y3662 X3660 hx hZ hown (w243 hw) rfl p3659_0.f12 D
  have y3664 := rP 2 302 _ [.int 1, .ref cm] y3663 X3663 hx D rfl
  obtain ⟨T3665, h3665, X3665, e3665, W3665, fw3665, y3665⟩ := own_putK y3664 X3663 hx hZ hown (w243 hw) Via.refl e3663 p3659_0.f12 p3659_0.e (Or.inl (w244 hw)) (w3 hw) .int (by decide) rfl rfl rfl rfl (D 302 rfl)
  have b3666 := p3659_0.p12 hw W3665
  have y3667 := rP 1 306 _ [.ref cm] y3665 X3665 hx D rfl
  obtain ⟨T3668, X3668, e3668, y3668⟩ := gP y3667 X3665 hx hZ hown (w243 hw) e3665 b3666.f12 D
  have f3669 := (p3630_0.keep Kq3660 (ninS (Ne.symm (Exa.neArv f0_.e f1_ (w3 hw))) (ninS (Ne.symm (Exa.neArv f14_.e f1_ (w56 hw))) nin0))).other W3665 (Ne.symm (Exa.neArv f0_.e f1_ (w3 hw)))
  have ne3670 := own_ltn f0_.e.lt sz_krn
  have f3671 := p3659_1.other W3665 (Ne.symm ne3670)
  have ne3672 := own_ltn f0_.e.lt sz_kcn
  have f3673 := p3659_2.other W3665 (Ne.symm ne3672)
  have ne3674 := own_ltn f0_.e.lt sz_gr
  have f3675 := p3659_3.other W3665 (Ne.symm ne3674)
  have f3676 := p3659_5.wr W3665
  have ne3677 := own_ltn f0_.e.lt sz_g0
  have f3678 := p3659_6.other W3665 (Ne.symm ne3677)
  have f3679 := p3659_7.wr W3665
  have ne3680 := own_ltn f0_.e.lt sz_g1
  have f3681 := p3659_8.other W3665 (Ne.symm ne3680)
  have f3682 := p3659_9.wr W3665
  have ne3683 := own_ltn f0_.e.lt sz_vl
  have f3684 := p3659_10.other W3665 (Ne.symm ne3683)
  have f3685 := ((V3597.keep Kq3631 (ninS (Ne.symm (own_arv_ne f1_ f10_ (by decide))) (ninS (Ne.symm (Exa.neArv f14_.e f10_ (w56 hw))) (ninS (Ne.symm (Exa.neArv f15_.e f10_ (w56 hw))) nin0)))).keep Kq3660 (ninS (Ne.symm (Exa.neArv f0_.e f10_ (w3 hw))) (ninS (Ne.symm (Exa.neArv f14_.e f10_ (w56 hw))) nin0))).other W3665 (Ne.symm (Exa.neArv f0_.e f10_ (w3 hw)))
  have b3686 := p3659_11.other W3665 (Ne.symm (Exa.ne f0_.e f14_.e (by decide)))
  have b3687 := (p3630_2.keep Kq3660 (ninS (Ne.symm (Exa.ne f0_.e f15_.e (by decide))) (ninS (Ne.symm ne_x1_x2) nin0))).other W3665 (Ne.symm (Exa.ne f0_.e f15_.e (by decide)))
  have K3688 := (K3638.trans Kq3660 (allS (Or.inl (by simp)) (allS (Or.inl (by simp)) (all0)))).wr W3665 (Or.inl (by simp))
  have y3689 := fun (τ : State) kt => y3668 τ (XS.bipush X3668.here hx rfl (D 309 rfl) kt)
  have y3690 := rP 1 318 _ [] y3689 X3668 hx D rfl
  exact own_retV X3668 hlk y3690 hx hret (D 318 rfl) (by decide) (by decide) e3668 ⟨gx3659, (FP.dsub bv (FP.dmul st (4607182418800017408 : UInt64))), at13630, sz13630, st, krn, kcn, gr, g0, g1, vl, k_krn, k_kcn, k_gr, k_g0, k_g1, k_vl, rfl, (Fr.snoc X3665 (Fr.app (Fr.app (Fr.app (Fr.app (Fr.app (Fr.app (Fr.snoc X3597 (Fr.app (Fr.snoc X3571 (Fr.app N0 Nq3561) gg_kv) Nq3587) gg_bvs) Nq3603) Nq3606) Nq3613) Nq3631) Nq3640) Nq3660) gg_cm), K3688, g3659_krn, sz_krn, g3659_kcn, sz_kcn, g3659_gr, sz_gr, g3659_g0, sz_g0, g3659_g1, sz_g1, g3659_vl, sz_vl, w3659_0, w3659_1, w3659_2, w3659_3, b3666, f3669, f3671, f3673, f3675, p3659_4, f3676, f3678, f3679, f3681, f3682, f3684, f3685, b3686, b3687, x3659_gx, (own_ok_mono (own_ok_sub ok_bv (own_ok_mul ok_st own_okc_4607182418800017408 (by decide)) (by decide)) (by decide)), x3630_at1, x3630_sz1, ok_st⟩
def Q_rmEr (Z : State) (cm : Addr) (sd kr kc iv i0 kv bvs al ed x1 x2 t0 t1 : Addr) (k_sd k_kr k_kc k_iv k_i0 k_kv k_bvs k_ed k_t0 k_t1 : ClassId) (uu bv cv0 co xe : UInt64) (du : Addr) (h0 : Heap) (n0 : Nat) (v : Option Value) (h : Heap) (L : List Loc) : Prop := ∃ (gx : UInt64) (b2 : UInt64) (at1 : UInt64) (sz1 : UInt64) (vl1 : UInt64) (krn : Addr) (kcn : Addr) (gr : Addr) (g0 : Addr) (g1 : Addr) (vl : Addr) (k_krn : ClassId) (k_kcn : ClassId) (k_gr : ClassId) (k_g0 : ClassId) (k_g1 : ClassId) (k_vl : ClassId), v = some (.double (FP.ddiv bv (4607182418800017408 : UInt64))) ∧ Fr n0 L ∧ Keep h0 h [cm, sd, kv, bvs, x1, x2] ∧ n0 ≤ krn ∧ h0.size ≤ krn ∧ n0 ≤ kcn ∧ h0.size ≤ kcn ∧ n0 ≤ gr ∧ h0.size ≤ gr ∧ n0 ≤ g0 ∧ h0.size ≤ g0 ∧ n0 ≤ g1 ∧ h0.size ≤ g1 ∧ n0 ≤ vl ∧ h0.size ≤ vl ∧ krn ≠ kcn ∧ g0 ≠ g1 ∧ g0 ≠ vl ∧ g1 ≠ vl ∧ own_BC Z h cm (.int 1) (.int 2) (.int 2000) (.ref al) (.ref sd) (.ref bvs) (.ref krn) (.ref kcn) (.ref gr) (.ref vl) (.double uu) (.ref du) (.int 1) ∧ Arv Z h sd k_sd .int 1 [.int 0] (.int 0) ∧ Arv Z h krn k_krn .int 2 [.int 0, .int 1] (.int 0) ∧ Arv Z h kcn k_kcn .int 2 [.int 1, .int 0] (.int 0) ∧ Arv Z h gr k_gr (.array .double) (2 : Int32) [.ref g0, .ref g1] .null ∧ OvrA Z k_gr .double "[D" ∧ Exa Z h gr "[[D" ∧ Arv Z h g0 k_g0 .double (2 : Int32) [.double 4607182418800017408, .double 9223372036854775808] (.double 0) ∧ Exa Z h g0 "[D" ∧ Arv Z h g1 k_g1 .double (2 : Int32) [.double gx, .double 4607182418800017408] (.double 0) ∧ Exa Z h g1 "[D" ∧ Arv Z h vl k_vl .double (2 : Int32) [.double 4607182418800017408, .double vl1] (.double 0) ∧ Arv Z h bvs k_bvs .double (1 : Int32) [.double b2] (.double 0) ∧ own_BD Z h x1 (.ref t0) (.double cv0) (.double 0) (.double 0) (.int 1) ∧ own_BD Z h x2 (.ref t1) (.double co) (.double at1) (.double sz1) (.int 1) ∧ own_ok 1 gx ∧ own_ok 2 b2 ∧ own_sz at1 ∧ own_ok 2 sz1 ∧ own_ok 1 vl1
theorem rmEr (l : Launch) (Z : State) (a0 : Array Value) (hw : own_Hw a0 Z) (ws : List Jvm.Cond) (cm : Addr) (sd kr kc iv i0 kv bvs al ed x1 x2 t0 t1 : Addr) (k_sd k_kr k_kc k_iv k_i0 k_kv k_bvs k_ed k_t0 k_t1 : ClassId) (uu bv cv0 co xe : UInt64) (du : Addr) (h0 : Heap) (n0 : Nat) (Z0 : n0 ≤ h0.size) (f0_ : own_BC Z h0 cm (.int 1) (.int 2) (.int 2000) (.ref al) (.ref sd) (.ref bvs) (.ref kr) (.ref kc) (.ref iv) (.ref kv) (.double uu) (.ref du) (.int 0)) (f1_ : Arv Z h0 sd k_sd .int 1 [.int 1] (.int 0)) (f2_ : Arv Z h0 kr k_kr .int 1 [.int 0] (.int 0)) (f3_ : Arv Z h0 kc k_kc .int 1 [.int 1] (.int 0)) (f4_ : Arv Z h0 iv k_iv (.array .double) (1 : Int32) [.ref i0] .null) (f5_ : OvrA Z k_iv .double "[D") (f6_ : Exa Z h0 iv "[[D") (f7_ : Arv Z h0 i0 k_i0 .double (1 : Int32) [.double 4607182418800017408] (.double 0)) (f8_ : Exa Z h0 i0 "[D") (f9_ : Arv Z h0 kv k_kv .double (1 : Int32) [.double 4607182418800017408] (.double 0)) (f10_ : Arv Z h0 bvs k_bvs .double (1 : Int32) [.double bv] (.double 0)) (f11_ : own_BA Z h0 al (.ref ed) (.int 2) (.int 2)) (f12_ : Arv Z h0 ed k_ed (.object "java/lang/Object") (10 : Int32) [.ref x1, .ref x2, .null, .null, .null, .null, .null, .null, .null, .null] .null) (f13_ : Ovr Z k_ed "java/lang/Object") (f14_ : own_BD Z h0 x1 (.ref t0) (.double cv0) (.double 4607182418800017408) (.double 4607182418800017408) (.int 0)) (f15_ : own_BD Z h0 x2 (.ref t1) (.double co) (.double (FP.dadd (0 : UInt64) (FP.dmul (4607182418800017408 : UInt64) xe))) (.double (FP.dadd (0 : UInt64) (FP.dmul (4607182418800017408 : UInt64) (xe &&& (9223372036854775807 : UInt64))))) (.int 1)) (f16_ : Arv Z h0 t0 k_t0 .double (2 : Int32) [.double 0, .double 4607182418800017408] (.double 0)) (f17_ : Arv Z h0 t1 k_t1 .double (2 : Int32) [.double 4607182418800017408, .double xe] (.double 0)) (ne_sd_kr : sd ≠ kr) (ne_sd_kc : sd ≠ kc) (ne_kr_kc : kr ≠ kc) (ne_i0_kv : i0 ≠ kv) (ne_i0_bvs : i0 ≠ bvs) (ne_i0_t0 : i0 ≠ t0) (ne_i0_t1 : i0 ≠ t1) (ne_kv_bvs : kv ≠ bvs) (ne_kv_t0 : kv ≠ t0) (ne_kv_t1 : kv ≠ t1) (ne_bvs_t0 : bvs ≠ t0) (ne_bvs_t1 : bvs ≠ t1) (ne_x1_x2 : x1 ≠ x2) (ne_t0_t1 : t0 ≠ t1) (gg_cm : n0 ≤ cm) (gg_sd : n0 ≤ sd) (gg_kv : n0 ≤ kv) (gg_bvs : n0 ≤ bvs) (gg_x1 : n0 ≤ x1) (gg_x2 : n0 ≤ x2) (ok_xe : own_ok 1 xe) (ok_bv : own_ok 1 bv) : own_Met l Z own_mn48 prog_26_method_7_code 13 (some .double) ws ⟨6, 12, 23, 106⟩ #[.ref cm, .int 0, .int 0] h0 (Q_rmEr Z cm sd kr kc iv i0 kv bvs al ed x1 x2 t0 t1 k_sd k_kr k_kc k_iv k_i0 k_kv k_bvs k_ed k_t0 k_t1 uu bv cv0 co xe du h0 n0) := by
  refine own_begS sC n0 [cm, sd, kv, bvs, x1, x2] #[vr cm, vi 0, vi 0, un, un, un, un, un, un, un, un, un, un] oT43 (plainFor_of_name own_pn_sC) fun p e s m below meth c s₁ hx D hml hown hnm hret hlk hZ X0 e0 PS y0 N0 KK0 => ?_
  have y3693 := rP 2 2 _ [.int 0, .ref cm] y0 X0 hx D rfl
  obtain ⟨_, T3692, L3692, X3692, ⟨di, kn, bo, k_kn, k_bo, rfl, Nq3692, Kq3692, g3691_di, z3691_di, g3691_kn, z3691_kn, g3691_bo, z3691_bo, w3691_0, p3691_0, p3691_1, p3691_2⟩, y3692⟩ := cP y3693 X0 hx hZ hown hml.symm (own_V30 hw) (rmDr l Z a0 hw [] cm sd kr kc iv i0 al ed x1 t0 k_sd k_kr k_kc k_iv k_i0 k_ed k_t0 x2 h0 n0 (Nat.le_trans Z0 KK0.1) f0_.e f0_.f0 f0_.f1 f0_.f3 f0_.f4 f0_.f6 f0_.f7 f0_.f8 f1_ f2_ f3_ f4_ f5_ f6_ f7_ f8_ f11_ f12_ f13_ f14_.e f14_.f0 f16_ ne_sd_kr ne_sd_kc ne_kr_kc ne_i0_t0) 0 f0_.e e0 [.int 0] [] D
  have sz_di := Nat.le_trans KK0.1 z3691_di
  have sz_kn := Nat.le_trans KK0.1 z3691_kn
  have sz_bo := Nat.le_trans KK0.1 z3691_bo
  have b3694 := f0_.keep Kq3692 nin0
  have y3695 := rP 2 7 [vr cm, vi 0, vi 0, vr di, un, un, un, un, un, un, un, un, un] [.ref cm] y3692 X3692 hx D rfl
  obtain ⟨T3696, X3696, e3696, y3696⟩ := gP y3695 X3692 hx hZ hown (w40 hw) rfl b3694.f7 D
  have f3697 := f3_.keep Kq3692 nin0
  have y3698 := lP y3696 X3696 hx hZ e3696 f3697 D
  have y3699 := rP 1 12 _ [.ref cm, .int 1] y3698 X3696 hx D rfl
  obtain ⟨T3700, X3700, e3700, y3700⟩ := gP y3699 X3696 hx hZ hown (w45 hw) e3696 b3694.f0 D
  have K3701 := KK0.trans Kq3692 (all0)
  have y3704 := rP 4 21 [vr cm, vi 0, vi 0, vr di, vi 2, vd 0, .second, un, un, un, un, un, un] [] y3700 X3700 hx D rfl
  have y3705 := rP 8 36 [vr cm, vi 0, vi 0, vr di, vi 2, vd 0, .second, vi 0, un, un, un, un, un] [.int 0, .ref di, .double 0] y3704 X3700 hx D rfl
  obtain ⟨_, T3703, L3703, X3703, ⟨rfl, Nq3703, eq3703⟩, y3703⟩ := cV y3705 X3700 hx hZ hown hml.symm (own_V31 hw) (rmAt0 l Z a0 hw [] di kn bo k_kn k_bo T3692.heap n0 (Nat.le_trans Z0 K3701.1) p3691_0 p3691_1 p3691_2 w3691_0) 2 p3691_0.e e3700 [.int 0] [.double 0] D
  obtain ⟨T3706, X3706, e3706, y3706⟩ := own_absR (W := 2) y3703 X3703 hx hZ hown (w108 hw) (w109 hw) (w96 hw) (w110 hw) eq3703 (own_ok_no own_okc_0) rfl hml.symm rfl (Nat.le_of_eq rfl) (D 39 rfl) (by decide) (by decide) (by decide) (by decide)
  have y3707 := nD y3706 own_q14
  obtain ⟨T3708, X3708, e3708, y3708⟩ := own_maxR (W := 0) y3707 X3706 hx hZ hown (w111 hw) (w112 hw) (w96 hw) (w113 hw) e3706 (own_ok_no own_okc_0) (own_ok_no own_okc_0) rfl hml.symm rfl (Nat.le_of_eq rfl) (D 42 rfl) (by decide) (by decide) (by decide) (by decide)
  have y3711 := nD y3708 own_q39
  have y3712 := rP 2 50 [vr cm, vi 0, vi 0, vr di, vi 2, vd 0, .second, vi 1, un, un, un, un, un] [] y3711 X3708 hx D rfl
  have y3713 := rP 7 36 _ [.int 1, .ref di, .double 0] y3712 X3708 hx D rfl
  obtain ⟨_, T3710, L3710, X3710, ⟨rfl, Nq3710, eq3710⟩, y3710⟩ := cV y3713 X3708 hx hZ hown hml.symm (own_V31 hw) (rmAt1 l Z a0 hw [] di kn bo k_kn k_bo T3692.heap n0 (Nat.le_trans Z0 K3701.1) p3691_0 p3691_1 p3691_2 w3691_0) 2 p3691_0.e e3708 [.int 1] [.double 0] D
  obtain ⟨T3714, X3714, e3714, y3714⟩ := own_absR (W := 2) y3710 X3710 hx hZ hown (w108 hw) (w109 hw) (w96 hw) (w110 hw) eq3710 (own_ok_no own_okc_4607182418800017408) rfl hml.symm rfl (Nat.le_of_eq rfl) (D 39 rfl) (by decide) (by decide) (by decide) (by decide)
  have y3715 := nD y3714 own_q11
  obtain ⟨T3716, X3716, e3716, y3716⟩ := own_maxR (W := 0) y3715 X3714 hx hZ hown (w111 hw) (w112 hw) (w96 hw) (w113 hw) e3714 (own_ok_no own_okc_0) (own_ok_no own_okc_4607182418800017408) rfl hml.symm rfl (Nat.le_of_eq rfl) (D 42 rfl) (by decide) (by decide) (by decide) (by decide)
  have y3719 := nD y3716 own_q13
  have y3720 := rP 2 50 [vr cm, vi 0, vi 0, vr di, vi 2, vd 4607182418800017408, .second, vi 2, un, un, un, un, un] [] y3719 X3716 hx D rfl
  have y3721 := rP 6 56 [vr cm, vi 0, vi 0, vr di, vi 2, vd 4607182418800017408, .second, vi (-1), un, un, un, un, un] [] y3720 X3716 hx D rfl
  have y3722 := fun (τ : State) kt => y3721 τ (X3716.ldc2DoubleC hx hown (mvT hZ (w328 hw)) (g := (mkF m 56 #[vr cm, vi 0, vi 0, vr di, vi 2, vd 4607182418800017408, .second, vi (-1), un, un, un, un, un] [])) rfl (D 56 rfl) _ kt)
  have y3723 := rP 3 64 [vr cm, vi 0, vi 0, vr di, vi 2, vd 4607182418800017408, .second, vi (-1), vd 9218868437227405312, .second, vi 0, un, un] [] y3722 X3716 hx D rfl
  have y3724 := rP 5 74 _ [.int 0, .ref di] y3723 X3716 hx D rfl
  obtain ⟨_, T3718, L3718, X3718, ⟨rfl, Nq3718, eq3718⟩, y3718⟩ := cV y3724 X3716 hx hZ hown hml.symm (own_V31 hw) (rmAt0 l Z a0 hw [] di kn bo k_kn k_bo T3692.heap n0 (Nat.le_trans Z0 K3701.1) p3691_0 p3691_1 p3691_2 w3691_0) 0 p3691_0.e e3716 [.int 0] [] D
  have y3727 := fun (τ : State) kt => y3718 τ (X3718.ldc2DoubleC hx hown (mvT hZ (w329 hw)) (g := (mkF m 77 #[vr cm, vi 0, vi 0, vr di, vi 2, vd 4607182418800017408, .second, vi (-1), vd 9218868437227405312, .second, vi 0, un, un] [.double 0])) rfl (D 77 rfl) _ kt)
  have y3728 := rP 1 82 _ [.double 4607182418800017408, .double 4472406533629990549, .double 0] y3727 X3718 hx D rfl
  have y3729 := own_dmulP y3728 X3718 hx D (own_ok_no own_okc_4472406533629990549)
  have y3730 := nD y3729 own_q40
  have y3731 := rP 1 84 _ [(.int (cmpValue (FP.dcmp (0 : UInt64) (4472406533629990549 : UInt64)) .l))] y3730 X3718 hx D rfl
  have y3732 := nI y3731 own_q41
  have y3733 := rP 8 74 [vr cm, vi 0, vi 0, vr di, vi 2, vd 4607182418800017408, .second, vi (-1), vd 9218868437227405312, .second, vi 1, un, un] [.int 1, .ref di] y3732 X3718 hx D rfl
  obtain ⟨_, T3726, L3726, X3726, ⟨rfl, Nq3726, eq3726⟩, y3726⟩ := cV y3733 X3718 hx hZ hown hml.symm (own_V31 hw) (rmAt1 l Z a0 hw [] di kn bo k_kn k_bo T3692.heap n0 (Nat.le_trans Z0 K3701.1) p3691_0 p3691_1 p3691_2 w3691_0) 0 p3691_0.e eq3718 [.int 1] [] D
  have f3734 := f10_.keep Kq3692 nin0
  have y3737 := fun (τ : State) kt => y3726 τ (X3726.ldc2DoubleC hx hown (mvT hZ (w329 hw)) (g := (mkF m 77 #[vr cm, vi 0, vi 0, vr di, vi 2, vd 4607182418800017408, .second, vi (-1), vd 9218868437227405312, .second, vi 1, un, un] [.double 4607182418800017408])) rfl (D 77 rfl) _ kt)
  have y3738 := rP 1 82 _ [.double 4607182418800017408, .double 4472406533629990549, .double 4607182418800017408] y3737 X3726 hx D rfl
  have y3739 := own_dmulP y3738 X3726 hx D (own_ok_no own_okc_4472406533629990549)
  have y3740 := nD y3739 own_q40
  have y3741 := rP 1 84 _ [(.int (cmpValue (FP.dcmp (4607182418800017408 : UInt64) (4472406533629990549 : UInt64)) .l))] y3740 X3726 hx D rfl
  have y3742 := nI y3741 own_q42
  have y3743 := rP 3 90 _ [.int 1, .ref cm] y3742 X3726 hx D rfl
  obtain ⟨_, T3736, L3736, X3736, ⟨rfl, Nq3736, eq3736⟩, y3736⟩ := cP y3743 X3726 hx hZ hown hml.symm (own_V32 hw) (rmVa l Z a0 hw [] cm kc bvs k_kc k_bvs bv T3692.heap n0 (Nat.le_trans Z0 K3701.1) b3694.e b3694.f7 b3694.f5 f3697 f3734) 0 b3694.e eq3726 [.int 1] [] D
  have y3746 := rP 2 96 _ [.int 1, .ref di, .double bv] y3736 X3736 hx D rfl
  obtain ⟨_, T3745, L3745, X3745, ⟨rfl, Nq3745, eq3745⟩, y3745⟩ := cV y3746 X3736 hx hZ hown hml.symm (own_V31 hw) (rmAt1 l Z a0 hw [] di kn bo k_kn k_bo T3692.heap n0 (Nat.le_trans Z0 K3701.1) p3691_0 p3691_1 p3691_2 w3691_0) 2 p3691_0.e eq3736 [.int 1] [.double bv] D
  have y3747 := own_ddivP y3745 X3745 hx D (own_ok_no (own_ok_div1 ok_bv))
  have y3748 := rP 5 140 [vr cm, vi 0, vi 0, vr di, vi 2, vd 4607182418800017408, .second, vi 1, vd 9218868437227405312, .second, vi 1, .val (.double (FP.ddiv bv (4607182418800017408 : UInt64))), .second] [] y3747 X3745 hx D rfl
  have y3749 := rP 3 147 [vr cm, vi 0, vi 0, vr di, vi 2, vd 4607182418800017408, .second, vi 1, .val (.double (FP.ddiv bv (4607182418800017408 : UInt64))), .second, vi 2, .val (.double (FP.ddiv bv (4607182418800017408 : UInt64))), .second] [] y3748 X3745 hx D rfl
  have y3750 := rP 12 173 _ [.double 0, (.double (FP.ddiv bv (4607182418800017408 : UInt64))), .ref di, .int 1, .int 0, .ref cm] y3749 X3745 hx D rfl
  obtain ⟨T3751, X3751, e3751, y3751⟩ := own_maxR (W := 4) y3750 X3745 hx hZ hown (w111 hw) (w112 hw) (w96 hw) (w113 hw) eq3745 (own_ok_no (own_ok_div1 ok_bv)) (own_ok_no own_okc_0) rfl hml.symm rfl (Nat.le_of_eq rfl) (D 173 rfl) (by decide) (by decide) (by decide) (by decide)
  have f3752 := f1_.keep Kq3692 nin0
  have f3753 := f2_.keep Kq3692 nin0
  have f3754 := f4_.keep Kq3692 nin0
  have f3755 := f6_.keep Kq3692
  have f3756 := f7_.keep Kq3692 nin0
  have f3757 := f8_.keep Kq3692
  have f3758 := f9_.keep Kq3692 nin0
  have b3759 := f11_.keep Kq3692 nin0
  have f3760 := f12_.keep Kq3692 nin0
  have b3761 := f14_.keep Kq3692 nin0
  have b3762 := f15_.keep Kq3692 nin0
  have f3763 := f16_.keep Kq3692 nin0
  have f3764 := f17_.keep Kq3692 nin0
  have ne3765 := own_ltn f7_.lt sz_kn
  have ne3766 := own_ltn f7_.lt sz_bo
  have ne3767 := own_ltn f9_.lt sz_kn
  have ne3768 := own_ltn f9_.lt sz_bo
  have ne3769 := own_ltn f10_.lt sz_kn
  have ne3770 := own_ltn f10_.lt sz_bo
  have ne3771 := own_ltn f16_.lt sz_kn
  have ne3772 := own_ltn f16_.lt sz_bo
  have ne3773 := own_ltn f17_.lt sz_kn
  have ne3774 := own_ltn f17_.lt sz_bo
  obtain ⟨_, T3776, L3776, X3776, ⟨gx3775, b23775, at13775, sz13775, vl13775, krn, kcn, gr, g0, g1, vl, k_krn, k_kcn, k_gr, k_g0, k_g1, k_vl, rfl, Nq3776, Kq3776, g3775_krn, z3775_krn, g3775_kcn, z3775_kcn, g3775_gr, z3775_gr, g3775_g0, z3775_g0, g3775_g1, z3775_g1, g3775_vl, z3775_vl, w3775_0, w3775_1, w3775_2, w3775_3, p3775_0, p3775_1, p3775_2, p3775_3, p3775_4, p3775_5, p3775_6, p3775_7, p3775_8, p3775_9, p3775_10, p3775_11, p3775_12, p3775_13, p3775_14, x3775_gx, x3775_b2, x3775_at1, x3775_sz1, x3775_vl1⟩, y3776⟩ := cP y3751 X3751 hx hZ hown hml.symm (own_V33 hw) (rmPv l Z a0 hw [] cm di (Native.java_lang_Math.nans.pick64 true (FP.ddiv bv (4607182418800017408 : UInt64)) (0 : UInt64)) sd kr kc iv i0 kv bvs al ed x1 x2 t0 t1 kn bo k_sd k_kr k_kc k_iv k_i0 k_kv k_bvs k_ed k_t0 k_t1 k_kn k_bo uu bv cv0 co xe du T3692.heap n0 (Nat.le_trans Z0 K3701.1) b3694 f3752 f3753 f3697 f3754 f5_ f3755 f3756 f3757 f3758 f3734 b3759 f3760 f13_ b3761 b3762 f3763 f3764 p3691_0 p3691_1 p3691_2 ne_sd_kr ne_sd_kc ne_kr_kc ne_i0_kv ne_i0_bvs ne_i0_t0 ne_i0_t1 ne3765 ne3766 ne_kv_bvs ne_kv_t0 ne_kv_t1 ne3767 ne3768 ne_bvs_t0 ne_bvs_t1 ne3769 ne3770 ne_x1_x2 ne_t0_t1 ne3771 ne3772 ne3773 ne3774 w3691_0 gg_cm gg_sd gg_kv gg_bvs gg_x1 gg_x2 ok_xe ok_bv (own_ok_mono (own_ok_max (k := 1) (own_ok_div1 ok_bv) own_okc_0 (by decide) (by decide)) (by decide))) 0 b3694.e e3751 [.int 0, .int 1, .ref di, (.double (Native.java_lang_Math.nans.pick64 true (FP.ddiv bv (4607182418800017408 : UInt64)) (0 : UInt64)))] [] D
  have sz_krn := Nat.le_trans K3701.1 z3775_krn
  have sz_kcn := Nat.le_trans K3701.1 z3775_kcn
  have sz_gr := Nat.le_trans K3701.1 z3775_gr
  have sz_g0 := Nat.le_trans K3701.1 z3775_g0
  have sz_g1 := Nat.le_trans K3701.1 z3775_g1
  have sz_vl := Nat.le_trans K3701.1 z3775_vl
  have K3777 := K3701.trans Kq3776 (allS (Or.inl (by simp)) (allS (Or.inl (by simp)) (allS (Or.inl (by simp)) (allS (Or.inl (by simp)) (allS (Or.inl (by simp)) (allS (Or.inl (by simp)) (all0)))))))
  have y3778 := rP 1 181 _ [(.double (FP.ddiv bv (4607182418800017408 : UInt64)))] y3776 X3776 hx D rfl
  exact own_retDb X3776 hlk y3778 hx hret (D 181 rfl) (by decide) (by decide) rfl ⟨gx3775, b23775, at13775, sz13775, vl13775, krn, kcn, gr, g0, g1, vl, k_krn, k_kcn, k_gr, k_g0, k_g1, k_vl, rfl, (Fr.app (Fr.app (Fr.app (Fr.app (Fr.app (Fr.app (Fr.app (Fr.app N0 Nq3692) Nq3703) Nq3710) Nq3718) Nq3726) Nq3736) Nq3745) Nq3776), K3777, g3775_krn, sz_krn, g3775_kcn, sz_kcn, g3775_gr, sz_gr, g3775_g0, sz_g0, g3775_g1, sz_g1, g3775_vl, sz_vl, w3775_0, w3775_1, w3775_2, w3775_3, p3775_0, p3775_1, p3775_2, p3775_3, p3775_4, p3775_5, p3775_6, p3775_7, p3775_8, p3775_9, p3775_10, p3775_11, p3775_12, p3775_13, p3775_14, x3775_gx, x3775_b2, x3775_at1, x3775_sz1, x3775_vl1⟩
def Q_rmBo (Z : State) (cm : Addr) (du : Addr) (k_du : ClassId) (yy0 yy1 uu : UInt64) (h0 : Heap) (n0 : Nat) (v : Option Value) (h : Heap) (L : List Loc) : Prop := v = some (.double (FP.dmul yy0 uu)) ∧ Fr n0 L ∧ h = h0
theorem rmBo (l : Launch) (Z : State) (a0 : Array Value) (hw : own_Hw a0 Z) (ws : List Jvm.Cond) (cm : Addr) (du : Addr) (k_du : ClassId) (yy0 yy1 uu : UInt64) (h0 : Heap) (n0 : Nat) (Z0 : n0 ≤ h0.size) (f0_ : Exa Z h0 cm sC) (f1_ : Fld Z h0 cm sC "duals" "[D" (.ref du)) (f2_ : Fld Z h0 cm sC "unit" "D" (.double uu)) (f3_ : Arv Z h0 du k_du .double (2 : Int32) [.double yy0, .double yy1] (.double 0)) (ok_yy0 : own_ok 2 yy0) (ok_uu : own_ok 1048576 uu) : own_Met l Z own_mn49 prog_26_method_4_code 1 (some .double) ws ⟨0, 0, 0, 0⟩ #[.ref cm] h0 (Q_rmBo Z cm du k_du yy0 yy1 uu h0 n0) := by
  refine own_begS sC n0 [] #[vr cm] oT41 (plainFor_of_name own_pn_sC) fun p e s m below meth c s₁ hx D hml hown hnm hret hlk hZ X0 e0 PS y0 N0 KK0 => ?_
  have y3779 := rP 1 1 _ [.ref cm] y0 X0 hx D rfl
  obtain ⟨T3780, X3780, e3780, y3780⟩ := gP y3779 X0 hx hZ hown (w43 hw) e0 f1_ D
  have y3781 := rP 1 5 _ [.int 0, .ref du] y3780 X3780 hx D rfl
  have y3782 := dP y3781 X3780 hx hZ e3780 f3_ D
  have y3783 := rP 1 7 _ [.ref cm, .double yy0] y3782 X3780 hx D rfl
  obtain ⟨T3784, X3784, e3784, y3784⟩ := gP y3783 X3780 hx hZ hown (w114 hw) e3780 f2_ D
  have y3785 := own_dmulP y3784 X3784 hx D (own_ok_no (own_ok_mul ok_yy0 ok_uu (by decide)))
  exact own_retDb X3784 hlk y3785 hx hret (D 11 rfl) (by decide) (by decide) e3784 ⟨rfl, N0, rfl⟩
def Q_rmSoM (Z : State) (cm : Addr) (sd kr kc iv i0 al ed x1 x2 t0 : Addr) (k_sd k_kr k_kc k_iv k_i0 k_ed k_t0 : ClassId) (uu co pn1 tv p0 z0 : UInt64) (bvs kv du : Addr) (h0 : Heap) (n0 : Nat) (v : Option Value) (h : Heap) (L : List Loc) : Prop := ∃ (yy : Addr) (k_yy : ClassId), v = none ∧ Fr n0 L ∧ Keep h0 h [cm] ∧ n0 ≤ yy ∧ h0.size ≤ yy ∧ own_BC Z h cm (.int 1) (.int 2) (.int 2000) (.ref al) (.ref sd) (.ref bvs) (.ref kr) (.ref kc) (.ref iv) (.ref kv) (.double uu) (.ref yy) (.int 0) ∧ Arv Z h yy k_yy .double (2 : Int32) [(.double (FP.dadd (0 : UInt64) (FP.dmul (FP.dsub co pn1) (4607182418800017408 : UInt64)))), .double 0] (.double 0)
theorem rmSoM (l : Launch) (Z : State) (a0 : Array Value) (hw : own_Hw a0 Z) (ws : List Jvm.Cond) (cm : Addr) (sd kr kc iv i0 al ed x1 x2 t0 : Addr) (k_sd k_kr k_kc k_iv k_i0 k_ed k_t0 : ClassId) (uu co pn1 tv p0 z0 : UInt64) (bvs kv du : Addr) (h0 : Heap) (n0 : Nat) (Z0 : n0 ≤ h0.size) (f0_ : own_BC Z h0 cm (.int 1) (.int 2) (.int 2000) (.ref al) (.ref sd) (.ref bvs) (.ref kr) (.ref kc) (.ref iv) (.ref kv) (.double uu) (.ref du) (.int 0)) (f1_ : Arv Z h0 sd k_sd .int 1 [.int (-1)] (.int 0)) (f2_ : Arv Z h0 kr k_kr .int 1 [.int 0] (.int 0)) (f3_ : Arv Z h0 kc k_kc .int 1 [.int 1] (.int 0)) (f4_ : Arv Z h0 iv k_iv (.array .double) (1 : Int32) [.ref i0] .null) (f5_ : OvrA Z k_iv .double "[D") (f6_ : Exa Z h0 iv "[[D") (f7_ : Arv Z h0 i0 k_i0 .double (1 : Int32) [.double 4607182418800017408] (.double 0)) (f8_ : Exa Z h0 i0 "[D") (f9_ : own_BA Z h0 al (.ref ed) (.int 2) (.int 2)) (f10_ : Arv Z h0 ed k_ed (.object "java/lang/Object") (10 : Int32) [.ref x1, .ref x2, .null, .null, .null, .null, .null, .null, .null, .null] .null) (f11_ : Ovr Z k_ed "java/lang/Object") (f12_ : own_BD Z h0 x1 (.ref t0) (.double tv) (.double p0) (.double z0) (.int 0)) (f13_ : Exa Z h0 x2 sD) (f14_ : Fld Z h0 x2 sD "cost" "D" (.double co)) (f15_ : Fld Z h0 x2 sD "atOne" "D" (.double pn1)) (f16_ : Fld Z h0 x2 sD "basic" "Z" (.int 1)) (f17_ : Arv Z h0 t0 k_t0 .double (2 : Int32) [.double 0, .double 4607182418800017408] (.double 0)) (ne_sd_kr : sd ≠ kr) (ne_sd_kc : sd ≠ kc) (ne_kr_kc : kr ≠ kc) (ne_i0_t0 : i0 ≠ t0) (ne_x1_x2 : x1 ≠ x2) (gg_cm : n0 ≤ cm) (hp : p0 = 0 ∨ p0 = (4607182418800017408 : UInt64)) (hc : own_nb tv p0 z0) (ok_co : own_ok 1 co) (ok_pn1 : own_ok 1 pn1) (ok_tv : own_ok 1 tv) (ok_p0 : own_ok 1 p0) (ok_z0 : own_ok 1 z0) : own_Met l Z own_mn50 prog_26_method_3_code 8 none ws ⟨5, 1, 2, 87⟩ #[.ref cm] h0 (Q_rmSoM Z cm sd kr kc iv i0 al ed x1 x2 t0 k_sd k_kr k_kc k_iv k_i0 k_ed k_t0 uu co pn1 tv p0 z0 bvs kv du h0 n0) := by
  refine own_begS sC n0 [cm] #[vr cm, un, un, un, un, un, un, un] oT32 (plainFor_of_name own_pn_sC) fun p e s m below meth c s₁ hx D hml hown hnm hret hlk hZ X0 e0 PS y0 N0 KK0 => ?_
  have y3786 := rP 4 4 [vr cm, vi 0, vi 0, un, un, un, un, un] [] y0 X0 hx D rfl
  have y3787 := rP 4 8 [vr cm, vi 0, vi 0, vi 0, un, un, un, un] [.ref cm, .int 0] y3786 X0 hx D rfl
  obtain ⟨T3788, X3788, e3788, y3788⟩ := gP y3787 X0 hx hZ hown (w49 hw) e0 f0_.f2 D
  have y3791 := rP 3 16 _ [.ref cm, .ref cm] y3788 X3788 hx D rfl
  obtain ⟨_, T3790, L3790, X3790, ⟨yy, k_yy, rfl, Nq3790, Kq3790, g3789_yy, z3789_yy, p3789_0⟩, y3790⟩ := cP y3791 X3788 hx hZ hown hml.symm (own_V34 hw) (rmDuM l Z a0 hw [] cm sd kr kc iv i0 al ed x2 k_sd k_kr k_kc k_iv k_i0 k_ed co pn1 x1 h0 n0 (Nat.le_trans Z0 KK0.1) f0_.e f0_.f0 f0_.f1 f0_.f3 f0_.f4 f0_.f6 f0_.f7 f0_.f8 f1_ f2_ f3_ f4_ f5_ f6_ f7_ f8_ f9_ f10_ f11_ f13_ f14_ f15_ ne_sd_kr ne_sd_kc ne_kr_kc ok_co ok_pn1) 1 f0_.e e3788 [] [.ref cm] D
  have sz_yy := Nat.le_trans KK0.1 z3789_yy
  have b3792 := f0_.keep Kq3790 nin0
  obtain ⟨T3793, h3793, X3793, e3793, W3793, fw3793, y3793⟩ := own_putK y3790 X3790 hx hZ hown (w43 hw) Via.refl rfl b3792.f11 b3792.e (Or.inl (w44 hw)) (w3 hw) (.array .double) (by decide) rfl rfl rfl rfl (D 19 rfl)
  have b3794 := b3792.p11 hw W3793
  have y3795 := rP 3 25 _ [.ref cm, .int 2, .int 0] y3793 X3793 hx D rfl
  obtain ⟨T3796, X3796, e3796, y3796⟩ := gP y3795 X3793 hx hZ hown (w47 hw) e3793 b3794.f1 D
  have K3797 := (KK0.trans Kq3790 (all0)).wr W3793 (Or.inl (by simp))
  have ni3799 : kr ∉ [cm] := ninS (Ne.symm (Exa.neArv f0_.e f2_ (w3 hw))) nin0
  have f3798 := f2_.keep K3797 ni3799
  have ni3801 : sd ∉ [cm] := ninS (Ne.symm (Exa.neArv f0_.e f1_ (w3 hw))) nin0
  have f3800 := f1_.keep K3797 ni3801
  have ne3802 := own_ltn f0_.e.lt sz_yy
  have f3803 := p3789_0.other W3793 (Ne.symm ne3802)
  have ni3805 : al ∉ [cm] := ninS (Ne.symm (Exa.ne f0_.e f9_.e (by decide))) nin0
  have b3804 := f9_.keep K3797 ni3805
  have ni3807 : ed ∉ [cm] := ninS (Ne.symm (Exa.neArv f0_.e f10_ (w3 hw))) nin0
  have f3806 := f10_.keep K3797 ni3807
  have ni3809 : x1 ∉ [cm] := ninS (Ne.symm (Exa.ne f0_.e f12_.e (by decide))) nin0
  have b3808 := f12_.keep K3797 ni3809
  have f3810 := f13_.keep K3797
  have ni3812 : x2 ∉ [cm] := ninS (Ne.symm (Exa.ne f0_.e f13_ (by decide))) nin0
  have f3811 := f16_.keep K3797 ni3812
  have ni3814 : t0 ∉ [cm] := ninS (Ne.symm (Exa.neArv f0_.e f17_ (w3 hw))) nin0
  have f3813 := f17_.keep K3797 ni3814
  have ne3815 := own_ltn f17_.lt sz_yy
  have y3818 := rP 6 42 [vr cm, vi 0, vi 0, vi 0, vi 0, un, un, un] [.int 0, .ref cm] y3796 X3796 hx D rfl
  obtain ⟨_, T3817, L3817, X3817, ⟨rfl, Nq3817, eq3817⟩, y3817⟩ := cP y3818 X3796 hx hZ hown hml.symm (own_V35 hw) (rmEnM l Z a0 hw [] cm kr sd yy al ed x1 x2 t0 k_kr k_sd k_yy k_ed k_t0 (FP.dadd (0 : UInt64) (FP.dmul (FP.dsub co pn1) (4607182418800017408 : UInt64))) tv p0 z0 h3793 n0 (Nat.le_trans Z0 K3797.1) b3794.e b3794.f0 b3794.f3 b3794.f4 b3794.f6 b3794.f11 f3798 f3800 f3803 b3804 f3806 f11_ b3808 f3810 f3811 f3813 (Ne.symm ne_sd_kr) (Ne.symm ne3815) ne_x1_x2 hp hc (own_ok_mono (own_ok_add own_okc_0 (own_ok_mul (own_ok_sub ok_co ok_pn1 (by decide)) own_okc_4607182418800017408 (by decide)) (by decide)) (by decide)) ok_tv ok_p0 ok_z0) 0 b3794.e e3796 [.int 0] [] D
  have y3819 := rP 6 57 [vr cm, vi 0, vi 0, vi 0, vi 0, vi (-1), un, un] [.ref cm] y3817 X3817 hx D rfl
  obtain ⟨T3820, X3820, e3820, y3820⟩ := gP y3819 X3817 hx hZ hown (w243 hw) eq3817 b3794.f12 D
  have y3821 := rP 1 63 _ [] y3820 X3820 hx D rfl
  exact own_retV X3820 hlk y3821 hx hret (D 63 rfl) (by decide) (by decide) e3820 ⟨yy, k_yy, rfl, (Fr.app (Fr.snoc X3793 (Fr.app N0 Nq3790) gg_cm) Nq3817), K3797, g3789_yy, sz_yy, b3794, f3803⟩
def Q_rmSoP (Z : State) (cm : Addr) (sd kr kc iv i0 al ed x1 x2 t0 : Addr) (k_sd k_kr k_kc k_iv k_i0 k_ed k_t0 : ClassId) (uu co pn1 tv p0 z0 : UInt64) (bvs kv du : Addr) (h0 : Heap) (n0 : Nat) (v : Option Value) (h : Heap) (L : List Loc) : Prop := ∃ (yy : Addr) (k_yy : ClassId), v = none ∧ Fr n0 L ∧ Keep h0 h [cm] ∧ n0 ≤ yy ∧ h0.size ≤ yy ∧ own_BC Z h cm (.int 1) (.int 2) (.int 2000) (.ref al) (.ref sd) (.ref bvs) (.ref kr) (.ref kc) (.ref iv) (.ref kv) (.double uu) (.ref yy) (.int 0) ∧ Arv Z h yy k_yy .double (2 : Int32) [(.double (FP.dadd (0 : UInt64) (FP.dmul (FP.dsub co pn1) (4607182418800017408 : UInt64)))), .double 4607182418800017408] (.double 0)
theorem rmSoP (l : Launch) (Z : State) (a0 : Array Value) (hw : own_Hw a0 Z) (ws : List Jvm.Cond) (cm : Addr) (sd kr kc iv i0 al ed x1 x2 t0 : Addr) (k_sd k_kr k_kc k_iv k_i0 k_ed k_t0 : ClassId) (uu co pn1 tv p0 z0 : UInt64) (bvs kv du : Addr) (h0 : Heap) (n0 : Nat) (Z0 : n0 ≤ h0.size) (f0_ : own_BC Z h0 cm (.int 1) (.int 2) (.int 2000) (.ref al) (.ref sd) (.ref bvs) (.ref kr) (.ref kc) (.ref iv) (.ref kv) (.double uu) (.ref du) (.int 0)) (f1_ : Arv Z h0 sd k_sd .int 1 [.int 1] (.int 0)) (f2_ : Arv Z h0 kr k_kr .int 1 [.int 0] (.int 0)) (f3_ : Arv Z h0 kc k_kc .int 1 [.int 1] (.int 0)) (f4_ : Arv Z h0 iv k_iv (.array .double) (1 : Int32) [.ref i0] .null) (f5_ : OvrA Z k_iv .double "[D") (f6_ : Exa Z h0 iv "[[D") (f7_ : Arv Z h0 i0 k_i0 .double (1 : Int32) [.double 4607182418800017408] (.double 0)) (f8_ : Exa Z h0 i0 "[D") (f9_ : own_BA Z h0 al (.ref ed) (.int 2) (.int 2)) (f10_ : Arv Z h0 ed k_ed (.object "java/lang/Object") (10 : Int32) [.ref x1, .ref x2, .null, .null, .null, .null, .null, .null, .null, .null] .null) (f11_ : Ovr Z k_ed "java/lang/Object") (f12_ : own_BD Z h0 x1 (.ref t0) (.double tv) (.double p0) (.double z0) (.int 0)) (f13_ : Exa Z h0 x2 sD) (f14_ : Fld Z h0 x2 sD "cost" "D" (.double co)) (f15_ : Fld Z h0 x2 sD "atOne" "D" (.double pn1)) (f16_ : Fld Z h0 x2 sD "basic" "Z" (.int 1)) (f17_ : Arv Z h0 t0 k_t0 .double (2 : Int32) [.double 0, .double 4607182418800017408] (.double 0)) (ne_sd_kr : sd ≠ kr) (ne_sd_kc : sd ≠ kc) (ne_kr_kc : kr ≠ kc) (ne_i0_t0 : i0 ≠ t0) (ne_x1_x2 : x1 ≠ x2) (gg_cm : n0 ≤ cm) (hp : p0 = 0 ∨ p0 = (4607182418800017408 : UInt64)) (hc : own_nb tv p0 z0) (ok_co : own_ok 1 co) (ok_pn1 : own_ok 1 pn1) (ok_tv : own_ok 1 tv) (ok_p0 : own_ok 1 p0) (ok_z0 : own_ok 1 z0) : own_Met l Z own_mn50 prog_26_method_3_code 8 none ws ⟨5, 1, 2, 87⟩ #[.ref cm] h0 (Q_rmSoP Z cm sd kr kc iv i0 al ed x1 x2 t0 k_sd k_kr k_kc k_iv k_i0 k_ed k_t0 uu co pn1 tv p0 z0 bvs kv du h0 n0) := by
  refine own_begS sC n0 [cm] #[vr cm, un, un, un, un, un, un, un] oT32 (plainFor_of_name own_pn_sC) fun p e s m below meth c s₁ hx D hml hown hnm hret hlk hZ X0 e0 PS y0 N0 KK0 => ?_
  have y3822 := rP 4 4 [vr cm, vi 0, vi 0, un, un, un, un, un] [] y0 X0 hx D rfl
  have y3823 := rP 4 8 [vr cm, vi 0, vi 0, vi 0, un, un, un, un] [.ref cm, .int 0] y3822 X0 hx D rfl
  obtain ⟨T3824, X3824, e3824, y3824⟩ := gP y3823 X0 hx hZ hown (w49 hw) e0 f0_.f2 D
  have y3827 := rP 3 16 _ [.ref cm, .ref cm] y3824 X3824 hx D rfl
  obtain ⟨_, T3826, L3826, X3826, ⟨yy, k_yy, rfl, Nq3826, Kq3826, g3825_yy, z3825_yy, p3825_0⟩, y3826⟩ := cP y3827 X3824 hx hZ hown hml.symm (own_V34 hw) (rmDuP l Z a0 hw [] cm sd kr kc iv i0 al ed x2 k_sd k_kr k_kc k_iv k_i0 k_ed co pn1 x1 h0 n0 (Nat.le_trans Z0 KK0.1) f0_.e f0_.f0 f0_.f1 f0_.f3 f0_.f4 f0_.f6 f0_.f7 f0_.f8 f1_ f2_ f3_ f4_ f5_ f6_ f7_ f8_ f9_ f10_ f11_ f13_ f14_ f15_ ne_sd_kr ne_sd_kc ne_kr_kc ok_co ok_pn1) 1 f0_.e e3824 [] [.ref cm] D
  have sz_yy := Nat.le_trans KK0.1 z3825_yy
  have b3828 := f0_.keep Kq3826 nin0
  obtain ⟨T3829, h3829, X3829, e3829, W3829, fw3829, y3829⟩ := own_putK y3826 X3826 hx hZ hown (w43 hw) Via.refl rfl b3828.f11 b3828.e (Or.inl (w44 hw)) (w3 hw) (.array .double) (by decide) rfl rfl rfl rfl (D 19 rfl)
  have b3830 := b3828.p11 hw W3829
  have y3831 := rP 3 25 _ [.ref cm, .int 2, .int 0] y3829 X3829 hx D rfl
  obtain ⟨T3832, X3832, e3832, y3832⟩ := gP y3831 X3829 hx hZ hown (w47 hw) e3829 b3830.f1 D
  have K3833 := (KK0.trans Kq3826 (all0)).wr W3829 (Or.inl (by simp))
  have ni3835 : kr ∉ [cm] := ninS (Ne.symm (Exa.neArv f0_.e f2_ (w3 hw))) nin0
  have f3834 := f2_.keep K3833 ni3835
  have ni3837 : sd ∉ [cm] := ninS (Ne.symm (Exa.neArv f0_.e f1_ (w3 hw))) nin0
  have f3836 := f1_.keep K3833 ni3837
  have ne3838 := own_ltn f0_.e.lt sz_yy
  have f3839 := p3825_0.other W3829 (Ne.symm ne3838)
  have ni3841 : al ∉ [cm] := ninS (Ne.symm (Exa.ne f0_.e f9_.e (by decide))) nin0
  have b3840 := f9_.keep K3833 ni3841
  have ni3843 : ed ∉ [cm] := ninS (Ne.symm (Exa.neArv f0_.e f10_ (w3 hw))) nin0
  have f3842 := f10_.keep K3833 ni3843
  have ni3845 : x1 ∉ [cm] := ninS (Ne.symm (Exa.ne f0_.e f12_.e (by decide))) nin0
  have b3844 := f12_.keep K3833 ni3845
  have f3846 := f13_.keep K3833
  have ni3848 : x2 ∉ [cm] := ninS (Ne.symm (Exa.ne f0_.e f13_ (by decide))) nin0
  have f3847 := f16_.keep K3833 ni3848
  have ni3850 : t0 ∉ [cm] := ninS (Ne.symm (Exa.neArv f0_.e f17_ (w3 hw))) nin0
  have f3849 := f17_.keep K3833 ni3850
  have ne3851 := own_ltn f17_.lt sz_yy
  have y3854 := rP 6 42 [vr cm, vi 0, vi 0, vi 0, vi 0, un, un, un] [.int 0, .ref cm] y3832 X3832 hx D rfl
  obtain ⟨_, T3853, L3853, X3853, ⟨rfl, Nq3853, eq3853⟩, y3853⟩ := cP y3854 X3832 hx hZ hown hml.symm (own_V35 hw) (rmEnB l Z a0 hw [] cm kr sd yy al ed x1 x2 t0 k_kr k_sd k_yy k_ed k_t0 (FP.dadd (0 : UInt64) (FP.dmul (FP.dsub co pn1) (4607182418800017408 : UInt64))) tv p0 z0 h3829 n0 (Nat.le_trans Z0 K3833.1) b3830.e b3830.f0 b3830.f3 b3830.f4 b3830.f6 b3830.f11 f3834 f3836 f3839 b3840 f3842 f11_ b3844 f3846 f3847 f3849 (Ne.symm ne_sd_kr) (Ne.symm ne3851) ne_x1_x2 hp hc (own_ok_mono (own_ok_add own_okc_0 (own_ok_mul (own_ok_sub ok_co ok_pn1 (by decide)) own_okc_4607182418800017408 (by decide)) (by decide)) (by decide)) ok_tv ok_p0 ok_z0) 0 b3830.e e3832 [.int 0] [] D
  have y3855 := rP 6 57 [vr cm, vi 0, vi 0, vi 0, vi 0, vi (-1), un, un] [.ref cm] y3853 X3853 hx D rfl
  obtain ⟨T3856, X3856, e3856, y3856⟩ := gP y3855 X3853 hx hZ hown (w243 hw) eq3853 b3830.f12 D
  have y3857 := rP 1 63 _ [] y3856 X3856 hx D rfl
  exact own_retV X3856 hlk y3857 hx hret (D 63 rfl) (by decide) (by decide) e3856 ⟨yy, k_yy, rfl, (Fr.app (Fr.snoc X3829 (Fr.app N0 Nq3826) gg_cm) Nq3853), K3833, g3825_yy, sz_yy, b3830, f3839⟩
def Q_rmSoC (Z : State) (cm : Addr) (sd kr kc iv i0 kv bvs al ed x1 x2 t0 t1 : Addr) (k_sd k_kr k_kc k_iv k_i0 k_kv k_bvs k_ed k_t0 k_t1 : ClassId) (uu bv co xe : UInt64) (du : Addr) (h0 : Heap) (n0 : Nat) (v : Option Value) (h : Heap) (L : List Loc) : Prop := ∃ (yz : UInt64) (krn : Addr) (kcn : Addr) (iv2 : Addr) (kv2 : Addr) (yy : Addr) (k_yy : ClassId), v = none ∧ Fr n0 L ∧ Keep h0 h [cm, sd, kv, bvs, x1, x2] ∧ n0 ≤ krn ∧ h0.size ≤ krn ∧ n0 ≤ kcn ∧ h0.size ≤ kcn ∧ n0 ≤ iv2 ∧ h0.size ≤ iv2 ∧ n0 ≤ kv2 ∧ h0.size ≤ kv2 ∧ n0 ≤ yy ∧ h0.size ≤ yy ∧ own_BC Z h cm (.int 1) (.int 2) (.int 2000) (.ref al) (.ref sd) (.ref bvs) (.ref krn) (.ref kcn) (.ref iv2) (.ref kv2) (.double uu) (.ref yy) (.int 0) ∧ Arv Z h yy k_yy .double (2 : Int32) [.double yz, .double 0] (.double 0) ∧ own_eq yz co
theorem rmSoC (l : Launch) (Z : State) (a0 : Array Value) (hw : own_Hw a0 Z) (ws : List Jvm.Cond) (cm : Addr) (sd kr kc iv i0 kv bvs al ed x1 x2 t0 t1 : Addr) (k_sd k_kr k_kc k_iv k_i0 k_kv k_bvs k_ed k_t0 k_t1 : ClassId) (uu bv co xe : UInt64) (du : Addr) (h0 : Heap) (n0 : Nat) (Z0 : n0 ≤ h0.size) (f0_ : own_BC Z h0 cm (.int 1) (.int 2) (.int 2000) (.ref al) (.ref sd) (.ref bvs) (.ref kr) (.ref kc) (.ref iv) (.ref kv) (.double uu) (.ref du) (.int 0)) (f1_ : Arv Z h0 sd k_sd .int 1 [.int 1] (.int 0)) (f2_ : Arv Z h0 kr k_kr .int 1 [.int 0] (.int 0)) (f3_ : Arv Z h0 kc k_kc .int 1 [.int 1] (.int 0)) (f4_ : Arv Z h0 iv k_iv (.array .double) (1 : Int32) [.ref i0] .null) (f5_ : OvrA Z k_iv .double "[D") (f6_ : Exa Z h0 iv "[[D") (f7_ : Arv Z h0 i0 k_i0 .double (1 : Int32) [.double 4607182418800017408] (.double 0)) (f8_ : Exa Z h0 i0 "[D") (f9_ : Arv Z h0 kv k_kv .double (1 : Int32) [.double 4607182418800017408] (.double 0)) (f10_ : Arv Z h0 bvs k_bvs .double (1 : Int32) [.double bv] (.double 0)) (f11_ : own_BA Z h0 al (.ref ed) (.int 2) (.int 2)) (f12_ : Arv Z h0 ed k_ed (.object "java/lang/Object") (10 : Int32) [.ref x1, .ref x2, .null, .null, .null, .null, .null, .null, .null, .null] .null) (f13_ : Ovr Z k_ed "java/lang/Object") (f14_ : own_BD Z h0 x1 (.ref t0) (.double 0) (.double 4607182418800017408) (.double 4607182418800017408) (.int 0)) (f15_ : own_BD Z h0 x2 (.ref t1) (.double co) (.double (FP.dadd (0 : UInt64) (FP.dmul (4607182418800017408 : UInt64) xe))) (.double (FP.dadd (0 : UInt64) (FP.dmul (4607182418800017408 : UInt64) (xe &&& (9223372036854775807 : UInt64))))) (.int 1)) (f16_ : Arv Z h0 t0 k_t0 .double (2 : Int32) [.double 0, .double 4607182418800017408] (.double 0)) (f17_ : Arv Z h0 t1 k_t1 .double (2 : Int32) [.double 4607182418800017408, .double xe] (.double 0)) (ne_sd_kr : sd ≠ kr) (ne_sd_kc : sd ≠ kc) (ne_kr_kc : kr ≠ kc) (ne_i0_kv : i0 ≠ kv) (ne_i0_bvs : i0 ≠ bvs) (ne_i0_t0 : i0 ≠ t0) (ne_i0_t1 : i0 ≠ t1) (ne_kv_bvs : kv ≠ bvs) (ne_kv_t0 : kv ≠ t0) (ne_kv_t1 : kv ≠ t1) (ne_bvs_t0 : bvs ≠ t0) (ne_bvs_t1 : bvs ≠ t1) (ne_x1_x2 : x1 ≠ x2) (ne_t0_t1 : t0 ≠ t1) (gg_cm : n0 ≤ cm) (gg_sd : n0 ≤ sd) (gg_kv : n0 ≤ kv) (gg_bvs : n0 ≤ bvs) (gg_x1 : n0 ≤ x1) (gg_x2 : n0 ≤ x2) (ok_xe : own_ok 1 xe) (ok_bv : own_ok 1 bv) (ok_co : own_ok 1 co) : own_Met l Z own_mn50 prog_26_method_3_code 8 none ws ⟨7, 27, 55, 130⟩ #[.ref cm] h0 (Q_rmSoC Z cm sd kr kc iv i0 kv bvs al ed x1 x2 t0 t1 k_sd k_kr k_kc k_iv k_i0 k_kv k_bvs k_ed k_t0 k_t1 uu bv co xe du h0 n0) := by
  refine own_begS sC n0 [cm, sd, kv, bvs, x1, x2] #[vr cm, un, un, un, un, un, un, un] oT32 (plainFor_of_name own_pn_sC) fun p e s m below meth c s₁ hx D hml hown hnm hret hlk hZ X0 e0 PS y0 N0 KK0 => ?_
  have y3858 := rP 4 4 [vr cm, vi 0, vi 0, un, un, un, un, un] [] y0 X0 hx D rfl
  have y3859 := rP 4 8 [vr cm, vi 0, vi 0, vi 0, un, un, un, un] [.ref cm, .int 0] y3858 X0 hx D rfl
  obtain ⟨T3860, X3860, e3860, y3860⟩ := gP y3859 X0 hx hZ hown (w49 hw) e0 f0_.f2 D
  have y3863 := rP 3 16 _ [.ref cm, .ref cm] y3860 X3860 hx D rfl
  obtain ⟨_, T3862, L3862, X3862, ⟨ya, k_ya, rfl, Nq3862, Kq3862, g3861_yy, z3861_yy, p3861_0⟩, y3862⟩ := cP y3863 X3860 hx hZ hown hml.symm (own_V34 hw) (rmDuP l Z a0 hw [] cm sd kr kc iv i0 al ed x2 k_sd k_kr k_kc k_iv k_i0 k_ed co (FP.dadd (0 : UInt64) (FP.dmul (4607182418800017408 : UInt64) xe)) x1 h0 n0 (Nat.le_trans Z0 KK0.1) f0_.e f0_.f0 f0_.f1 f0_.f3 f0_.f4 f0_.f6 f0_.f7 f0_.f8 f1_ f2_ f3_ f4_ f5_ f6_ f7_ f8_ f11_ f12_ f13_ f15_.e f15_.f1 f15_.f2 ne_sd_kr ne_sd_kc ne_kr_kc ok_co (own_ok_mono (own_ok_add own_okc_0 (own_ok_mul own_okc_4607182418800017408 ok_xe (by decide)) (by decide)) (by decide))) 1 f0_.e e3860 [] [.ref cm] D
  have sz_ya := Nat.le_trans KK0.1 z3861_yy
  have b3864 := f0_.keep Kq3862 nin0
  obtain ⟨T3865, h3865, X3865, e3865, W3865, fw3865, y3865⟩ := own_putK y3862 X3862 hx hZ hown (w43 hw) Via.refl rfl b3864.f11 b3864.e (Or.inl (w44 hw)) (w3 hw) (.array .double) (by decide) rfl rfl rfl rfl (D 19 rfl)
  have b3866 := b3864.p11 hw W3865
  have y3867 := rP 3 25 _ [.ref cm, .int 2, .int 0] y3865 X3865 hx D rfl
  obtain ⟨T3868, X3868, e3868, y3868⟩ := gP y3867 X3865 hx hZ hown (w47 hw) e3865 b3866.f1 D
  have K3869 := (KK0.trans Kq3862 (all0)).wr W3865 (Or.inl (by simp))
  have ni3871 : kr ∉ [cm, sd, kv, bvs, x1, x2] := ninS (Ne.symm (Exa.neArv f0_.e f2_ (w3 hw))) (ninS (Ne.symm ne_sd_kr) (ninS (own_arv_ne f2_ f9_ (by decide)) (ninS (own_arv_ne f2_ f10_ (by decide)) (ninS (Ne.symm (Exa.neArv f14_.e f2_ (w56 hw))) (ninS (Ne.symm (Exa.neArv f15_.e f2_ (w56 hw))) nin0)))))
  have f3870 := f2_.keep K3869 ni3871
  have f3872 := (f1_.keep Kq3862 nin0).other W3865 (Ne.symm (Exa.neArv f0_.e f1_ (w3 hw)))
  have ne3873 := own_ltn f0_.e.lt sz_ya
  have f3874 := p3861_0.other W3865 (Ne.symm ne3873)
  have ni3876 : al ∉ [cm, sd, kv, bvs, x1, x2] := ninS (Ne.symm (Exa.ne f0_.e f11_.e (by decide))) (ninS (Exa.neArv f11_.e f1_ (w12 hw)) (ninS (Exa.neArv f11_.e f9_ (w12 hw)) (ninS (Exa.neArv f11_.e f10_ (w12 hw)) (ninS (Exa.ne f11_.e f14_.e (by decide)) (ninS (Exa.ne f11_.e f15_.e (by decide)) nin0)))))
  have b3875 := f11_.keep K3869 ni3876
  have ni3878 : ed ∉ [cm, sd, kv, bvs, x1, x2] := ninS (Ne.symm (Exa.neArv f0_.e f12_ (w3 hw))) (ninS (Ne.symm (own_arv_ne f1_ f12_ (by decide))) (ninS (Ne.symm (own_arv_ne f9_ f12_ (by decide))) (ninS (Ne.symm (own_arv_ne f10_ f12_ (by decide))) (ninS (Ne.symm (Exa.neArv f14_.e f12_ (w56 hw))) (ninS (Ne.symm (Exa.neArv f15_.e f12_ (w56 hw))) nin0)))))
  have f3877 := f12_.keep K3869 ni3878
  have b3879 := (f14_.keep Kq3862 nin0).other W3865 (Ne.symm (Exa.ne f0_.e f14_.e (by decide)))
  have b3880 := (f15_.keep Kq3862 nin0).other W3865 (Ne.symm (Exa.ne f0_.e f15_.e (by decide)))
  have ni3882 : t0 ∉ [cm, sd, kv, bvs, x1, x2] := ninS (Ne.symm (Exa.neArv f0_.e f16_ (w3 hw))) (ninS (Ne.symm (own_arv_ne f1_ f16_ (by decide))) (ninS (Ne.symm ne_kv_t0) (ninS (Ne.symm ne_bvs_t0) (ninS (Ne.symm (Exa.neArv f14_.e f16_ (w56 hw))) (ninS (Ne.symm (Exa.neArv f15_.e f16_ (w56 hw))) nin0)))))
  have f3881 := f16_.keep K3869 ni3882
  have ne3883 := own_ltn f16_.lt sz_ya
  have y3886 := rP 6 42 [vr cm, vi 0, vi 0, vi 0, vi 0, un, un, un] [.int 0, .ref cm] y3868 X3868 hx D rfl
  obtain ⟨_, T3885, L3885, X3885, ⟨rfl, Nq3885, eq3885⟩, y3885⟩ := cP y3886 X3868 hx hZ hown hml.symm (own_V35 hw) (rmEnC l Z a0 hw [] cm kr sd ya al ed x1 x2 t0 k_kr k_sd k_ya k_ed k_t0 (FP.dadd (0 : UInt64) (FP.dmul (FP.dsub co (FP.dadd (0 : UInt64) (FP.dmul (4607182418800017408 : UInt64) xe))) (4607182418800017408 : UInt64))) h3865 n0 (Nat.le_trans Z0 K3869.1) b3866.e b3866.f0 b3866.f3 b3866.f4 b3866.f6 b3866.f11 f3870 f3872 f3874 b3875 f3877 f13_ b3879 b3880.e b3880.f4 f3881 (Ne.symm ne_sd_kr) (Ne.symm ne3883) ne_x1_x2 (own_ok_mono (own_ok_add own_okc_0 (own_ok_mul (own_ok_sub ok_co (own_ok_add own_okc_0 (own_ok_mul own_okc_4607182418800017408 ok_xe (by decide)) (by decide)) (by decide)) own_okc_4607182418800017408 (by decide)) (by decide)) (by decide))) 0 b3866.e e3868 [.int 0] [] D
  have ni3888 : kc ∉ [cm, sd, kv, bvs, x1, x2] := ninS (Ne.symm (Exa.neArv f0_.e f3_ (w3 hw))) (ninS (Ne.symm ne_sd_kc) (ninS (own_arv_ne f3_ f9_ (by decide)) (ninS (own_arv_ne f3_ f10_ (by decide)) (ninS (Ne.symm (Exa.neArv f14_.e f3_ (w56 hw))) (ninS (Ne.symm (Exa.neArv f15_.e f3_ (w56 hw))) nin0)))))
  have f3887 := f3_.keep K3869 ni3888
  have ni3890 : iv ∉ [cm, sd, kv, bvs, x1, x2] := ninS (Ne.symm (Exa.neArv f0_.e f4_ (w3 hw))) (ninS (Ne.symm (own_arv_ne f1_ f4_ (by decide))) (ninS (own_arv_ne f4_ f9_ (by decide)) (ninS (own_arv_ne f4_ f10_ (by decide)) (ninS (Ne.symm (Exa.neArv f14_.e f4_ (w56 hw))) (ninS (Ne.symm (Exa.neArv f15_.e f4_ (w56 hw))) nin0)))))
  have f3889 := f4_.keep K3869 ni3890
  have f3891 := f6_.keep K3869
  have ni3893 : i0 ∉ [cm, sd, kv, bvs, x1, x2] := ninS (Ne.symm (Exa.neArv f0_.e f7_ (w3 hw))) (ninS (Ne.symm (own_arv_ne f1_ f7_ (by decide))) (ninS ne_i0_kv (ninS ne_i0_bvs (ninS (Ne.symm (Exa.neArv f14_.e f7_ (w56 hw))) (ninS (Ne.symm (Exa.neArv f15_.e f7_ (w56 hw))) nin0)))))
  have f3892 := f7_.keep K3869 ni3893
  have f3894 := f8_.keep K3869
  have f3895 := (f9_.keep Kq3862 nin0).other W3865 (Ne.symm (Exa.neArv f0_.e f9_ (w3 hw)))
  have f3896 := (f10_.keep Kq3862 nin0).other W3865 (Ne.symm (Exa.neArv f0_.e f10_ (w3 hw)))
  have ni3898 : t1 ∉ [cm, sd, kv, bvs, x1, x2] := ninS (Ne.symm (Exa.neArv f0_.e f17_ (w3 hw))) (ninS (Ne.symm (own_arv_ne f1_ f17_ (by decide))) (ninS (Ne.symm ne_kv_t1) (ninS (Ne.symm ne_bvs_t1) (ninS (Ne.symm (Exa.neArv f14_.e f17_ (w56 hw))) (ninS (Ne.symm (Exa.neArv f15_.e f17_ (w56 hw))) nin0)))))
  have f3897 := f17_.keep K3869 ni3898
  have y3901 := rP 8 83 [vr cm, vi 0, vi 0, vi 0, vi 0, vi 0, un, un] [.int 0, .int 0, .ref cm] y3885 X3885 hx D rfl
  obtain ⟨_, T3900, L3900, X3900, ⟨gx3899, b23899, at13899, sz13899, vl13899, krn, kcn, gr, g0, g1, vl, k_krn, k_kcn, k_gr, k_g0, k_g1, k_vl, rfl, Nq3900, Kq3900, g3899_krn, z3899_krn, g3899_kcn, z3899_kcn, g3899_gr, z3899_gr, g3899_g0, z3899_g0, g3899_g1, z3899_g1, g3899_vl, z3899_vl, w3899_0, w3899_1, w3899_2, w3899_3, p3899_0, p3899_1, p3899_2, p3899_3, p3899_4, p3899_5, p3899_6, p3899_7, p3899_8, p3899_9, p3899_10, p3899_11, p3899_12, p3899_13, p3899_14, x3899_gx, x3899_b2, x3899_at1, x3899_sz1, x3899_vl1⟩, y3900⟩ := cP y3901 X3885 hx hZ hown hml.symm (own_V36 hw) (rmEr l Z a0 hw [] cm sd kr kc iv i0 kv bvs al ed x1 x2 t0 t1 k_sd k_kr k_kc k_iv k_i0 k_kv k_bvs k_ed k_t0 k_t1 uu bv (0 : UInt64) co xe ya h3865 n0 (Nat.le_trans Z0 K3869.1) b3866 f3872 f3870 f3887 f3889 f5_ f3891 f3892 f3894 f3895 f3896 b3875 f3877 f13_ b3879 b3880 f3881 f3897 ne_sd_kr ne_sd_kc ne_kr_kc ne_i0_kv ne_i0_bvs ne_i0_t0 ne_i0_t1 ne_kv_bvs ne_kv_t0 ne_kv_t1 ne_bvs_t0 ne_bvs_t1 ne_x1_x2 ne_t0_t1 gg_cm gg_sd gg_kv gg_bvs gg_x1 gg_x2 ok_xe ok_bv) 0 b3866.e eq3885 [.int 0, .int 0] [] D
  have sz_krn := Nat.le_trans K3869.1 z3899_krn
  have sz_kcn := Nat.le_trans K3869.1 z3899_kcn
  have sz_gr := Nat.le_trans K3869.1 z3899_gr
  have sz_g0 := Nat.le_trans K3869.1 z3899_g0
  have sz_g1 := Nat.le_trans K3869.1 z3899_g1
  have sz_vl := Nat.le_trans K3869.1 z3899_vl
  have y3902 := rP 4 92 [vr cm, vi 0, vi 0, vi 0, vi 0, vi 0, .val (.double (FP.ddiv bv (4607182418800017408 : UInt64))), .second] [(.int (cmpValue (FP.dcmp (FP.ddiv bv (4607182418800017408 : UInt64)) (0 : UInt64)) .l))] y3900 X3900 hx D rfl
  obtain ⟨dr, hj3903, y3903⟩ : ∃ (dr : Int32), (dr = 0 ∨ dr = 1) ∧ ∀ τ, Steps p.tables e below (T3900.setTop (mkF m 102 #[vr cm, vi 0, vi 0, vi 0, vi 0, vi 0, .val (.double (FP.ddiv bv (4607182418800017408 : UInt64))), .second] [.int dr])) τ → PS τ := by
    by_cases q : (0 : Int32) < (cmpValue (FP.dcmp (FP.ddiv bv (4607182418800017408 : UInt64)) (0 : UInt64)) .l)
    · skip
      have y3904 := fun (τ : State) kt => y3902 τ (XS.ifNo X3900.here hx rfl (D 92 rfl) rfl ((if0 _ _).trans (tlt q).2.2.2) kt)
      have y3905 := rP 2 102 _ [.int 0] y3904 X3900 hx D rfl
      exact ⟨(0 : Int32), Or.inl rfl, y3905⟩
    · skip
      have y3906 := fun (τ : State) kt => y3902 τ (XS.ifYes X3900.here hx rfl (pc0 := 92) (pc' := 99) rfl (D 92 rfl) rfl ((if0 _ _).trans (flt q).2.2.2) (by decide) (by decide) kt)
      have y3907 := rP 3 102 _ [.int 1] y3906 X3900 hx D rfl
      exact ⟨(1 : Int32), Or.inr rfl, y3907⟩
  have y3908 := rP 2 106 [vr cm, vi dr, vi 0, vi 1, vi 0, vi 0, .val (.double (FP.ddiv bv (4607182418800017408 : UInt64))), .second] [] y3903 X3900 hx D rfl
  have y3909 := rP 3 8 _ [.ref cm, .int 1] y3908 X3900 hx D rfl
  obtain ⟨T3910, X3910, e3910, y3910⟩ := gP y3909 X3900 hx hZ hown (w49 hw) rfl p3899_0.f2 D
  have b3911 := b3875.keep Kq3900 (ninS (Ne.symm (Exa.ne f0_.e f11_.e (by decide))) (ninS (Exa.neArv f11_.e f1_ (w12 hw)) (ninS (Exa.neArv f11_.e f9_ (w12 hw)) (ninS (Exa.neArv f11_.e f10_ (w12 hw)) (ninS (Exa.ne f11_.e f14_.e (by decide)) (ninS (Exa.ne f11_.e f15_.e (by decide)) nin0))))))
  have f3912 := f3877.keep Kq3900 (ninS (Ne.symm (Exa.neArv f0_.e f12_ (w3 hw))) (ninS (Ne.symm (own_arv_ne f1_ f12_ (by decide))) (ninS (Ne.symm (own_arv_ne f9_ f12_ (by decide))) (ninS (Ne.symm (own_arv_ne f10_ f12_ (by decide))) (ninS (Ne.symm (Exa.neArv f14_.e f12_ (w56 hw))) (ninS (Ne.symm (Exa.neArv f15_.e f12_ (w56 hw))) nin0))))))
  have ne3913 := own_ltn f1_.lt sz_krn
  have ne3914 := own_ltn f1_.lt sz_kcn
  have K3915 := K3869.trans Kq3900 (allS (Or.inl (by simp)) (allS (Or.inl (by simp)) (allS (Or.inl (by simp)) (allS (Or.inl (by simp)) (allS (Or.inl (by simp)) (allS (Or.inl (by simp)) (all0)))))))
  have y3918 := rP 3 16 _ [.ref cm, .ref cm] y3910 X3910 hx D rfl
  obtain ⟨_, T3917, L3917, X3917, ⟨yz3916, yb, k_yb, rfl, Nq3917, Kq3917, g3916_yy, z3916_yy, p3916_0, x3916_yz⟩, y3917⟩ := cP y3918 X3910 hx hZ hown hml.symm (own_V34 hw) (rmDu2 l Z a0 hw [] cm sd krn kcn gr g0 g1 al ed x1 x2 k_sd k_krn k_kcn k_gr k_g0 k_g1 k_ed co at13899 (9223372036854775808 : UInt64) gx3899 T3900.heap n0 (Nat.le_trans Z0 K3915.1) p3899_0.e p3899_0.f0 p3899_0.f1 p3899_0.f3 p3899_0.f4 p3899_0.f6 p3899_0.f7 p3899_0.f8 p3899_1 p3899_2 p3899_3 p3899_4 p3899_5 p3899_6 p3899_7 p3899_8 p3899_9 p3899_10 b3911 f3912 f13_ p3899_13.e p3899_13.f1 p3899_13.f2 p3899_14.e p3899_14.f1 p3899_14.f2 ne3913 ne3914 w3899_0 w3899_1 ne_x1_x2 ok_co x3899_at1 (Or.inr rfl) x3899_gx) 1 p3899_0.e e3910 [] [.ref cm] D
  have sz_yb := Nat.le_trans K3915.1 z3916_yy
  have b3919 := p3899_0.keep Kq3917 nin0
  obtain ⟨T3920, h3920, X3920, e3920, W3920, fw3920, y3920⟩ := own_putK y3917 X3917 hx hZ hown (w43 hw) Via.refl rfl b3919.f11 b3919.e (Or.inl (w44 hw)) (w3 hw) (.array .double) (by decide) rfl rfl rfl rfl (D 19 rfl)
  have b3921 := b3919.p11 hw W3920
  have y3922 := rP 3 25 _ [.ref cm, .int 2, .int dr] y3920 X3920 hx D rfl
  obtain ⟨T3923, X3923, e3923, y3923⟩ := gP y3922 X3920 hx hZ hown (w47 hw) e3920 b3921.f1 D
  have f3924 := (p3899_1.keep Kq3917 nin0).other W3920 (Ne.symm (Exa.neArv f0_.e f1_ (w3 hw)))
  have ne3925 := own_ltn f0_.e.lt sz_yb
  have f3926 := p3916_0.other W3920 (Ne.symm ne3925)
  have K3927 := (K3915.trans Kq3917 (all0)).wr W3920 (Or.inl (by simp))
  have b3928 := f11_.keep K3927 ni3876
  have f3929 := f12_.keep K3927 ni3878
  have b3930 := (p3899_13.keep Kq3917 nin0).other W3920 (Ne.symm (Exa.ne f0_.e f14_.e (by decide)))
  have b3931 := (p3899_14.keep Kq3917 nin0).other W3920 (Ne.symm (Exa.ne f0_.e f15_.e (by decide)))
  have y3934 := rP 1 29 _ [.int 4, .int dr] y3923 X3923 hx D rfl
  have y3935 := fun (τ : State) kt => y3934 τ (XS.icmpYes X3923.here hx rfl (pc0 := 29) (pc' := 36) rfl (D 29 rfl) rfl (flt (own_dr hj3903)).2.2.2 (by decide) (by decide) kt)
  have y3936 := rP 4 42 _ [.int 0, .ref cm] y3935 X3923 hx D rfl
  obtain ⟨_, T3933, L3933, X3933, ⟨rfl, Nq3933, eq3933⟩, y3933⟩ := cP y3936 X3923 hx hZ hown hml.symm (own_V35 hw) (rmEn2 l Z a0 hw [] cm sd yb al ed x1 x2 k_sd k_yb k_ed yz3916 h3920 n0 (Nat.le_trans Z0 K3927.1) b3921.e b3921.f0 b3921.f3 b3921.f4 b3921.f11 f3924 f3926 b3928 f3929 f13_ b3930.e b3930.f4 b3931.e b3931.f4 ne_x1_x2) 0 b3921.e e3923 [.int 0] [] D
  have y3937 := rP 6 57 [vr cm, vi dr, vi 0, vi 1, vi 0, vi (-1), .val (.double (FP.ddiv bv (4607182418800017408 : UInt64))), .second] [.ref cm] y3933 X3933 hx D rfl
  obtain ⟨T3938, X3938, e3938, y3938⟩ := gP y3937 X3933 hx hZ hown (w243 hw) eq3933 b3921.f12 D
  have ne3939 := own_ltn f0_.e.lt sz_krn
  have f3940 := (p3899_2.keep Kq3917 nin0).other W3920 (Ne.symm ne3939)
  have ne3941 := own_ltn f0_.e.lt sz_kcn
  have f3942 := (p3899_3.keep Kq3917 nin0).other W3920 (Ne.symm ne3941)
  have f3943 := (p3899_12.keep Kq3917 nin0).other W3920 (Ne.symm (Exa.neArv f0_.e f10_ (w3 hw)))
  have f3944 := f16_.keep K3927 ni3882
  have f3945 := f17_.keep K3927 ni3898
  have y3948 := rP 4 70 _ [.ref cm] y3938 X3938 hx D rfl
  obtain ⟨_, T3947, L3947, X3947, ⟨vx3946, kx3946, iv2, j0, j1, kv2, k_iv2, k_j0, k_j1, k_kv2, rfl, Nq3947, Kq3947, g3946_iv, z3946_iv, g3946_i0, z3946_i0, g3946_i1, z3946_i1, g3946_kv, z3946_kv, w3946_0, w3946_1, w3946_2, p3946_0, p3946_1, p3946_2, p3946_3, p3946_4, p3946_5, p3946_6, p3946_7, p3946_8, p3946_9, p3946_10, x3946_vx, x3946_kx⟩, y3947⟩ := cP y3948 X3938 hx hZ hown hml.symm (own_V18 hw) (rmIv2 l Z a0 hw [] cm krn kcn sd bvs al ed x1 x2 t0 t1 k_krn k_kcn k_sd k_bvs k_ed k_t0 k_t1 (0 : UInt64) co xe uu b23899 (0 : UInt64) (0 : UInt64) at13899 sz13899 gr vl yb h3920 n0 (Nat.le_trans Z0 K3927.1) b3921 f3940 f3942 f3924 f3943 b3928 f3929 f13_ b3930 b3931 f3944 f3945 w3899_0 (Ne.symm ne3913) (Ne.symm ne3914) ne_bvs_t0 ne_bvs_t1 ne_x1_x2 ne_t0_t1 gg_cm gg_bvs gg_x1 gg_x2 ok_xe) 0 b3921.e e3938 [] [] D
  have sz_iv2 := Nat.le_trans K3927.1 z3946_iv
  have sz_j0 := Nat.le_trans K3927.1 z3946_i0
  have sz_j1 := Nat.le_trans K3927.1 z3946_i1
  have sz_kv2 := Nat.le_trans K3927.1 z3946_kv
  have y3949 := rP 4 106 [vr cm, vi dr, vi 1, vi 2, vi 0, vi (-1), .val (.double (FP.ddiv bv (4607182418800017408 : UInt64))), .second] [] y3947 X3947 hx D rfl
  have y3950 := rP 3 8 _ [.ref cm, .int 2] y3949 X3947 hx D rfl
  obtain ⟨T3951, X3951, e3951, y3951⟩ := gP y3950 X3947 hx hZ hown (w49 hw) rfl p3946_0.f2 D
  have f3952 := f3924.keep Kq3947 (ninS (Ne.symm (Exa.neArv f0_.e f1_ (w3 hw))) (ninS (own_arv_ne f1_ f10_ (by decide)) (ninS (Ne.symm (Exa.neArv f14_.e f1_ (w56 hw))) (ninS (Ne.symm (Exa.neArv f15_.e f1_ (w56 hw))) nin0))))
  have ne3953 := own_ltn f10_.lt sz_krn
  have ne3954 := own_ltn f14_.e.lt sz_krn
  have ne3955 := own_ltn f15_.e.lt sz_krn
  have f3956 := f3940.keep Kq3947 (ninS (Ne.symm ne3939) (ninS (Ne.symm ne3953) (ninS (Ne.symm ne3954) (ninS (Ne.symm ne3955) nin0))))
  have ne3957 := own_ltn f10_.lt sz_kcn
  have ne3958 := own_ltn f14_.e.lt sz_kcn
  have ne3959 := own_ltn f15_.e.lt sz_kcn
  have f3960 := f3942.keep Kq3947 (ninS (Ne.symm ne3941) (ninS (Ne.symm ne3957) (ninS (Ne.symm ne3958) (ninS (Ne.symm ne3959) nin0))))
  have b3961 := b3928.keep Kq3947 (ninS (Ne.symm (Exa.ne f0_.e f11_.e (by decide))) (ninS (Exa.neArv f11_.e f10_ (w12 hw)) (ninS (Exa.ne f11_.e f14_.e (by decide)) (ninS (Exa.ne f11_.e f15_.e (by decide)) nin0))))
  have f3962 := f3929.keep Kq3947 (ninS (Ne.symm (Exa.neArv f0_.e f12_ (w3 hw))) (ninS (Ne.symm (own_arv_ne f10_ f12_ (by decide))) (ninS (Ne.symm (Exa.neArv f14_.e f12_ (w56 hw))) (ninS (Ne.symm (Exa.neArv f15_.e f12_ (w56 hw))) nin0))))
  have K3963 := K3927.trans Kq3947 (allS (Or.inl (by simp)) (allS (Or.inl (by simp)) (allS (Or.inl (by simp)) (allS (Or.inl (by simp)) (all0)))))
  have y3966 := rP 3 16 _ [.ref cm, .ref cm] y3951 X3951 hx D rfl
  obtain ⟨_, T3965, L3965, X3965, ⟨yz3964, yc, k_yc, rfl, Nq3965, Kq3965, g3964_yy, z3964_yy, p3964_0, x3964_yz⟩, y3965⟩ := cP y3966 X3951 hx hZ hown hml.symm (own_V34 hw) (rmDu2 l Z a0 hw [] cm sd krn kcn iv2 j0 j1 al ed x1 x2 k_sd k_krn k_kcn k_iv2 k_j0 k_j1 k_ed co (0 : UInt64) (0 : UInt64) vx3946 T3947.heap n0 (Nat.le_trans Z0 K3963.1) p3946_0.e p3946_0.f0 p3946_0.f1 p3946_0.f3 p3946_0.f4 p3946_0.f6 p3946_0.f7 p3946_0.f8 f3952 f3956 f3960 p3946_1 p3946_2 p3946_3 p3946_4 p3946_5 p3946_6 p3946_7 b3961 f3962 f13_ p3946_9.e p3946_9.f1 p3946_9.f2 p3946_10.e p3946_10.f1 p3946_10.f2 ne3913 ne3914 w3899_0 w3946_0 ne_x1_x2 ok_co (Or.inl rfl) (Or.inl rfl) x3946_vx) 1 p3946_0.e e3951 [] [.ref cm] D
  have sz_yc := Nat.le_trans K3963.1 z3964_yy
  have b3967 := p3946_0.keep Kq3965 nin0
  obtain ⟨T3968, h3968, X3968, e3968, W3968, fw3968, y3968⟩ := own_putK y3965 X3965 hx hZ hown (w43 hw) Via.refl rfl b3967.f11 b3967.e (Or.inl (w44 hw)) (w3 hw) (.array .double) (by decide) rfl rfl rfl rfl (D 19 rfl)
  have b3969 := b3967.p11 hw W3968
  have y3970 := rP 3 25 _ [.ref cm, .int 2, .int dr] y3968 X3968 hx D rfl
  obtain ⟨T3971, X3971, e3971, y3971⟩ := gP y3970 X3968 hx hZ hown (w47 hw) e3968 b3969.f1 D
  have f3972 := (f3952.keep Kq3965 nin0).other W3968 (Ne.symm (Exa.neArv f0_.e f1_ (w3 hw)))
  have ne3973 := own_ltn f0_.e.lt sz_yc
  have f3974 := p3964_0.other W3968 (Ne.symm ne3973)
  have K3975 := (K3963.trans Kq3965 (all0)).wr W3968 (Or.inl (by simp))
  have b3976 := f11_.keep K3975 ni3876
  have f3977 := f12_.keep K3975 ni3878
  have b3978 := (p3946_9.keep Kq3965 nin0).other W3968 (Ne.symm (Exa.ne f0_.e f14_.e (by decide)))
  have b3979 := (p3946_10.keep Kq3965 nin0).other W3968 (Ne.symm (Exa.ne f0_.e f15_.e (by decide)))
  have y3982 := rP 1 29 _ [.int 4, .int dr] y3971 X3971 hx D rfl
  have y3983 := fun (τ : State) kt => y3982 τ (XS.icmpYes X3971.here hx rfl (pc0 := 29) (pc' := 36) rfl (D 29 rfl) rfl (flt (own_dr hj3903)).2.2.2 (by decide) (by decide) kt)
  have y3984 := rP 4 42 _ [.int 0, .ref cm] y3983 X3971 hx D rfl
  obtain ⟨_, T3981, L3981, X3981, ⟨rfl, Nq3981, eq3981⟩, y3981⟩ := cP y3984 X3971 hx hZ hown hml.symm (own_V35 hw) (rmEn2 l Z a0 hw [] cm sd yc al ed x1 x2 k_sd k_yc k_ed yz3964 h3968 n0 (Nat.le_trans Z0 K3975.1) b3969.e b3969.f0 b3969.f3 b3969.f4 b3969.f11 f3972 f3974 b3976 f3977 f13_ b3978.e b3978.f4 b3979.e b3979.f4 ne_x1_x2) 0 b3969.e e3971 [.int 0] [] D
  have y3985 := rP 5 63 _ [] y3981 X3981 hx D rfl
  exact own_retV X3981 hlk y3985 hx hret (D 63 rfl) (by decide) (by decide) eq3981 ⟨yz3964, krn, kcn, iv2, kv2, yc, k_yc, rfl, (Fr.app (Fr.snoc X3968 (Fr.app (Fr.app (Fr.app (Fr.snoc X3920 (Fr.app (Fr.app (Fr.app (Fr.snoc X3865 (Fr.app N0 Nq3862) gg_cm) Nq3885) Nq3900) Nq3917) gg_cm) Nq3933) Nq3947) Nq3965) gg_cm) Nq3981), K3975, g3899_krn, sz_krn, g3899_kcn, sz_kcn, g3946_iv, sz_iv2, g3946_kv, sz_kv2, g3964_yy, sz_yc, b3969, f3974, x3964_yz⟩
theorem own_sgn (sv xe : UInt64) : ∃ (sg : Int32) (pn0 zn0 pn1 zn1 : UInt64), ((sg = 1 ∧ ¬ ((cmpValue (FP.dcmp sv (0 : UInt64)) .l) < (0 : Int32))) ∨ (sg = -1 ∧ (cmpValue (FP.dcmp sv (0 : UInt64)) .l) < (0 : Int32))) ∧ own_R1 sg (4607182418800017408 : UInt64) pn0 zn0 ∧ own_R1 sg xe pn1 zn1 ∧ ¬ (sg = (0 : Int32)) ∧ own_ok 1 (FP.i2d (-sg)) ∧ ((sg = 1 ∧ pn0 = (4607182418800017408 : UInt64) ∧ zn0 = (4607182418800017408 : UInt64) ∧ pn1 = FP.dadd (0 : UInt64) (FP.dmul (4607182418800017408 : UInt64) xe) ∧ zn1 = FP.dadd (0 : UInt64) (FP.dmul (4607182418800017408 : UInt64) (xe &&& (9223372036854775807 : UInt64))) ∧ ¬ ((cmpValue (FP.dcmp sv (0 : UInt64)) .l) < (0 : Int32))) ∨ (sg = -1 ∧ pn0 = 0 ∧ zn0 = 0 ∧ pn1 = 0 ∧ zn1 = 0 ∧ (cmpValue (FP.dcmp sv (0 : UInt64)) .l) < (0 : Int32))) := by
  by_cases q : (cmpValue (FP.dcmp sv (0 : UInt64)) .l) < (0 : Int32)
  · exact ⟨-1, 0, 0, 0, 0, Or.inr ⟨rfl, q⟩, Or.inr ⟨rfl, rfl, rfl⟩, Or.inr ⟨rfl, rfl, rfl⟩, by decide, (show ((4607182418800017408 : UInt64) : UInt64) = FP.i2d (-(-1)) by decide +kernel) ▸ own_ok1, Or.inr ⟨rfl, rfl, rfl, rfl, rfl, q⟩⟩
  · exact ⟨1, (4607182418800017408 : UInt64), (4607182418800017408 : UInt64), _, _, Or.inl ⟨rfl, q⟩, Or.inl ⟨rfl, own_q3.symm, own_q4.symm⟩, Or.inl ⟨rfl, rfl, rfl⟩, by decide, (show (13830554455654793216 : UInt64) = FP.i2d (-1) by decide +kernel) ▸ own_okm1, Or.inl ⟨rfl, rfl, rfl, rfl, rfl, q⟩⟩
theorem own_mxZ (ss : Int32) : ((cmpValue (FP.dcmp (FP.i2d ss) (0 : UInt64)) .l) < (0 : Int32)) ↔ ss.toInt < 0 := by
  have h := own_zv_D (own_d_i2d ss)
  rw [(own_cv h.1 own_zz.1 .l).1, h.2, own_zz.2, Int.zero_mul]
  constructor
  · intro q; apply Int.not_le.mp; intro r; have := Int.mul_nonneg r (Int.le_of_lt own_PP); omega
  · intro q; exact Int.mul_neg_of_neg_of_pos q own_PP
theorem own_mxP {ss : Int32} (hq : ¬ ((cmpValue (FP.dcmp (FP.i2d ss) (0 : UInt64)) .l) < (0 : Int32))) : (own_maxI (0 : Int32) ss).toInt = ss.toInt := by
  rw [own_mxZ] at hq; unfold own_maxI; split
  · rfl
  · rename_i r; rw [Int32.lt_iff_toInt_lt, show (0 : Int32).toInt = 0 from rfl] at r; rw [show (0 : Int32).toInt = 0 from rfl]; omega
theorem own_mxM {ss : Int32} (hq : ((cmpValue (FP.dcmp (FP.i2d ss) (0 : UInt64)) .l) < (0 : Int32))) : (own_maxI (0 : Int32) ss).toInt = 0 := by
  rw [own_mxZ] at hq; unfold own_maxI; split
  · rename_i r; rw [Int32.lt_iff_toInt_lt, show (0 : Int32).toInt = 0 from rfl] at r; omega
  · rfl
theorem own_n1 {aa m : Int32} {X : Int} (h : m.toInt = X) : (aa.toInt64 + m.toInt64).toInt = aa.toInt + X := by
  have h1 := c_ladd aa.toInt64 m.toInt64
  rw [c_i2l, c_i2l] at h1
  have r1 := rng32 aa
  have r2 := rng32 m
  have r3 := rng64 (aa.toInt64 + m.toInt64)
  omega
theorem own_n0 (aa : Int32) : (aa.toInt64 + (0 : Int64)).toInt = aa.toInt := (own_n1 (m := 0) rfl).trans (Int.add_zero _)
def Q_rm0 (Z : State) (p1 : Int32) (p2 : Int32) (p3 : Int32) (de : Addr) (k_de : ClassId)  (h0 : Heap) (n0 : Nat) (v : Option Value) (h : Heap) (L : List Loc) : Prop := v = some (.int 1) ∧ Fr n0 L
theorem own_pn_com_example_bidfold_bidfold_solve_CuttingPlaneMasterBoundPinLaw : plainName "com/example/bidfold/bidfold/solve/CuttingPlaneMasterBoundPinLaw" = true := by first | (simp [plainName, overriddenIn]; done) | decide +kernel
theorem rm0 (l : Launch) (Z : State) (a0 : Array Value) (hw : own_Hw a0 Z) (ws : List Jvm.Cond) (p1 : Int32) (p2 : Int32) (p3 : Int32) (de : Addr) (k_de : ClassId)  (h0 : Heap) (n0 : Nat) (Z0 : n0 ≤ h0.size) (f0_ : Arv Z h0 de k_de (.object "java/lang/Object") (0 : Int32) [] .null) (O3 : Sta Z Z.heap sA "DEFAULTCAPACITY_EMPTY_ELEMENTDATA" sO (.ref de)) (OLD0 : Old Z n0 h0) : own_Met l Z own_mn51 code 15 (some .boolean) ws room_1 #[.int p1, .int p2, .int p3] h0 (Q_rm0 Z p1 p2 p3 de k_de h0 n0) := by
  refine own_begS "com/example/bidfold/bidfold/solve/CuttingPlaneMasterBoundPinLaw" n0 [] #[vi p1, vi p2, vi p3, un, un, un, un, un, un, un, un, un, un, un, un] oT0 (plainFor_of_name own_pn_com_example_bidfold_bidfold_solve_CuttingPlaneMasterBoundPinLaw) fun p e s m below meth c s₁ hx D hml hown hnm hret hlk hZ X0 e0 PS y0 N0 KK0 => ?_
  have y3986 := rP 1 1 _ [.int p1] y0 X0 hx D rfl
  have y3987 := fun (τ : State) kt => y3986 τ (X0.ldcInt hx hown (mvT hZ (w0 hw)) (g := (mkF m 1 #[vi p1, vi p2, vi p3, un, un, un, un, un, un, un, un, un, un, un, un] [.int p1])) rfl (D 1 rfl) _ kt)
  have y3988 := fun (τ : State) kt => y3987 τ (XS.iand X0.here hx rfl (D 3 rfl) rfl kt)
  have y3989 := fun (τ : State) kt => y3988 τ (X0.ldcInt hx hown (mvT hZ (w1 hw)) (g := (mkF m 4 #[vi p1, vi p2, vi p3, un, un, un, un, un, un, un, un, un, un, un, un] [(.int (p1 &&& (1048575 : Int32)))])) rfl (D 4 rfl) _ kt)
  have y3990 := rP 1 7 _ [(.int ((p1 &&& (1048575 : Int32)) - (524288 : Int32)))] y3989 X0 hx D rfl
  obtain ⟨aa, e_aa⟩ : ∃ z : Int32, z = ((p1 &&& (1048575 : Int32)) - (524288 : Int32)) := ⟨_, rfl⟩
  have y3991 : ∀ τ, Steps p.tables e below (s₁.setTop (mkF m 7 #[vi p1, vi p2, vi p3, un, un, un, un, un, un, un, un, un, un, un, un] [.int aa])) τ → PS τ := by rw [e_aa]; exact y3990
  have y3992 := rP 2 9 [vi p1, vi p2, vi p3, vi aa, un, un, un, un, un, un, un, un, un, un, un] [.int p2] y3991 X0 hx D rfl
  have y3993 := fun (τ : State) kt => y3992 τ (X0.ldcInt hx hown (mvT hZ (w0 hw)) (g := (mkF m 9 #[vi p1, vi p2, vi p3, vi aa, un, un, un, un, un, un, un, un, un, un, un] [.int p2])) rfl (D 9 rfl) _ kt)
  have y3994 := fun (τ : State) kt => y3993 τ (XS.iand X0.here hx rfl (D 11 rfl) rfl kt)
  have y3995 := fun (τ : State) kt => y3994 τ (X0.ldcInt hx hown (mvT hZ (w1 hw)) (g := (mkF m 12 #[vi p1, vi p2, vi p3, vi aa, un, un, un, un, un, un, un, un, un, un, un] [(.int (p2 &&& (1048575 : Int32)))])) rfl (D 12 rfl) _ kt)
  have y3996 := rP 1 15 _ [(.int ((p2 &&& (1048575 : Int32)) - (524288 : Int32)))] y3995 X0 hx D rfl
  obtain ⟨ss, e_ss⟩ : ∃ z : Int32, z = ((p2 &&& (1048575 : Int32)) - (524288 : Int32)) := ⟨_, rfl⟩
  have y3997 : ∀ τ, Steps p.tables e below (s₁.setTop (mkF m 15 #[vi p1, vi p2, vi p3, vi aa, un, un, un, un, un, un, un, un, un, un, un] [.int ss])) τ → PS τ := by rw [e_ss]; exact y3996
  have y3998 := rP 3 19 [vi p1, vi p2, vi p3, vi aa, vi ss, un, un, un, un, un, un, un, un, un, un] [.int 1, .int p3] y3997 X0 hx D rfl
  have y3999 := fun (τ : State) kt => y3998 τ (XS.iand X0.here hx rfl (D 19 rfl) rfl kt)
  obtain ⟨tt, e_tt⟩ : ∃ z : Int32, z = (p3 &&& (1 : Int32)) := ⟨_, rfl⟩
  have y4000 : ∀ τ, Steps p.tables e below (s₁.setTop (mkF m 20 #[vi p1, vi p2, vi p3, vi aa, vi ss, un, un, un, un, un, un, un, un, un, un] [.int tt])) τ → PS τ := by rw [e_tt]; exact y3999
  obtain ⟨ra1, ra2⟩ := own_m20 p1
  rw [← e_aa] at ra1 ra2
  obtain ⟨rs1, rs2⟩ := own_m20 p2
  rw [← e_ss] at rs1 rs2
  have ht := own_m1 p3
  rw [← e_tt] at ht
  obtain ⟨tv, htv, hT⟩ := own_tv ht
  have hZA := own_zv_D (own_d_i2d aa)
  have hZS := own_zv_D (own_d_i2d ss)
  obtain ⟨uu, xe, co, huu, hxe, hco, hL⟩ := own_lw hZA hZS (by omega) (by omega)
  obtain ⟨U_, oU, pU, qU, ok_xe, ok_co, -, -⟩ := id hL
  have ok_uu : own_ok 1048576 uu := own_ok_mono (own_zv_ok oU) (by omega)
  have ok_aa : own_ok 524288 (FP.i2d aa) := own_ok_mono (own_zv_ok hZA) (by omega)
  have ok_ss : own_ok 524288 (FP.i2d ss) := own_ok_mono (own_zv_ok hZS) (by omega)
  obtain ⟨sg, pn0, zn0, pn1, zn1, hsg, hR0, hR1, hs0, hsd, hG⟩ := own_sgn (FP.i2d ss) xe
  obtain ⟨T4001, h4001, X4001, e4001, E4001, A4001, D4001, -, st4001⟩ := newO X0 hx hZ hown (w2 hw) (w3 hw) (w4 hw) e0 (g := (mkF m 22 #[vi p1, vi p2, vi p3, vi aa, vi ss, vi tt, un, un, un, un, un, un, un, un, un] [])) rfl (D 22 rfl) (by decide) (by decide)
  obtain ⟨cm, g4001⟩ : ∃ z, z = h0.size := ⟨_, rfl⟩
  rw [← g4001] at A4001 D4001 st4001
  have g_cm : n0 ≤ cm := Nat.le_trans (Nat.le_trans Z0 KK0.1) (Nat.le_of_eq g4001.symm)
  have sz_cm : h0.size ≤ cm := Nat.le_trans KK0.1 (Nat.le_of_eq g4001.symm)
  have F_dense_cm : Fld Z h4001 cm sC "dense" "Ljava/util/List;" .null := D4001 (Or.inr (w36 hw)) (ty := (.object "java/util/List")) (by decide)
  have F_kernelRows_cm : Fld Z h4001 cm sC "kernelRows" "[I" .null := D4001 (Or.inl (w39 hw)) (ty := (.array .int)) (by decide)
  have F_kernelColumns_cm : Fld Z h4001 cm sC "kernelColumns" "[I" .null := D4001 (Or.inl (w41 hw)) (ty := (.array .int)) (by decide)
  have F_duals_cm : Fld Z h4001 cm sC "duals" "[D" .null := D4001 (Or.inl (w44 hw)) (ty := (.array .double)) (by decide)
  have F_dimension_cm : Fld Z h4001 cm sC "dimension" "I" (.int 0) := D4001 (Or.inr (w46 hw)) (ty := .int) (by decide)
  have F_rows_cm : Fld Z h4001 cm sC "rows" "I" (.int 0) := D4001 (Or.inr (w48 hw)) (ty := .int) (by decide)
  have F_mostPivots_cm : Fld Z h4001 cm sC "mostPivots" "I" (.int 0) := D4001 (Or.inr (w50 hw)) (ty := .int) (by decide)
  have F_side_cm : Fld Z h4001 cm sC "side" "[I" .null := D4001 (Or.inr (w52 hw)) (ty := (.array .int)) (by decide)
  have F_boundValues_cm : Fld Z h4001 cm sC "boundValues" "[D" .null := D4001 (Or.inr (w54 hw)) (ty := (.array .double)) (by decide)
  have F_inverse_cm : Fld Z h4001 cm sC "inverse" "[[D" .null := D4001 (Or.inl (w107 hw)) (ty := (.array (.array .double))) (by decide)
  have F_unit_cm : Fld Z h4001 cm sC "unit" "D" (.double 0) := D4001 (Or.inl (w115 hw)) (ty := .double) (by decide)
  have F_kernelValues_cm : Fld Z h4001 cm sC "kernelValues" "[D" .null := D4001 (Or.inl (w189 hw)) (ty := (.array .double)) (by decide)
  have F_pivotsSinceInversion_cm : Fld Z h4001 cm sC "pivotsSinceInversion" "I" (.int 0) := D4001 (Or.inl (w244 hw)) (ty := .int) (by decide)
  have y4002 := rP 1 22 [vi p1, vi p2, vi p3, vi aa, vi ss, vi tt, un, un, un, un, un, un, un, un, un] [] y4000 X0 hx D rfl
  have y4003 := fun (τ : State) kt => y4002 τ (st4001 τ kt)
  have b4004 : own_BC Z h4001 cm (.int 0) (.int 0) (.int 0) .null .null .null .null .null .null .null (.double 0) .null (.int 0) := ⟨A4001, F_dimension_cm, F_rows_cm, F_mostPivots_cm, F_dense_cm, F_side_cm, F_boundValues_cm, F_kernelRows_cm, F_kernelColumns_cm, F_inverse_cm, F_kernelValues_cm, F_unit_cm, F_duals_cm, F_pivotsSinceInversion_cm⟩
  have old4005 := OLD0.ext E4001
  have f4006 := f0_.ext E4001
  have K4007 := KK0.ext E4001
  obtain ⟨_, T4009, L4009, X4009, ⟨al, ed, kr, kc, du, sd, bvs, t0, d0, k_ed, k_kr, k_kc, k_du, k_sd, k_bvs, k_t0, rfl, Nq4009, Kq4009, g4008_al, z4008_al, g4008_ed, z4008_ed, g4008_kr, z4008_kr, g4008_kc, z4008_kc, g4008_du, z4008_du, g4008_sd, z4008_sd, g4008_bvs, z4008_bvs, g4008_t0, z4008_t0, g4008_d0, z4008_d0, w4008_0, w4008_1, w4008_2, w4008_3, w4008_4, w4008_5, p4008_0, p4008_1, p4008_2, p4008_3, p4008_4, p4008_5, p4008_6, p4008_7, p4008_8, p4008_9, p4008_10⟩, st4009⟩ := own_spec (y := own_mn19) (b := cm) X4001 hx hZ rfl hown (w5 hw) (w6 hw) (by decide) (rmCP l Z a0 hw [] cm tt de k_de h4001 n0 (Nat.le_trans Z0 K4007.1) b4004 f4006 g_cm O3 old4005) (w7 hw) (w4 hw) 1 (by decide) (by decide) e4001 (mkF m 29 #[vi p1, vi p2, vi p3, vi aa, vi ss, vi tt, un, un, un, un, un, un, un, un, un] [.int tt, .int 1, .ref cm, .ref cm]) rfl hml.symm [.int 1, .int tt] [.ref cm] rfl (lenOf own_pd__II_V rfl) rfl (Nat.le_refl _) (D 29 rfl) (by decide) (by decide)
  have y4010 := rP 3 29 _ [.int tt, .int 1, .ref cm, .ref cm] y4003 X4001 hx D rfl
  have y4011 := fun (τ : State) kt => y4010 τ (st4009 τ kt)
  have sz_al := Nat.le_trans K4007.1 z4008_al
  have sz_ed := Nat.le_trans K4007.1 z4008_ed
  have sz_kr := Nat.le_trans K4007.1 z4008_kr
  have sz_kc := Nat.le_trans K4007.1 z4008_kc
  have sz_du := Nat.le_trans K4007.1 z4008_du
  have sz_sd := Nat.le_trans K4007.1 z4008_sd
  have sz_bvs := Nat.le_trans K4007.1 z4008_bvs
  have sz_t0 := Nat.le_trans K4007.1 z4008_t0
  have sz_d0 := Nat.le_trans K4007.1 z4008_d0
  have b4012 := p4008_10
  rw [htv] at b4012
  obtain ⟨T4013, h4013, k4013, X4013, e4013, E4013, A4013, st4013⟩ := newP (aty := .double) X4009 hx hZ (w42 hw) rfl (g := (mkF m 35 #[vi p1, vi p2, vi p3, vi aa, vi ss, vi tt, vr cm, un, un, un, un, un, un, un, un] [.int 1])) rfl (D 35 rfl) rfl (by decide) (cap := 1) (by decide) (by decide) (by decide) (by decide)
  obtain ⟨sl, g4013⟩ : ∃ z, z = T4009.heap.size := ⟨_, rfl⟩
  rw [← g4013] at A4013 st4013
  have K4014 := K4007.trans Kq4009 (allS (Or.inr sz_cm) (all0))
  have g_sl : n0 ≤ sl := Nat.le_trans (Nat.le_trans Z0 K4014.1) (Nat.le_of_eq g4013.symm)
  have sz_sl : h0.size ≤ sl := Nat.le_trans K4014.1 (Nat.le_of_eq g4013.symm)
  have V_sl : Arv Z h4013 sl k4013 .double (1 : Int32) [.double 0] (.double 0) := (Arv.new A4013 (by decide)).pad (pad_rep [] (.double 0) 1)
  have y4015 := rP 2 35 [vi p1, vi p2, vi p3, vi aa, vi ss, vi tt, vr cm, un, un, un, un, un, un, un, un] [.int 1] y4011 X4009 hx D rfl
  have y4016 := fun (τ : State) kt => y4015 τ (st4013 τ kt)
  have y4017 := rP 5 45 [vi p1, vi p2, vi p3, vi aa, vi ss, vi tt, vr cm, vr sl, un, un, un, un, un, un, un] [(.double (FP.i2d ss)), .int 0, .ref sl] y4016 X4013 hx D rfl
  obtain ⟨T4018, h4018, X4018, e4018, W4018, V4018, y4018⟩ := own_dstK y4017 X4013 hx hZ e4013 V_sl rfl rfl (D 45 rfl) ⟨by decide, by decide⟩ 0 rfl (Nat.le_of_ble_eq_true rfl)
  have ne4019 := own_ltn (own_up A4001.lt Kq4009.1) (Nat.le_of_eq g4013.symm)
  have b4020 := (p4008_0.ext E4013).other W4018 ne4019
  have ne4021 := own_ltn p4008_1.e.lt (Nat.le_of_eq g4013.symm)
  have b4022 := (p4008_1.ext E4013).other W4018 ne4021
  have ne4023 := own_ltn p4008_2.lt (Nat.le_of_eq g4013.symm)
  have f4024 := (p4008_2.ext E4013).other W4018 ne4023
  have ne4025 := own_ltn p4008_6.lt (Nat.le_of_eq g4013.symm)
  have f4026 := (p4008_6.ext E4013).other W4018 ne4025
  have ne4027 := own_ltn p4008_7.lt (Nat.le_of_eq g4013.symm)
  have f4028 := (p4008_7.ext E4013).other W4018 ne4027
  have ne4029 := own_ltn p4008_8.lt (Nat.le_of_eq g4013.symm)
  have f4030 := (p4008_8.ext E4013).other W4018 ne4029
  have ne4031 := own_ltn p4008_10.e.lt (Nat.le_of_eq g4013.symm)
  have b4032 := (b4012.ext E4013).other W4018 ne4031
  have ne4033 := own_ltn p4008_9.lt (Nat.le_of_eq g4013.symm)
  have f4034 := (p4008_9.ext E4013).other W4018 ne4033
  have K4035 := (K4014.ext E4013).wr W4018 (Or.inr sz_sl)
  have y4038 := rP 4 52 _ [.ref sl, (.double (FP.i2d aa)), .ref cm] y4018 X4018 hx D rfl
  obtain ⟨_, T4037, L4037, X4037, ⟨bv4036, kr2, kc2, t1, x2, iv, i0, kv, k_kr2, k_kc2, k_t1, k_iv, k_i0, k_kv, rfl, Nq4037, Kq4037, g4036_kr2, z4036_kr2, g4036_kc2, z4036_kc2, g4036_t1, z4036_t1, g4036_x2, z4036_x2, g4036_iv, z4036_iv, g4036_i0, z4036_i0, g4036_kv, z4036_kv, w4036_0, w4036_1, w4036_2, w4036_3, p4036_0, p4036_1, p4036_2, p4036_3, p4036_4, p4036_5, p4036_6, p4036_7, p4036_8, p4036_9, p4036_10, p4036_11, p4036_12, p4036_13, p4036_14, p4036_15, p4036_16, x4036_bv⟩, y4037⟩ := cV y4038 X4018 hx hZ hown hml.symm (own_V37 hw) (rmAdC l Z a0 hw [] cm (FP.i2d aa) sl al ed du sd bvs d0 t0 k_ed k4013 k_du k_sd k_bvs k_t0 tv (FP.i2d ss) uu xe co sg pn0 zn0 pn1 zn1 kr kc h4018 n0 (Nat.le_trans Z0 K4035.1) b4020 b4022 f4024 p4008_3 V4018 f4026 f4028 f4030 b4032 f4034 (Ne.symm ne4025) (Ne.symm ne4029) (Ne.symm ne4033) w4008_3 w4008_4 w4008_5 g_cm g4008_al g4008_ed g4008_sd g4008_bvs g4008_d0 huu hxe hco hsg hR0 hR1 hs0 hsd ok_aa ok_ss ok_xe ok_co) 0 b4020.e e4018 [(.double (FP.i2d aa)), .ref sl] [] D
  have sz_kr2 := Nat.le_trans K4035.1 z4036_kr2
  have sz_kc2 := Nat.le_trans K4035.1 z4036_kc2
  have sz_t1 := Nat.le_trans K4035.1 z4036_t1
  have sz_x2 := Nat.le_trans K4035.1 z4036_x2
  have sz_iv := Nat.le_trans K4035.1 z4036_iv
  have sz_i0 := Nat.le_trans K4035.1 z4036_i0
  have sz_kv := Nat.le_trans K4035.1 z4036_kv
  have y4039 := rP 2 59 [vi p1, vi p2, vi p3, vi aa, vi ss, vi tt, vr cm, vr sl, vi 1, un, un, un, un, un, un] [.ref cm] y4037 X4037 hx D rfl
  rcases hG with ⟨rfl, rfl, rfl, rfl, rfl, hq⟩ | ⟨rfl, rfl, rfl, rfl, rfl, hq⟩ <;> rcases hT with ⟨rfl, rfl⟩ | ⟨rfl, rfl⟩
  · skip
    have ne4040 := own_ltn A4001.lt z4008_t0
    have f4041 := f4034.keep Kq4037 (ninS (Ne.symm ne4040) (ninS (Ne.symm (Exa.neArv p4008_1.e p4008_9 (w12 hw))) (ninS (Ne.symm (own_arv_ne p4008_2 p4008_9 (by decide))) (ninS (Ne.symm (own_arv_ne p4008_7 p4008_9 (by decide))) (ninS (Ne.symm w4008_5) (ninS (Ne.symm (Exa.neArv p4008_10.e p4008_9 (w56 hw))) nin0))))))
    have ne4042 := own_ltn (own_up (own_up p4008_7.lt E4013.1) (Keep.of_wr W4018).1) z4036_kr2
    have ne4043 := own_ltn (own_up (own_up p4008_7.lt E4013.1) (Keep.of_wr W4018).1) z4036_kc2
    have ne4044 := own_ltn (own_up (own_up p4008_8.lt E4013.1) (Keep.of_wr W4018).1) z4036_i0
    have ne4045 := own_ltn (own_up (own_up p4008_9.lt E4013.1) (Keep.of_wr W4018).1) z4036_i0
    have ne4046 := own_ltn (own_up (own_up p4008_8.lt E4013.1) (Keep.of_wr W4018).1) z4036_kv
    have ne4047 := own_ltn (own_up (own_up p4008_9.lt E4013.1) (Keep.of_wr W4018).1) z4036_kv
    have ne4048 := own_ltn (own_up (own_up p4008_8.lt E4013.1) (Keep.of_wr W4018).1) z4036_t1
    have ne4049 := own_ltn (own_up (own_up p4008_10.e.lt E4013.1) (Keep.of_wr W4018).1) z4036_x2
    have ne4050 := own_ltn (own_up (own_up p4008_9.lt E4013.1) (Keep.of_wr W4018).1) z4036_t1
    have K4051 := K4035.trans Kq4037 (allS (Or.inr sz_cm) (allS (Or.inr sz_al) (allS (Or.inr sz_ed) (allS (Or.inr sz_sd) (allS (Or.inr sz_bvs) (allS (Or.inr sz_d0) (all0)))))))
    obtain ⟨_, T4053, L4053, X4053, ⟨yz4052, krn, kcn, iv2, kv2, yy, k_yy, rfl, Nq4053, Kq4053, g4052_krn, z4052_krn, g4052_kcn, z4052_kcn, g4052_iv2, z4052_iv2, g4052_kv2, z4052_kv2, g4052_yy, z4052_yy, p4052_0, p4052_1, x4052_yz⟩, y4053⟩ := cV y4039 X4037 hx hZ hown hml.symm (own_V38 hw) (rmSoC l Z a0 hw [] cm sd kr2 kc2 iv i0 kv bvs al ed d0 x2 t0 t1 k_sd k_kr2 k_kc2 k_iv k_i0 k_kv k_bvs k_ed k_t0 k_t1 uu bv4036 co xe du T4037.heap n0 (Nat.le_trans Z0 K4051.1) p4036_0 p4036_4 p4036_7 p4036_8 p4036_11 p4036_12 p4036_13 p4036_14 p4036_15 p4036_16 p4036_5 p4036_1 p4036_2 p4036_3 p4036_6 p4036_10 f4041 p4036_9 ne4042 ne4043 w4036_0 w4036_3 (Ne.symm ne4044) (Ne.symm ne4045) (Ne.symm w4036_1) (Ne.symm ne4046) (Ne.symm ne4047) (Ne.symm w4036_2) w4008_5 ne4048 ne4049 ne4050 g_cm g4008_sd g4036_kv g4008_bvs g4008_d0 g4036_x2 ok_xe x4036_bv ok_co) 0 p4036_0.e rfl [] [] D
    have sz_krn := Nat.le_trans K4051.1 z4052_krn
    have sz_kcn := Nat.le_trans K4051.1 z4052_kcn
    have sz_iv2 := Nat.le_trans K4051.1 z4052_iv2
    have sz_kv2 := Nat.le_trans K4051.1 z4052_kv2
    have sz_yy := Nat.le_trans K4051.1 z4052_yy
    have he : own_eq yz4052 co := x4052_yz
    have K4054 := K4051.trans Kq4053 (allS (Or.inr sz_cm) (allS (Or.inr sz_sd) (allS (Or.inr sz_kv) (allS (Or.inr sz_bvs) (allS (Or.inr sz_d0) (allS (Or.inr sz_x2) (all0)))))))
    have y4057 := rP 1 64 _ [.ref cm] y4053 X4053 hx D rfl
    obtain ⟨_, T4056, L4056, X4056, ⟨rfl, Nq4056, eq4056⟩, y4056⟩ := cV y4057 X4053 hx hZ hown hml.symm (own_V39 hw) (rmBo l Z a0 hw [] cm yy k_yy yz4052 (0 : UInt64) uu T4053.heap n0 (Nat.le_trans Z0 K4054.1) p4052_0.e p4052_0.f11 p4052_0.f10 p4052_1 (own_ok_mono (own_eq_ok he ok_co) (by decide)) ok_uu) 0 p4052_0.e rfl [] [] D
    obtain ⟨bb, e_bb⟩ : ∃ z : UInt64, z = (FP.dmul yz4052 uu) := ⟨_, rfl⟩
    have y4058 : ∀ τ, Steps p.tables e below (T4056.setTop (mkF m 67 #[vi p1, vi p2, vi p3, vi aa, vi ss, vi 0, vr cm, vr sl, vi 1, un, un, un, un, un, un] [.double bb])) τ → PS τ := by rw [e_bb]; exact y4056
    have hres : own_res bb ((aa).toInt64 + (0 : Int64)) := e_bb ▸ (own_resA hL he (own_n0 aa) (by omega))
    have y4059 := rP 2 70 [vi p1, vi p2, vi p3, vi aa, vi ss, vi 0, vr cm, vr sl, vi 1, vd bb, .second, un, un, un, un] [.int aa] y4058 X4056 hx D rfl
    have y4060 := fun (τ : State) kt => y4059 τ (XT.i2l X4056.here hx rfl (D 70 rfl) rfl kt)
    have y4061 := rP 3 87 _ [(.long (aa).toInt64)] y4060 X4056 hx D rfl
    have y4062 := fun (τ : State) kt => y4061 τ (XT.lconst X4056.here hx rfl (D 87 rfl) kt)
    have y4063 := fun (τ : State) kt => y4062 τ (XT.ladd X4056.here hx rfl (D 88 rfl) rfl kt)
    have y4064 := fun (τ : State) kt => y4063 τ (XT.lstore X4056.here hx rfl (D 89 rfl) rfl (l' := #[vi p1, vi p2, vi p3, vi aa, vi ss, vi 0, vr cm, vr sl, vi 1, vd bb, .second, .val (.long ((aa).toInt64 + (0 : Int64))), .second, un, un]) rfl kt)
    have y4065 := rP 1 93 _ [.double bb] y4064 X4056 hx D rfl
    have y4066 := fun (τ : State) kt => y4065 τ (XT.lload X4056.here hx rfl (D 93 rfl) rfl kt)
    have y4067 := fun (τ : State) kt => y4066 τ (own_l2d X4056.here hx rfl (D 95 rfl) rfl kt)
    have y4068 := own_dsubP y4067 X4056 hx D (hres.1)
    have y4069 := rP 4 106 [vi p1, vi p2, vi p3, vi aa, vi ss, vi 0, vr cm, vr sl, vi 1, vd bb, .second, .val (.long ((aa).toInt64 + (0 : Int64))), .second, .val (.double (FP.dsub bb (FP.l2d ((aa).toInt64 + (0 : Int64))))), .second] [(.double (FP.dsub bb (FP.l2d ((aa).toInt64 + (0 : Int64)))))] y4068 X4056 hx D rfl
    have y4070 := fun (τ : State) kt => y4069 τ (X4056.ldc2DoubleC hx hown (mvT hZ (w289 hw)) (g := (mkF m 106 #[vi p1, vi p2, vi p3, vi aa, vi ss, vi 0, vr cm, vr sl, vi 1, vd bb, .second, .val (.long ((aa).toInt64 + (0 : Int64))), .second, .val (.double (FP.dsub bb (FP.l2d ((aa).toInt64 + (0 : Int64))))), .second] [(.double (FP.dsub bb (FP.l2d ((aa).toInt64 + (0 : Int64)))))])) rfl (D 106 rfl) _ kt)
    have y4071 := rP 1 110 _ [(.int (cmpValue (FP.dcmp (FP.dsub bb (FP.l2d ((aa).toInt64 + (0 : Int64)))) (4517329193108106637 : UInt64)) .g))] y4070 X4056 hx D rfl
    have y4072 := fun (τ : State) kt => y4071 τ (XS.ifNo X4056.here hx rfl (D 110 rfl) rfl ((if0 _ _).trans (flt hres.2.1).2.2.1) kt)
    have y4073 := rP 1 115 _ [(.double (FP.dsub bb (FP.l2d ((aa).toInt64 + (0 : Int64)))))] y4072 X4056 hx D rfl
    have y4074 := fun (τ : State) kt => y4073 τ (X4056.ldc2DoubleC hx hown (mvT hZ (w290 hw)) (g := (mkF m 115 #[vi p1, vi p2, vi p3, vi aa, vi ss, vi 0, vr cm, vr sl, vi 1, vd bb, .second, .val (.long ((aa).toInt64 + (0 : Int64))), .second, .val (.double (FP.dsub bb (FP.l2d ((aa).toInt64 + (0 : Int64))))), .second] [(.double (FP.dsub bb (FP.l2d ((aa).toInt64 + (0 : Int64)))))])) rfl (D 115 rfl) _ kt)
    have y4075 := rP 1 119 _ [(.int (cmpValue (FP.dcmp (FP.dsub bb (FP.l2d ((aa).toInt64 + (0 : Int64)))) (13740701229962882445 : UInt64)) .l))] y4074 X4056 hx D rfl
    have y4076 := fun (τ : State) kt => y4075 τ (XS.ifNo X4056.here hx rfl (D 119 rfl) rfl ((if0 _ _).trans (flt hres.2.2).1) kt)
    have y4077 := rP 2 127 _ [.int 1] y4076 X4056 hx D rfl
    exact own_retZ X4056 hlk y4077 hx hret rfl (D 127 rfl) (by decide) (by decide) eq4056 ⟨rfl, (Fr.app (Fr.app (Fr.app (Fr.snoc X4018 (Fr.app N0 Nq4009) g_sl) Nq4037) Nq4053) Nq4056)⟩
  · skip
    have hp : ((4607182418800017408 : UInt64) : UInt64) = 0 ∨ ((4607182418800017408 : UInt64) : UInt64) = (4607182418800017408 : UInt64) := by decide
    have hc : own_nb (4607182418800017408 : UInt64) (4607182418800017408 : UInt64) (4607182418800017408 : UInt64) := by decide +kernel
    have ok_P1 : own_ok 1 (FP.dadd (0 : UInt64) (FP.dmul (4607182418800017408 : UInt64) xe)) := ⟨(own_P1 ok_xe).1, by rw [(own_P1 ok_xe).2]; exact ok_xe.2.1, by rw [(own_P1 ok_xe).2]; exact ok_xe.2.2⟩
    have ne4078 := own_ltn A4001.lt z4008_t0
    have f4079 := f4034.keep Kq4037 (ninS (Ne.symm ne4078) (ninS (Ne.symm (Exa.neArv p4008_1.e p4008_9 (w12 hw))) (ninS (Ne.symm (own_arv_ne p4008_2 p4008_9 (by decide))) (ninS (Ne.symm (own_arv_ne p4008_7 p4008_9 (by decide))) (ninS (Ne.symm w4008_5) (ninS (Ne.symm (Exa.neArv p4008_10.e p4008_9 (w56 hw))) nin0))))))
    have ne4080 := own_ltn (own_up (own_up p4008_7.lt E4013.1) (Keep.of_wr W4018).1) z4036_kr2
    have ne4081 := own_ltn (own_up (own_up p4008_7.lt E4013.1) (Keep.of_wr W4018).1) z4036_kc2
    have ne4082 := own_ltn (own_up (own_up p4008_9.lt E4013.1) (Keep.of_wr W4018).1) z4036_i0
    have ne4083 := own_ltn (own_up (own_up p4008_10.e.lt E4013.1) (Keep.of_wr W4018).1) z4036_x2
    have K4084 := K4035.trans Kq4037 (allS (Or.inr sz_cm) (allS (Or.inr sz_al) (allS (Or.inr sz_ed) (allS (Or.inr sz_sd) (allS (Or.inr sz_bvs) (allS (Or.inr sz_d0) (all0)))))))
    obtain ⟨_, T4086, L4086, X4086, ⟨yy, k_yy, rfl, Nq4086, Kq4086, g4085_yy, z4085_yy, p4085_0, p4085_1⟩, y4086⟩ := cV y4039 X4037 hx hZ hown hml.symm (own_V38 hw) (rmSoP l Z a0 hw [] cm sd kr2 kc2 iv i0 al ed d0 x2 t0 k_sd k_kr2 k_kc2 k_iv k_i0 k_ed k_t0 uu co (FP.dadd (0 : UInt64) (FP.dmul (4607182418800017408 : UInt64) xe)) (4607182418800017408 : UInt64) (4607182418800017408 : UInt64) (4607182418800017408 : UInt64) bvs kv du T4037.heap n0 (Nat.le_trans Z0 K4084.1) p4036_0 p4036_4 p4036_7 p4036_8 p4036_11 p4036_12 p4036_13 p4036_14 p4036_15 p4036_1 p4036_2 p4036_3 p4036_6 p4036_10.e p4036_10.f1 p4036_10.f2 p4036_10.f4 f4079 ne4080 ne4081 w4036_0 (Ne.symm ne4082) ne4083 g_cm hp hc ok_co ok_P1 own_okc_4607182418800017408 own_okc_4607182418800017408 own_okc_4607182418800017408) 0 p4036_0.e rfl [] [] D
    have sz_yy := Nat.le_trans K4084.1 z4085_yy
    have K4087 := K4084.trans Kq4086 (allS (Or.inr sz_cm) (all0))
    have y4090 := rP 1 64 _ [.ref cm] y4086 X4086 hx D rfl
    obtain ⟨_, T4089, L4089, X4089, ⟨rfl, Nq4089, eq4089⟩, y4089⟩ := cV y4090 X4086 hx hZ hown hml.symm (own_V39 hw) (rmBo l Z a0 hw [] cm yy k_yy (FP.dadd (0 : UInt64) (FP.dmul (FP.dsub co (FP.dadd (0 : UInt64) (FP.dmul (4607182418800017408 : UInt64) xe))) (4607182418800017408 : UInt64))) (4607182418800017408 : UInt64) uu T4086.heap n0 (Nat.le_trans Z0 K4087.1) p4085_0.e p4085_0.f11 p4085_0.f10 p4085_1 (own_ok_mono (own_ok_add own_okc_0 (own_ok_mul (own_ok_sub ok_co ok_P1 (by decide)) own_okc_4607182418800017408 (by decide)) (by decide)) (by decide)) ok_uu) 0 p4085_0.e rfl [] [] D
    obtain ⟨bb, e_bb⟩ : ∃ z : UInt64, z = (FP.dmul (FP.dadd (0 : UInt64) (FP.dmul (FP.dsub co (FP.dadd (0 : UInt64) (FP.dmul (4607182418800017408 : UInt64) xe))) (4607182418800017408 : UInt64))) uu) := ⟨_, rfl⟩
    have y4091 : ∀ τ, Steps p.tables e below (T4089.setTop (mkF m 67 #[vi p1, vi p2, vi p3, vi aa, vi ss, vi 1, vr cm, vr sl, vi 1, un, un, un, un, un, un] [.double bb])) τ → PS τ := by rw [e_bb]; exact y4089
    have y4094 := rP 2 70 [vi p1, vi p2, vi p3, vi aa, vi ss, vi 1, vr cm, vr sl, vi 1, vd bb, .second, un, un, un, un] [.int aa] y4091 X4089 hx D rfl
    have y4095 := fun (τ : State) kt => y4094 τ (XT.i2l X4089.here hx rfl (D 70 rfl) rfl kt)
    have y4096 := rP 5 80 _ [.int ss, .int 0, (.long (aa).toInt64)] y4095 X4089 hx D rfl
    obtain ⟨_, T4093, L4093, X4093, ⟨rfl, Nq4093, eq4093⟩, y4093⟩ := cS y4096 X4089 hx hZ hown hml.symm (own_V40 hw) (rmMxI l Z a0 hw [] (0 : Int32) ss T4086.heap n0 (Nat.le_trans Z0 K4087.1) ) 2 eq4089 [.int 0, .int ss] [(.long (aa).toInt64)] D
    have hres : own_res bb ((aa).toInt64 + ((own_maxI (0 : Int32) ss)).toInt64) := e_bb ▸ (own_resB hL (own_n1 (own_mxP hq)) (by omega) (by omega))
    have y4097 := fun (τ : State) kt => y4093 τ (XT.i2l X4093.here hx rfl (D 83 rfl) rfl kt)
    have y4098 := rP 1 88 _ [(.long ((own_maxI (0 : Int32) ss)).toInt64), (.long (aa).toInt64)] y4097 X4093 hx D rfl
    have y4099 := fun (τ : State) kt => y4098 τ (XT.ladd X4093.here hx rfl (D 88 rfl) rfl kt)
    have y4100 := fun (τ : State) kt => y4099 τ (XT.lstore X4093.here hx rfl (D 89 rfl) rfl (l' := #[vi p1, vi p2, vi p3, vi aa, vi ss, vi 1, vr cm, vr sl, vi 1, vd bb, .second, .val (.long ((aa).toInt64 + ((own_maxI (0 : Int32) ss)).toInt64)), .second, un, un]) rfl kt)
    have y4101 := rP 1 93 _ [.double bb] y4100 X4093 hx D rfl
    have y4102 := fun (τ : State) kt => y4101 τ (XT.lload X4093.here hx rfl (D 93 rfl) rfl kt)
    have y4103 := fun (τ : State) kt => y4102 τ (own_l2d X4093.here hx rfl (D 95 rfl) rfl kt)
    have y4104 := own_dsubP y4103 X4093 hx D (hres.1)
    have y4105 := rP 4 106 [vi p1, vi p2, vi p3, vi aa, vi ss, vi 1, vr cm, vr sl, vi 1, vd bb, .second, .val (.long ((aa).toInt64 + ((own_maxI (0 : Int32) ss)).toInt64)), .second, .val (.double (FP.dsub bb (FP.l2d ((aa).toInt64 + ((own_maxI (0 : Int32) ss)).toInt64)))), .second] [(.double (FP.dsub bb (FP.l2d ((aa).toInt64 + ((own_maxI (0 : Int32) ss)).toInt64))))] y4104 X4093 hx D rfl
    have y4106 := fun (τ : State) kt => y4105 τ (X4093.ldc2DoubleC hx hown (mvT hZ (w289 hw)) (g := (mkF m 106 #[vi p1, vi p2, vi p3, vi aa, vi ss, vi 1, vr cm, vr sl, vi 1, vd bb, .second, .val (.long ((aa).toInt64 + ((own_maxI (0 : Int32) ss)).toInt64)), .second, .val (.double (FP.dsub bb (FP.l2d ((aa).toInt64 + ((own_maxI (0 : Int32) ss)).toInt64)))), .second] [(.double (FP.dsub bb (FP.l2d ((aa).toInt64 + ((own_maxI (0 : Int32) ss)).toInt64))))])) rfl (D 106 rfl) _ kt)
    have y4107 := rP 1 110 _ [(.int (cmpValue (FP.dcmp (FP.dsub bb (FP.l2d ((aa).toInt64 + ((own_maxI (0 : Int32) ss)).toInt64))) (4517329193108106637 : UInt64)) .g))] y4106 X4093 hx D rfl
    have y4108 := fun (τ : State) kt => y4107 τ (XS.ifNo X4093.here hx rfl (D 110 rfl) rfl ((if0 _ _).trans (flt hres.2.1).2.2.1) kt)
    have y4109 := rP 1 115 _ [(.double (FP.dsub bb (FP.l2d ((aa).toInt64 + ((own_maxI (0 : Int32) ss)).toInt64))))] y4108 X4093 hx D rfl
    have y4110 := fun (τ : State) kt => y4109 τ (X4093.ldc2DoubleC hx hown (mvT hZ (w290 hw)) (g := (mkF m 115 #[vi p1, vi p2, vi p3, vi aa, vi ss, vi 1, vr cm, vr sl, vi 1, vd bb, .second, .val (.long ((aa).toInt64 + ((own_maxI (0 : Int32) ss)).toInt64)), .second, .val (.double (FP.dsub bb (FP.l2d ((aa).toInt64 + ((own_maxI (0 : Int32) ss)).toInt64)))), .second] [(.double (FP.dsub bb (FP.l2d ((aa).toInt64 + ((own_maxI (0 : Int32) ss)).toInt64))))])) rfl (D 115 rfl) _ kt)
    have y4111 := rP 1 119 _ [(.int (cmpValue (FP.dcmp (FP.dsub bb (FP.l2d ((aa).toInt64 + ((own_maxI (0 : Int32) ss)).toInt64))) (13740701229962882445 : UInt64)) .l))] y4110 X4093 hx D rfl
    have y4112 := fun (τ : State) kt => y4111 τ (XS.ifNo X4093.here hx rfl (D 119 rfl) rfl ((if0 _ _).trans (flt hres.2.2).1) kt)
    have y4113 := rP 2 127 _ [.int 1] y4112 X4093 hx D rfl
    exact own_retZ X4093 hlk y4113 hx hret rfl (D 127 rfl) (by decide) (by decide) eq4093 ⟨rfl, (Fr.app (Fr.app (Fr.app (Fr.app (Fr.snoc X4018 (Fr.app N0 Nq4009) g_sl) Nq4037) Nq4086) Nq4089) Nq4093)⟩
  · skip
    have hp : ((0 : UInt64) : UInt64) = 0 ∨ ((0 : UInt64) : UInt64) = (4607182418800017408 : UInt64) := by decide
    have hc : own_nb (0 : UInt64) (0 : UInt64) (0 : UInt64) := by decide +kernel
    have ne4114 := own_ltn A4001.lt z4008_t0
    have f4115 := f4034.keep Kq4037 (ninS (Ne.symm ne4114) (ninS (Ne.symm (Exa.neArv p4008_1.e p4008_9 (w12 hw))) (ninS (Ne.symm (own_arv_ne p4008_2 p4008_9 (by decide))) (ninS (Ne.symm (own_arv_ne p4008_7 p4008_9 (by decide))) (ninS (Ne.symm w4008_5) (ninS (Ne.symm (Exa.neArv p4008_10.e p4008_9 (w56 hw))) nin0))))))
    have ne4116 := own_ltn (own_up (own_up p4008_7.lt E4013.1) (Keep.of_wr W4018).1) z4036_kr2
    have ne4117 := own_ltn (own_up (own_up p4008_7.lt E4013.1) (Keep.of_wr W4018).1) z4036_kc2
    have ne4118 := own_ltn (own_up (own_up p4008_9.lt E4013.1) (Keep.of_wr W4018).1) z4036_i0
    have ne4119 := own_ltn (own_up (own_up p4008_10.e.lt E4013.1) (Keep.of_wr W4018).1) z4036_x2
    have K4120 := K4035.trans Kq4037 (allS (Or.inr sz_cm) (allS (Or.inr sz_al) (allS (Or.inr sz_ed) (allS (Or.inr sz_sd) (allS (Or.inr sz_bvs) (allS (Or.inr sz_d0) (all0)))))))
    obtain ⟨_, T4122, L4122, X4122, ⟨yy, k_yy, rfl, Nq4122, Kq4122, g4121_yy, z4121_yy, p4121_0, p4121_1⟩, y4122⟩ := cV y4039 X4037 hx hZ hown hml.symm (own_V38 hw) (rmSoM l Z a0 hw [] cm sd kr2 kc2 iv i0 al ed d0 x2 t0 k_sd k_kr2 k_kc2 k_iv k_i0 k_ed k_t0 uu co (0 : UInt64) (0 : UInt64) (0 : UInt64) (0 : UInt64) bvs kv du T4037.heap n0 (Nat.le_trans Z0 K4120.1) p4036_0 p4036_4 p4036_7 p4036_8 p4036_11 p4036_12 p4036_13 p4036_14 p4036_15 p4036_1 p4036_2 p4036_3 p4036_6 p4036_10.e p4036_10.f1 p4036_10.f2 p4036_10.f4 f4115 ne4116 ne4117 w4036_0 (Ne.symm ne4118) ne4119 g_cm hp hc ok_co (own_ok_mono own_okc_0 (by decide)) (own_ok_mono own_okc_0 (by decide)) (own_ok_mono own_okc_0 (by decide)) (own_ok_mono own_okc_0 (by decide))) 0 p4036_0.e rfl [] [] D
    have sz_yy := Nat.le_trans K4120.1 z4121_yy
    have he : own_eq (FP.dadd (0 : UInt64) (FP.dmul (FP.dsub co (0 : UInt64)) (4607182418800017408 : UInt64))) co := own_y1 ok_co (Or.inl rfl)
    have K4123 := K4120.trans Kq4122 (allS (Or.inr sz_cm) (all0))
    have y4126 := rP 1 64 _ [.ref cm] y4122 X4122 hx D rfl
    obtain ⟨_, T4125, L4125, X4125, ⟨rfl, Nq4125, eq4125⟩, y4125⟩ := cV y4126 X4122 hx hZ hown hml.symm (own_V39 hw) (rmBo l Z a0 hw [] cm yy k_yy (FP.dadd (0 : UInt64) (FP.dmul (FP.dsub co (0 : UInt64)) (4607182418800017408 : UInt64))) (0 : UInt64) uu T4122.heap n0 (Nat.le_trans Z0 K4123.1) p4121_0.e p4121_0.f11 p4121_0.f10 p4121_1 (own_ok_mono (own_ok_add own_okc_0 (own_ok_mul (own_ok_sub ok_co own_okc_0 (by decide)) own_okc_4607182418800017408 (by decide)) (by decide)) (by decide)) ok_uu) 0 p4121_0.e rfl [] [] D
    obtain ⟨bb, e_bb⟩ : ∃ z : UInt64, z = (FP.dmul (FP.dadd (0 : UInt64) (FP.dmul (FP.dsub co (0 : UInt64)) (4607182418800017408 : UInt64))) uu) := ⟨_, rfl⟩
    have y4127 : ∀ τ, Steps p.tables e below (T4125.setTop (mkF m 67 #[vi p1, vi p2, vi p3, vi aa, vi ss, vi 0, vr cm, vr sl, vi 1, un, un, un, un, un, un] [.double bb])) τ → PS τ := by rw [e_bb]; exact y4125
    have hres : own_res bb ((aa).toInt64 + (0 : Int64)) := e_bb ▸ (own_resA hL he (own_n0 aa) (by omega))
    have y4128 := rP 2 70 [vi p1, vi p2, vi p3, vi aa, vi ss, vi 0, vr cm, vr sl, vi 1, vd bb, .second, un, un, un, un] [.int aa] y4127 X4125 hx D rfl
    have y4129 := fun (τ : State) kt => y4128 τ (XT.i2l X4125.here hx rfl (D 70 rfl) rfl kt)
    have y4130 := rP 3 87 _ [(.long (aa).toInt64)] y4129 X4125 hx D rfl
    have y4131 := fun (τ : State) kt => y4130 τ (XT.lconst X4125.here hx rfl (D 87 rfl) kt)
    have y4132 := fun (τ : State) kt => y4131 τ (XT.ladd X4125.here hx rfl (D 88 rfl) rfl kt)
    have y4133 := fun (τ : State) kt => y4132 τ (XT.lstore X4125.here hx rfl (D 89 rfl) rfl (l' := #[vi p1, vi p2, vi p3, vi aa, vi ss, vi 0, vr cm, vr sl, vi 1, vd bb, .second, .val (.long ((aa).toInt64 + (0 : Int64))), .second, un, un]) rfl kt)
    have y4134 := rP 1 93 _ [.double bb] y4133 X4125 hx D rfl
    have y4135 := fun (τ : State) kt => y4134 τ (XT.lload X4125.here hx rfl (D 93 rfl) rfl kt)
    have y4136 := fun (τ : State) kt => y4135 τ (own_l2d X4125.here hx rfl (D 95 rfl) rfl kt)
    have y4137 := own_dsubP y4136 X4125 hx D (hres.1)
    have y4138 := rP 4 106 [vi p1, vi p2, vi p3, vi aa, vi ss, vi 0, vr cm, vr sl, vi 1, vd bb, .second, .val (.long ((aa).toInt64 + (0 : Int64))), .second, .val (.double (FP.dsub bb (FP.l2d ((aa).toInt64 + (0 : Int64))))), .second] [(.double (FP.dsub bb (FP.l2d ((aa).toInt64 + (0 : Int64)))))] y4137 X4125 hx D rfl
    have y4139 := fun (τ : State) kt => y4138 τ (X4125.ldc2DoubleC hx hown (mvT hZ (w289 hw)) (g := (mkF m 106 #[vi p1, vi p2, vi p3, vi aa, vi ss, vi 0, vr cm, vr sl, vi 1, vd bb, .second, .val (.long ((aa).toInt64 + (0 : Int64))), .second, .val (.double (FP.dsub bb (FP.l2d ((aa).toInt64 + (0 : Int64))))), .second] [(.double (FP.dsub bb (FP.l2d ((aa).toInt64 + (0 : Int64)))))])) rfl (D 106 rfl) _ kt)
    have y4140 := rP 1 110 _ [(.int (cmpValue (FP.dcmp (FP.dsub bb (FP.l2d ((aa).toInt64 + (0 : Int64)))) (4517329193108106637 : UInt64)) .g))] y4139 X4125 hx D rfl
    have y4141 := fun (τ : State) kt => y4140 τ (XS.ifNo X4125.here hx rfl (D 110 rfl) rfl ((if0 _ _).trans (flt hres.2.1).2.2.1) kt)
    have y4142 := rP 1 115 _ [(.double (FP.dsub bb (FP.l2d ((aa).toInt64 + (0 : Int64)))))] y4141 X4125 hx D rfl
    have y4143 := fun (τ : State) kt => y4142 τ (X4125.ldc2DoubleC hx hown (mvT hZ (w290 hw)) (g := (mkF m 115 #[vi p1, vi p2, vi p3, vi aa, vi ss, vi 0, vr cm, vr sl, vi 1, vd bb, .second, .val (.long ((aa).toInt64 + (0 : Int64))), .second, .val (.double (FP.dsub bb (FP.l2d ((aa).toInt64 + (0 : Int64))))), .second] [(.double (FP.dsub bb (FP.l2d ((aa).toInt64 + (0 : Int64)))))])) rfl (D 115 rfl) _ kt)
    have y4144 := rP 1 119 _ [(.int (cmpValue (FP.dcmp (FP.dsub bb (FP.l2d ((aa).toInt64 + (0 : Int64)))) (13740701229962882445 : UInt64)) .l))] y4143 X4125 hx D rfl
    have y4145 := fun (τ : State) kt => y4144 τ (XS.ifNo X4125.here hx rfl (D 119 rfl) rfl ((if0 _ _).trans (flt hres.2.2).1) kt)
    have y4146 := rP 2 127 _ [.int 1] y4145 X4125 hx D rfl
    exact own_retZ X4125 hlk y4146 hx hret rfl (D 127 rfl) (by decide) (by decide) eq4125 ⟨rfl, (Fr.app (Fr.app (Fr.app (Fr.snoc X4018 (Fr.app N0 Nq4009) g_sl) Nq4037) Nq4122) Nq4125)⟩
  · skip
    have hp : ((0 : UInt64) : UInt64) = 0 ∨ ((0 : UInt64) : UInt64) = (4607182418800017408 : UInt64) := by decide
    have hc : own_nb (4607182418800017408 : UInt64) (0 : UInt64) (0 : UInt64) := by decide +kernel
    have ne4147 := own_ltn A4001.lt z4008_t0
    have f4148 := f4034.keep Kq4037 (ninS (Ne.symm ne4147) (ninS (Ne.symm (Exa.neArv p4008_1.e p4008_9 (w12 hw))) (ninS (Ne.symm (own_arv_ne p4008_2 p4008_9 (by decide))) (ninS (Ne.symm (own_arv_ne p4008_7 p4008_9 (by decide))) (ninS (Ne.symm w4008_5) (ninS (Ne.symm (Exa.neArv p4008_10.e p4008_9 (w56 hw))) nin0))))))
    have ne4149 := own_ltn (own_up (own_up p4008_7.lt E4013.1) (Keep.of_wr W4018).1) z4036_kr2
    have ne4150 := own_ltn (own_up (own_up p4008_7.lt E4013.1) (Keep.of_wr W4018).1) z4036_kc2
    have ne4151 := own_ltn (own_up (own_up p4008_9.lt E4013.1) (Keep.of_wr W4018).1) z4036_i0
    have ne4152 := own_ltn (own_up (own_up p4008_10.e.lt E4013.1) (Keep.of_wr W4018).1) z4036_x2
    have K4153 := K4035.trans Kq4037 (allS (Or.inr sz_cm) (allS (Or.inr sz_al) (allS (Or.inr sz_ed) (allS (Or.inr sz_sd) (allS (Or.inr sz_bvs) (allS (Or.inr sz_d0) (all0)))))))
    obtain ⟨_, T4155, L4155, X4155, ⟨yy, k_yy, rfl, Nq4155, Kq4155, g4154_yy, z4154_yy, p4154_0, p4154_1⟩, y4155⟩ := cV y4039 X4037 hx hZ hown hml.symm (own_V38 hw) (rmSoM l Z a0 hw [] cm sd kr2 kc2 iv i0 al ed d0 x2 t0 k_sd k_kr2 k_kc2 k_iv k_i0 k_ed k_t0 uu co (0 : UInt64) (4607182418800017408 : UInt64) (0 : UInt64) (0 : UInt64) bvs kv du T4037.heap n0 (Nat.le_trans Z0 K4153.1) p4036_0 p4036_4 p4036_7 p4036_8 p4036_11 p4036_12 p4036_13 p4036_14 p4036_15 p4036_1 p4036_2 p4036_3 p4036_6 p4036_10.e p4036_10.f1 p4036_10.f2 p4036_10.f4 f4148 ne4149 ne4150 w4036_0 (Ne.symm ne4151) ne4152 g_cm hp hc ok_co (own_ok_mono own_okc_0 (by decide)) own_okc_4607182418800017408 (own_ok_mono own_okc_0 (by decide)) (own_ok_mono own_okc_0 (by decide))) 0 p4036_0.e rfl [] [] D
    have sz_yy := Nat.le_trans K4153.1 z4154_yy
    have he : own_eq (FP.dadd (0 : UInt64) (FP.dmul (FP.dsub co (0 : UInt64)) (4607182418800017408 : UInt64))) co := own_y1 ok_co (Or.inl rfl)
    have K4156 := K4153.trans Kq4155 (allS (Or.inr sz_cm) (all0))
    have y4159 := rP 1 64 _ [.ref cm] y4155 X4155 hx D rfl
    obtain ⟨_, T4158, L4158, X4158, ⟨rfl, Nq4158, eq4158⟩, y4158⟩ := cV y4159 X4155 hx hZ hown hml.symm (own_V39 hw) (rmBo l Z a0 hw [] cm yy k_yy (FP.dadd (0 : UInt64) (FP.dmul (FP.dsub co (0 : UInt64)) (4607182418800017408 : UInt64))) (0 : UInt64) uu T4155.heap n0 (Nat.le_trans Z0 K4156.1) p4154_0.e p4154_0.f11 p4154_0.f10 p4154_1 (own_ok_mono (own_ok_add own_okc_0 (own_ok_mul (own_ok_sub ok_co own_okc_0 (by decide)) own_okc_4607182418800017408 (by decide)) (by decide)) (by decide)) ok_uu) 0 p4154_0.e rfl [] [] D
    obtain ⟨bb, e_bb⟩ : ∃ z : UInt64, z = (FP.dmul (FP.dadd (0 : UInt64) (FP.dmul (FP.dsub co (0 : UInt64)) (4607182418800017408 : UInt64))) uu) := ⟨_, rfl⟩
    have y4160 : ∀ τ, Steps p.tables e below (T4158.setTop (mkF m 67 #[vi p1, vi p2, vi p3, vi aa, vi ss, vi 1, vr cm, vr sl, vi 1, un, un, un, un, un, un] [.double bb])) τ → PS τ := by rw [e_bb]; exact y4158
    have y4163 := rP 2 70 [vi p1, vi p2, vi p3, vi aa, vi ss, vi 1, vr cm, vr sl, vi 1, vd bb, .second, un, un, un, un] [.int aa] y4160 X4158 hx D rfl
    have y4164 := fun (τ : State) kt => y4163 τ (XT.i2l X4158.here hx rfl (D 70 rfl) rfl kt)
    have y4165 := rP 5 80 _ [.int ss, .int 0, (.long (aa).toInt64)] y4164 X4158 hx D rfl
    obtain ⟨_, T4162, L4162, X4162, ⟨rfl, Nq4162, eq4162⟩, y4162⟩ := cS y4165 X4158 hx hZ hown hml.symm (own_V40 hw) (rmMxI l Z a0 hw [] (0 : Int32) ss T4155.heap n0 (Nat.le_trans Z0 K4156.1) ) 2 eq4158 [.int 0, .int ss] [(.long (aa).toInt64)] D
    have hres : own_res bb ((aa).toInt64 + ((own_maxI (0 : Int32) ss)).toInt64) := e_bb ▸ (own_resA hL he ((own_n1 (own_mxM hq)).trans (Int.add_zero _)) (by omega))
    have y4166 := fun (τ : State) kt => y4162 τ (XT.i2l X4162.here hx rfl (D 83 rfl) rfl kt)
    have y4167 := rP 1 88 _ [(.long ((own_maxI (0 : Int32) ss)).toInt64), (.long (aa).toInt64)] y4166 X4162 hx D rfl
    have y4168 := fun (τ : State) kt => y4167 τ (XT.ladd X4162.here hx rfl (D 88 rfl) rfl kt)
    have y4169 := fun (τ : State) kt => y4168 τ (XT.lstore X4162.here hx rfl (D 89 rfl) rfl (l' := #[vi p1, vi p2, vi p3, vi aa, vi ss, vi 1, vr cm, vr sl, vi 1, vd bb, .second, .val (.long ((aa).toInt64 + ((own_maxI (0 : Int32) ss)).toInt64)), .second, un, un]) rfl kt)
    have y4170 := rP 1 93 _ [.double bb] y4169 X4162 hx D rfl
    have y4171 := fun (τ : State) kt => y4170 τ (XT.lload X4162.here hx rfl (D 93 rfl) rfl kt)
    have y4172 := fun (τ : State) kt => y4171 τ (own_l2d X4162.here hx rfl (D 95 rfl) rfl kt)
    have y4173 := own_dsubP y4172 X4162 hx D (hres.1)
    have y4174 := rP 4 106 [vi p1, vi p2, vi p3, vi aa, vi ss, vi 1, vr cm, vr sl, vi 1, vd bb, .second, .val (.long ((aa).toInt64 + ((own_maxI (0 : Int32) ss)).toInt64)), .second, .val (.double (FP.dsub bb (FP.l2d ((aa).toInt64 + ((own_maxI (0 : Int32) ss)).toInt64)))), .second] [(.double (FP.dsub bb (FP.l2d ((aa).toInt64 + ((own_maxI (0 : Int32) ss)).toInt64))))] y4173 X4162 hx D rfl
    have y4175 := fun (τ : State) kt => y4174 τ (X4162.ldc2DoubleC hx hown (mvT hZ (w289 hw)) (g := (mkF m 106 #[vi p1, vi p2, vi p3, vi aa, vi ss, vi 1, vr cm, vr sl, vi 1, vd bb, .second, .val (.long ((aa).toInt64 + ((own_maxI (0 : Int32) ss)).toInt64)), .second, .val (.double (FP.dsub bb (FP.l2d ((aa).toInt64 + ((own_maxI (0 : Int32) ss)).toInt64)))), .second] [(.double (FP.dsub bb (FP.l2d ((aa).toInt64 + ((own_maxI (0 : Int32) ss)).toInt64))))])) rfl (D 106 rfl) _ kt)
    have y4176 := rP 1 110 _ [(.int (cmpValue (FP.dcmp (FP.dsub bb (FP.l2d ((aa).toInt64 + ((own_maxI (0 : Int32) ss)).toInt64))) (4517329193108106637 : UInt64)) .g))] y4175 X4162 hx D rfl
    have y4177 := fun (τ : State) kt => y4176 τ (XS.ifNo X4162.here hx rfl (D 110 rfl) rfl ((if0 _ _).trans (flt hres.2.1).2.2.1) kt)
    have y4178 := rP 1 115 _ [(.double (FP.dsub bb (FP.l2d ((aa).toInt64 + ((own_maxI (0 : Int32) ss)).toInt64))))] y4177 X4162 hx D rfl
    have y4179 := fun (τ : State) kt => y4178 τ (X4162.ldc2DoubleC hx hown (mvT hZ (w290 hw)) (g := (mkF m 115 #[vi p1, vi p2, vi p3, vi aa, vi ss, vi 1, vr cm, vr sl, vi 1, vd bb, .second, .val (.long ((aa).toInt64 + ((own_maxI (0 : Int32) ss)).toInt64)), .second, .val (.double (FP.dsub bb (FP.l2d ((aa).toInt64 + ((own_maxI (0 : Int32) ss)).toInt64)))), .second] [(.double (FP.dsub bb (FP.l2d ((aa).toInt64 + ((own_maxI (0 : Int32) ss)).toInt64))))])) rfl (D 115 rfl) _ kt)
    have y4180 := rP 1 119 _ [(.int (cmpValue (FP.dcmp (FP.dsub bb (FP.l2d ((aa).toInt64 + ((own_maxI (0 : Int32) ss)).toInt64))) (13740701229962882445 : UInt64)) .l))] y4179 X4162 hx D rfl
    have y4181 := fun (τ : State) kt => y4180 τ (XS.ifNo X4162.here hx rfl (D 119 rfl) rfl ((if0 _ _).trans (flt hres.2.2).1) kt)
    have y4182 := rP 2 127 _ [.int 1] y4181 X4162 hx D rfl
    exact own_retZ X4162 hlk y4182 hx hret rfl (D 127 rfl) (by decide) (by decide) eq4162 ⟨rfl, (Fr.app (Fr.app (Fr.app (Fr.app (Fr.snoc X4018 (Fr.app N0 Nq4009) g_sl) Nq4037) Nq4155) Nq4158) Nq4162)⟩
set_option maxRecDepth 65536 in
set_option maxHeartbeats 40000000 in
theorem comes_1 {Post : Tables → Env → Array Value → State → Outcome → State → Prop} (hpost : ∀ tb e args s v u, (limb_1_1.after args s (.returned v) u = true ∧ limb_1_2.after args s (.returned v) u = true ∧ True) → FrameEnd s (.returned v) u (Jvm.fieldLocs frame_1_writes args s ++ Jvm.arrayLocs frame_1_arrays args s ++ Jvm.staticLocs frame_1_statics s) 112 320 → Post tb e args s (.returned v) u) :
    ArmFor flags0 classFile x code maxLocals ret World_1 tables_1 room_1 Calls_1 rest_1 Pre_1 Post := by
  intro l hfl _ _ p e ha hc hk s m args below hf hA hF happ hP
  obtain ⟨hcalls, hrest, hpre⟩ := hP
  obtain ⟨-, -, -, hnamed, -, -, -, hat⟩ := (Spec.applies_iff hf).mp happ
  obtain ⟨hg, hn⟩ := and_e (Cond.before_iff.mp (show (Jvm.Cond.and given_1 narrow_1).before args s = true from hpre))
  obtain ⟨g1, g2⟩ := and_e hg
  obtain ⟨g3, g4⟩ := and_e g2
  obtain ⟨g5, g6⟩ := and_e g4
  obtain ⟨w0, w1, w2, rfl⟩ : ∃ w0 w1 w2 : Value, args = #[w0, w1, w2] := by
    have hs : args.size = 3 := by simpa [Cond.value, given_1] using g1
    obtain ⟨L⟩ := args
    match L, hs with
    | [w0, w1, w2], _ => exact ⟨w0, w1, w2, rfl⟩
  have hw := fun d (hd : d ∈ tables_1) => atoms_spec (ws := Jvm.Cond.code x code maxLocals ret :: tables_1) hat d (List.mem_cons_of_mem _ hd)
  obtain ⟨hsets, hown0⟩ := atoms_of _ (rest_1_c_eq ▸ (show rest_1_c.before _ s = true from hrest))
  have hr0 := Cond.before_iff.mp hown0
  obtain ⟨i0, ei0⟩ := is_v g3
  obtain rfl : w0 = (.int i0) := Option.some.inj ei0
  obtain ⟨i1, ei1⟩ := is_v g5
  obtain rfl : w1 = (.int i1) := Option.some.inj ei1
  obtain ⟨i2, ei2⟩ := is_v g6
  obtain rfl : w2 = (.int i2) := Option.some.inj ei2
  obtain ⟨de, k_de, ede, Ade⟩ := own_de (hsets _ (List.mem_of_getElem? (i := 6) rfl)) (hsets _ (List.mem_of_getElem? (i := 8) rfl))
  have S3 : Sta s s.heap sA "DEFAULTCAPACITY_EMPTY_ELEMENTDATA" sO (.ref de) := Sta.start ede (Or.inr ⟨(w13 hw), (hsets _ (List.mem_of_getElem? (i := 2) rfl))⟩)
  obtain ⟨n, o, h1, h2, h3, _, L, rfl, ⟨rfl, N⟩, hq⟩ := rm0 l s _ hw tables_1 i0 i1 i2 de k_de s.heap s.heap.size (Nat.le_refl _) Ade S3 (Old.start s) p e ha hc hk s m _ below hf ((Spec.applies_iff_loose hf).mp happ).1 ⟨rfl, State.Warmed39.refl s, rfl⟩ trivial
  refine ⟨n, _, h1, h2, h3, hpost _ _ _ _ _ _ ⟨Cond.after_iff.mpr rfl, Cond.after_iff.mpr (eq_i res_at (Term.int_eval (1)) rfl), trivial⟩ ⟨hq.1, hq.2.1, (hq.2.2.sift fun y hy => Or.inr (N y hy)).mono (by decide) (by decide)⟩⟩
theorem main_1_1 : Claimed_1_1 := comes_1 fun _ _ _ _ _ _ h hF => ⟨h.1, hF⟩
theorem main_1_2 : Claimed_1_2 := comes_1 fun _ _ _ _ _ _ h hF => ⟨h.2.1, hF⟩
end Jvm.Pilot.@@N@@
namespace Jvm.Pilot.@@N@@
open Jvm Jvm.ClassFile Sem Op Lib Jvm.Free Jvm.Stand Jvm.Pilot.@@N@@.Jvm.D
/-! MADE BY PROGRAM (witnessworld.py) out of the Statement's table words and the real class files: 31 classes; the members and pool entries that the words name. The judged class is class 1, her method 1. -/
namespace start1
set_option maxRecDepth 65536
open Jvm.ClassFile
def u (s : String) : CpInfo := .utf8 (stringToUtf16 s)
def gap : Nat → List CpInfo → List CpInfo
  | 0, r => r
  | n + 1, r => .unusable :: gap n r
def poolList (es : List (Nat × CpInfo)) (last : Nat) : List CpInfo := es.foldr (fun e r => gap e.1 (e.2 :: r)) (gap last [])
def pool (es : List (Nat × CpInfo)) (last : Nat) : Array CpInfo := ⟨poolList es last⟩
def fileOf (pool : Array CpInfo) (this : Nat) (attrs : Array Attribute := #[]) (ms : Array MethodInfo := #[]) (fl : Nat := 33) (sup : Nat := 0) (ifs : Array Nat := #[]) (fds : Array FieldInfo := #[]) : ClassFile where
  minorVersion := 0
  majorVersion := 65
  constantPool := pool
  accessFlags := fl
  thisClass := this
  superClass := sup
  interfaces := ifs
  fields := fds
  methods := ms
  attributes := attrs
def plain (name : String) (sup : Option ClassId) : Class where
  name := name
  kind := .ordinary
  loader := none
  accessFlags := 33
  super := sup
  interfaces := #[]
  cf := none
  fields := #[]
  methods := #[]
  instanceTypes := #[]
  staticTypes := #[]
  resolved := #[]
  callSites := []
  init := .initialized
  statics := none
  mirror := none
def pool0 : Array CpInfo := pool [(5, u "<init>"), (0, u "()V"), (1, .class_ 10), (1, u "java/lang/Object"), (85, u "clone"), (0, u "()Ljava/lang/Object;")] 26
def k0c0 : Code := ⟨0, 1, object_method_1_code, #[], #[]⟩
def k0m0 : Method := ⟨"<init>", "()V", ⟨[], none⟩, 1, some k0c0⟩
def k0m1 : Method := ⟨"clone", "()Ljava/lang/Object;", ⟨[], some (.object "java/lang/Object")⟩, 260, none⟩
def k0 : Class := { plain "java/lang/Object" none with
  cf := some (fileOf pool0 8 #[] #[⟨1, 5, 6, #[]⟩, ⟨260, 96, 97, #[]⟩] 33 0 #[] #[])
  methods := #[k0m0, k0m1]
  resolved := Array.replicate 124 none }
def pool1 : Array CpInfo := pool [(2, .class_ 4), (1, u "java/lang/Object"), (0, u "<init>"), (0, u "()V"), (0, .integer 1048575), (0, .integer 524288), (0, .class_ 10), (0, u "com/example/bidfold/bidfold/solve/CuttingPlaneMaster"), (0, .methodref 9 12), (0, .nameAndType 5 13), (0, u "(II)V"), (0, .methodref 9 15), (0, .nameAndType 16 17), (0, u "addCut"), (0, u "(D[D)Z"), (0, .methodref 9 19), (0, .nameAndType 20 6), (0, u "solve"), (0, .methodref 9 22), (0, .nameAndType 23 24), (0, u "bound"), (0, u "()D"), (0, .methodref 26 27), (0, .class_ 28), (0, .nameAndType 29 30), (0, u "java/lang/Math"), (0, u "max"), (0, u "(II)I"), (0, .double 4517329193108106637), (1, .double 13740701229962882445), (1, .class_ 36), (0, u "com/example/bidfold/bidfold/solve/CuttingPlaneMasterBoundPinLaw"), (2, u "law"), (0, u "(III)Z")] 5
def k1m0 : Method := ⟨"<init>", "()V", ⟨[], none⟩, 1, none⟩
def k1c1 : Code := ⟨4, 15, code, #[], #[]⟩
def k1m1 : Method := ⟨"law", "(III)Z", ⟨[.int, .int, .int], some .boolean⟩, 9, some k1c1⟩
def k1 : Class := { plain "com/example/bidfold/bidfold/solve/CuttingPlaneMasterBoundPinLaw" (some 0) with
  accessFlags := 49
  cf := some (fileOf pool1 35 #[] #[⟨1, 5, 6, #[]⟩, ⟨9, 39, 40, #[]⟩] 49 2 #[] #[])
  methods := #[k1m0, k1m1]
  resolved := Array.replicate 46 none }
def pool2 : Array CpInfo := pool [(1, .methodref 2 3), (0, .class_ 4), (0, .nameAndType 5 6), (0, u "java/lang/Object"), (0, u "<init>"), (0, u "()V"), (0, .class_ 8), (0, u "java/util/ArrayList"), (0, .methodref 7 3), (0, .fieldref 11 12), (0, .class_ 13), (0, .nameAndType 14 15), (0, u "com/example/bidfold/bidfold/solve/CuttingPlaneMaster"), (0, u "dense"), (0, u "Ljava/util/List;"), (0, .fieldref 11 17), (0, .nameAndType 18 19), (0, u "kernelRows"), (0, u "[I"), (0, .fieldref 11 21), (0, .nameAndType 22 19), (0, u "kernelColumns"), (0, .fieldref 11 24), (0, .nameAndType 25 26), (0, u "duals"), (0, u "[D"), (0, .fieldref 11 28), (0, .nameAndType 29 30), (0, u "dimension"), (0, u "I"), (0, .fieldref 11 32), (0, .nameAndType 33 30), (0, u "rows"), (0, .fieldref 11 35), (0, .nameAndType 36 30), (0, u "mostPivots"), (0, .fieldref 11 38), (0, .nameAndType 39 19), (0, u "side"), (0, .fieldref 11 41), (0, .nameAndType 42 26), (0, u "boundValues"), (0, .class_ 44), (0, u "com/example/bidfold/bidfold/solve/CuttingPlaneMaster$Dense"), (0, .methodref 43 46), (0, .nameAndType 5 47), (0, u "([DD)V"), (0, .interfaceMethodref 49 50), (0, .class_ 51), (0, .nameAndType 52 53), (0, u "java/util/List"), (0, u "add"), (0, u "(Ljava/lang/Object;)Z"), (0, .fieldref 11 55), (0, .nameAndType 56 57), (0, u "inverse"), (0, u "[[D"), (0, .methodref 59 60), (0, .class_ 61), (0, .nameAndType 62 63), (0, u "java/lang/Math"), (0, u "abs"), (0, u "(D)D"), (0, .methodref 59 65), (0, .nameAndType 66 67), (0, u "max"), (0, u "(DD)D"), (0, .fieldref 11 69), (0, .nameAndType 70 71), (0, u "unit"), (0, u "D"), (0, .methodref 11 73), (0, .nameAndType 74 75), (0, u "countAtOneAfresh"), (0, u "(Lcom/example/bidfold/bidfold/solve/CuttingPlaneMaster$Dense;)V"), (0, .interfaceMethodref 49 77), (0, .nameAndType 78 79), (0, u "size"), (0, u "()I"), (0, .fieldref 43 81), (0, .nameAndType 82 83), (0, u "basic"), (0, u "Z"), (0, .methodref 11 85), (0, .nameAndType 86 87), (0, u "setSide"), (0, u "(II)V"), (0, .methodref 11 89), (0, .nameAndType 90 6), (0, u "invert"), (3, u "(I)I"), (0, .methodref 11 96), (0, .nameAndType 97 98), (0, u "reducedCost"), (0, u "(I)D"), (0, .methodref 11 100), (0, .nameAndType 25 101), (0, u "()[D"), (0, .methodref 11 103), (0, .nameAndType 104 105), (0, u "entering"), (0, u "(Z)I"), (0, .fieldref 11 107), (0, .nameAndType 108 30), (0, u "pivotsSinceInversion"), (0, .methodref 11 110), (0, .nameAndType 111 112), (0, u "enter"), (0, u "(IZ)D"), (12, .methodref 11 126), (0, .nameAndType 127 128), (0, u "isBasic"), (0, u "(I)Z"), (0, .methodref 11 130), (0, .nameAndType 131 132), (0, u "direction"), (0, u "(I)Lcom/example/bidfold/bidfold/solve/CuttingPlaneMaster$Direction;"), (0, .methodref 134 135), (0, .class_ 136), (0, .nameAndType 137 98), (0, u "com/example/bidfold/bidfold/solve/CuttingPlaneMaster$Direction"), (0, u "at"), (2, .double 9218868437227405312), (1, .double 4472406533629990549), (1, .methodref 11 145), (0, .nameAndType 146 98), (0, u "valueAt"), (6, .methodref 11 154), (0, .nameAndType 155 156), (0, u "pivot"), (0, u "(IILcom/example/bidfold/bidfold/solve/CuttingPlaneMaster$Direction;D)V"), (0, .methodref 11 158), (0, .nameAndType 159 128), (0, u "isBound"), (0, .methodref 11 161), (0, .nameAndType 162 94), (0, u "coordinateOf"), (0, .methodref 11 164), (0, .nameAndType 165 94), (0, u "sideOf"), (0, .methodref 11 167), (0, .nameAndType 168 94), (0, u "denseOf"), (0, .interfaceMethodref 49 170), (0, .nameAndType 171 172), (0, u "get"), (0, u "(I)Ljava/lang/Object;"), (0, .fieldref 11 174), (0, .nameAndType 175 26), (0, u "kernelValues"), (3, .fieldref 43 180), (0, .nameAndType 181 71), (0, u "cost"), (0, .fieldref 43 183), (0, .nameAndType 184 71), (0, u "atOne"), (0, .fieldref 43 186), (0, .nameAndType 187 71), (0, u "sizeAtOne"), (0, .fieldref 43 189), (0, .nameAndType 190 26), (0, u "entries"), (0, .double 13650858631089744401), (1, .methodref 11 194), (0, .nameAndType 195 94), (0, u "kernelIndexOf"), (0, .methodref 11 197), (0, .nameAndType 198 199), (0, u "carriedBy"), (0, u "([D)[D"), (0, .methodref 134 201), (0, .nameAndType 5 202), (0, u "([D[D)V"), (1, .methodref 134 205), (0, .nameAndType 206 101), (0, u "kernel"), (0, .methodref 134 208), (0, .nameAndType 209 101), (0, u "bounds"), (4, .methodref 11 215), (0, .nameAndType 216 217), (0, u "growKernel"), (0, u "(II[DDD)V"), (7, .class_ 227), (1, u "com/example/bidfold/bidfold/solve/BasisInverse"), (2, .methodref 11 231), (0, .nameAndType 232 233), (0, u "timesInverse"), (0, u "(I)[D"), (0, .class_ 57), (0, .methodref 11 236), (0, .nameAndType 237 238), (0, u "append"), (0, u "([II)[I"), (0, .methodref 240 241), (0, .class_ 242), (0, .nameAndType 243 244), (0, u "java/lang/System"), (0, u "arraycopy"), (0, u "(Ljava/lang/Object;ILjava/lang/Object;II)V"), (3, .interfaceMethodref 49 249), (0, .nameAndType 250 251), (0, u "iterator"), (0, u "()Ljava/util/Iterator;"), (0, .interfaceMethodref 253 254), (0, .class_ 255), (0, .nameAndType 256 257), (0, u "java/util/Iterator"), (0, u "hasNext"), (0, u "()Z"), (0, .interfaceMethodref 253 259), (0, .nameAndType 260 261), (0, u "next"), (0, u "()Ljava/lang/Object;"), (0, .methodref 43 263), (0, .nameAndType 264 87), (0, u "countAtOne"), (0, .methodref 225 266), (0, .nameAndType 267 268), (0, u "of"), (0, u "([[D)[[D"), (0, u "TOLERANCE"), (3, u "PIVOT_TOLERANCE"), (0, u "PIVOTS_PER_INVERSION"), (7, u "addCut"), (0, u "(D[D)Z"), (0, u "solve"), (0, u "bound"), (0, u "()D")] 24
def k2c0 : Code := ⟨6, 5, prog_26_method_1_code, #[], #[]⟩
def k2m0 : Method := ⟨"<init>", "(II)V", ⟨[.int, .int], none⟩, 0, some k2c0⟩
def k2c1 : Code := ⟨7, 11, prog_26_method_2_code, #[], #[]⟩
def k2m1 : Method := ⟨"addCut", "(D[D)Z", ⟨[.double, (.array .double)], some .boolean⟩, 0, some k2c1⟩
def k2c2 : Code := ⟨4, 8, prog_26_method_3_code, #[], #[]⟩
def k2m2 : Method := ⟨"solve", "()V", ⟨[], none⟩, 0, some k2c2⟩
def k2c3 : Code := ⟨4, 1, prog_26_method_4_code, #[], #[]⟩
def k2m3 : Method := ⟨"bound", "()D", ⟨[], some .double⟩, 0, some k2c3⟩
def k2c4 : Code := ⟨4, 9, prog_26_method_6_code, #[], #[]⟩
def k2m4 : Method := ⟨"entering", "(Z)I", ⟨[.boolean], some .int⟩, 2, some k2c4⟩
def k2c5 : Code := ⟨8, 13, prog_26_method_7_code, #[], #[]⟩
def k2m5 : Method := ⟨"enter", "(IZ)D", ⟨[.int, .boolean], some .double⟩, 2, some k2c5⟩
def k2c6 : Code := ⟨3, 2, prog_26_method_8_code, #[], #[]⟩
def k2m6 : Method := ⟨"isBound", "(I)Z", ⟨[.int], some .boolean⟩, 2, some k2c6⟩
def k2c7 : Code := ⟨2, 2, prog_26_method_9_code, #[], #[]⟩
def k2m7 : Method := ⟨"coordinateOf", "(I)I", ⟨[.int], some .int⟩, 2, some k2c7⟩
def k2c8 : Code := ⟨2, 2, prog_26_method_10_code, #[], #[]⟩
def k2m8 : Method := ⟨"sideOf", "(I)I", ⟨[.int], some .int⟩, 2, some k2c8⟩
def k2c9 : Code := ⟨3, 2, prog_26_method_11_code, #[], #[]⟩
def k2m9 : Method := ⟨"denseOf", "(I)I", ⟨[.int], some .int⟩, 2, some k2c9⟩
def k2c10 : Code := ⟨3, 2, prog_26_method_13_code, #[], #[]⟩
def k2m10 : Method := ⟨"isBasic", "(I)Z", ⟨[.int], some .boolean⟩, 2, some k2c10⟩
def k2c11 : Code := ⟨3, 3, prog_26_method_15_code, #[], #[]⟩
def k2m11 : Method := ⟨"valueAt", "(I)D", ⟨[.int], some .double⟩, 2, some k2c11⟩
def k2c12 : Code := ⟨6, 15, prog_26_method_17_code, #[], #[]⟩
def k2m12 : Method := ⟨"reducedCost", "(I)D", ⟨[.int], some .double⟩, 2, some k2c12⟩
def k2c13 : Code := ⟨8, 7, prog_26_method_18_code, #[], #[]⟩
def k2m13 : Method := ⟨"duals", "()[D", ⟨[], some (.array .double)⟩, 2, some k2c13⟩
def k2c14 : Code := ⟨9, 10, prog_26_method_19_code, #[], #[]⟩
def k2m14 : Method := ⟨"direction", "(I)Lcom/example/bidfold/bidfold/solve/CuttingPlaneMaster$Direction;", ⟨[.int], some (.object "com/example/bidfold/bidfold/solve/CuttingPlaneMaster$Direction")⟩, 2, some k2c14⟩
def k2c15 : Code := ⟨8, 8, prog_26_method_20_code, #[], #[]⟩
def k2m15 : Method := ⟨"carriedBy", "([D)[D", ⟨[(.array .double)], some (.array .double)⟩, 2, some k2c15⟩
def k2c16 : Code := ⟨3, 4, prog_26_method_21_code, #[], #[]⟩
def k2m16 : Method := ⟨"kernelIndexOf", "(I)I", ⟨[.int], some .int⟩, 2, some k2c16⟩
def k2c17 : Code := ⟨8, 11, prog_26_method_22_code, #[], #[]⟩
def k2m17 : Method := ⟨"pivot", "(IILcom/example/bidfold/bidfold/solve/CuttingPlaneMaster$Direction;D)V", ⟨[.int, .int, (.object "com/example/bidfold/bidfold/solve/CuttingPlaneMaster$Direction"), .double], none⟩, 2, some k2c17⟩
def k2c18 : Code := ⟨8, 13, prog_26_method_24_code, #[], #[]⟩
def k2m18 : Method := ⟨"growKernel", "(II[DDD)V", ⟨[.int, .int, (.array .double), .double, .double], none⟩, 2, some k2c18⟩
def k2c19 : Code := ⟨8, 8, prog_26_method_27_code, #[], #[]⟩
def k2m19 : Method := ⟨"timesInverse", "(I)[D", ⟨[.int], some (.array .double)⟩, 2, some k2c19⟩
def k2c20 : Code := ⟨3, 7, prog_26_method_28_code, #[], #[]⟩
def k2m20 : Method := ⟨"setSide", "(II)V", ⟨[.int, .int], none⟩, 2, some k2c20⟩
def k2c21 : Code := ⟨9, 7, prog_26_method_29_code, #[], #[]⟩
def k2m21 : Method := ⟨"invert", "()V", ⟨[], none⟩, 2, some k2c21⟩
def k2c22 : Code := ⟨3, 3, prog_26_method_30_code, #[], #[]⟩
def k2m22 : Method := ⟨"countAtOneAfresh", "(Lcom/example/bidfold/bidfold/solve/CuttingPlaneMaster$Dense;)V", ⟨[(.object "com/example/bidfold/bidfold/solve/CuttingPlaneMaster$Dense")], none⟩, 2, some k2c22⟩
def k2c23 : Code := ⟨5, 3, prog_26_method_31_code, #[], #[]⟩
def k2m23 : Method := ⟨"append", "([II)[I", ⟨[(.array .int), .int], some (.array .int)⟩, 10, some k2c23⟩
def k2 : Class := { plain "com/example/bidfold/bidfold/solve/CuttingPlaneMaster" (some 0) with
  accessFlags := 48
  cf := some (fileOf pool2 11 #[.nestMembers #[134, 43]] #[⟨0, 5, 87, #[]⟩, ⟨0, 282, 283, #[]⟩, ⟨0, 284, 6, #[]⟩, ⟨0, 285, 286, #[]⟩, ⟨2, 104, 105, #[]⟩, ⟨2, 111, 112, #[]⟩, ⟨2, 159, 128, #[]⟩, ⟨2, 162, 94, #[]⟩, ⟨2, 165, 94, #[]⟩, ⟨2, 168, 94, #[]⟩, ⟨2, 127, 128, #[]⟩, ⟨2, 146, 98, #[]⟩, ⟨2, 97, 98, #[]⟩, ⟨2, 25, 101, #[]⟩, ⟨2, 131, 132, #[]⟩, ⟨2, 198, 199, #[]⟩, ⟨2, 195, 94, #[]⟩, ⟨2, 155, 156, #[]⟩, ⟨2, 216, 217, #[]⟩, ⟨2, 232, 233, #[]⟩, ⟨2, 86, 87, #[]⟩, ⟨2, 90, 6, #[]⟩, ⟨2, 74, 75, #[]⟩, ⟨10, 237, 238, #[]⟩] 48 2 #[] #[⟨26, 269, 71, #[]⟩, ⟨26, 273, 71, #[]⟩, ⟨26, 274, 30, #[]⟩, ⟨18, 29, 30, #[]⟩, ⟨18, 33, 30, #[]⟩, ⟨18, 36, 30, #[]⟩, ⟨18, 14, 15, #[]⟩, ⟨18, 39, 19, #[]⟩, ⟨18, 42, 26, #[]⟩, ⟨2, 18, 19, #[]⟩, ⟨2, 22, 19, #[]⟩, ⟨2, 56, 57, #[]⟩, ⟨2, 175, 26, #[]⟩, ⟨2, 70, 71, #[]⟩, ⟨2, 25, 26, #[]⟩, ⟨2, 108, 30, #[]⟩])
  fields := #[⟨"TOLERANCE", .double, 26, 0, 0⟩, ⟨"PIVOT_TOLERANCE", .double, 26, 1, 0⟩, ⟨"PIVOTS_PER_INVERSION", .int, 26, 2, 0⟩, ⟨"dimension", .int, 18, 0, 0⟩, ⟨"rows", .int, 18, 1, 0⟩, ⟨"mostPivots", .int, 18, 2, 0⟩, ⟨"dense", (.object "java/util/List"), 18, 3, 0⟩, ⟨"side", (.array .int), 18, 4, 0⟩, ⟨"boundValues", (.array .double), 18, 5, 0⟩, ⟨"kernelRows", (.array .int), 2, 6, 0⟩, ⟨"kernelColumns", (.array .int), 2, 7, 0⟩, ⟨"inverse", (.array (.array .double)), 2, 8, 0⟩, ⟨"kernelValues", (.array .double), 2, 9, 0⟩, ⟨"unit", .double, 2, 10, 0⟩, ⟨"duals", (.array .double), 2, 11, 0⟩, ⟨"pivotsSinceInversion", .int, 2, 12, 0⟩]
  methods := #[k2m0, k2m1, k2m2, k2m3, k2m4, k2m5, k2m6, k2m7, k2m8, k2m9, k2m10, k2m11, k2m12, k2m13, k2m14, k2m15, k2m16, k2m17, k2m18, k2m19, k2m20, k2m21, k2m22, k2m23]
  instanceTypes := #[.int, .int, .int, (.object "java/util/List"), (.array .int), (.array .double), (.array .int), (.array .int), (.array (.array .double)), (.array .double), .double, (.array .double), .int]
  staticTypes := #[.double, .double, .int]
  resolved := ((((((((((Array.replicate 311 none).setIfInBounds 45 (some (.method ⟨13, 0⟩))).setIfInBounds 182 (some (.field 13 2))).setIfInBounds 185 (some (.field 13 3))).setIfInBounds 80 (some (.field 13 4))).setIfInBounds 188 (some (.field 13 0))).setIfInBounds 179 (some (.field 13 1))).setIfInBounds 262 (some (.method ⟨13, 1⟩))).setIfInBounds 200 (some (.method ⟨21, 0⟩))).setIfInBounds 43 (some (.cls 13))).setIfInBounds 134 (some (.cls 21)) }
def pool3 : Array CpInfo := pool [(8, .class_ 10), (1, u "java/lang/Iterable"), (24, .class_ 36), (0, u "java/lang/Object")] 25
def k3 : Class := { plain "java/lang/Iterable" (some 0) with
  accessFlags := 1537
  cf := some (fileOf pool3 8 #[] #[] 1537 35 #[] #[])
  resolved := Array.replicate 62 none }
def pool4 : Array CpInfo := pool [(10, .class_ 12), (1, u "java/util/Collection"), (47, .class_ 61), (0, u "java/lang/Object"), (0, .class_ 63), (0, u "java/lang/Iterable")] 51
def k4 : Class := { plain "java/util/Collection" (some 0) with
  accessFlags := 1537
  interfaces := #[3]
  cf := some (fileOf pool4 10 #[] #[] 1537 60 #[62] #[])
  resolved := Array.replicate 115 none }
def pool5 : Array CpInfo := pool [(1, .methodref 2 3), (0, .class_ 4), (0, .nameAndType 5 6), (0, u "java/lang/Object"), (0, u "<init>"), (0, u "()V"), (1, .class_ 10), (1, u "java/util/AbstractCollection"), (66, .class_ 78), (0, u "java/util/Collection")] 81
def k5c0 : Code := ⟨1, 1, jdk_22_method_1_code, #[], #[]⟩
def k5m0 : Method := ⟨"<init>", "()V", ⟨[], none⟩, 4, some k5c0⟩
def k5 : Class := { plain "java/util/AbstractCollection" (some 0) with
  accessFlags := 1057
  interfaces := #[4]
  cf := some (fileOf pool5 8 #[] #[⟨4, 5, 6, #[]⟩] 1057 2 #[77] #[])
  methods := #[k5m0]
  resolved := Array.replicate 160 none }
def pool6 : Array CpInfo := pool [(8, .class_ 10), (1, u "java/util/SequencedCollection"), (15, .class_ 27), (0, u "java/lang/Object"), (0, .class_ 29), (0, u "java/util/Collection")] 27
def k6 : Class := { plain "java/util/SequencedCollection" (some 0) with
  accessFlags := 1537
  interfaces := #[4]
  cf := some (fileOf pool6 8 #[] #[] 1537 26 #[28] #[])
  resolved := Array.replicate 57 none }
def pool7 : Array CpInfo := pool [(8, .class_ 10), (1, u "java/util/List"), (49, u "add"), (3, u "(Ljava/lang/Object;)Z"), (10, u "get"), (0, u "(I)Ljava/lang/Object;"), (2, u "size"), (0, u "()I"), (22, .class_ 104), (0, u "java/lang/Object"), (15, .class_ 121), (0, u "java/util/SequencedCollection"), (1, u "iterator"), (0, u "()Ljava/util/Iterator;")] 126
def k7m0 : Method := ⟨"size", "()I", ⟨[], some .int⟩, 1025, none⟩
def k7m1 : Method := ⟨"iterator", "()Ljava/util/Iterator;", ⟨[], some (.object "java/util/Iterator")⟩, 1025, none⟩
def k7m2 : Method := ⟨"add", "(Ljava/lang/Object;)Z", ⟨[(.object "java/lang/Object")], some .boolean⟩, 1025, none⟩
def k7m3 : Method := ⟨"get", "(I)Ljava/lang/Object;", ⟨[.int], some (.object "java/lang/Object")⟩, 1025, none⟩
def k7 : Class := { plain "java/util/List" (some 0) with
  accessFlags := 1537
  interfaces := #[6]
  cf := some (fileOf pool7 8 #[] #[⟨1025, 79, 80, #[]⟩, ⟨1025, 123, 124, #[]⟩, ⟨1025, 60, 64, #[]⟩, ⟨1025, 75, 76, #[]⟩] 1537 103 #[120] #[])
  methods := #[k7m0, k7m1, k7m2, k7m3]
  resolved := Array.replicate 251 none }
def pool8 : Array CpInfo := pool [(1, .methodref 2 3), (0, .class_ 4), (0, .nameAndType 5 6), (0, u "java/util/AbstractCollection"), (0, u "<init>"), (0, u "()V"), (0, .fieldref 8 9), (0, .class_ 10), (0, .nameAndType 11 12), (0, u "java/util/AbstractList"), (0, u "modCount"), (0, u "I"), (64, .class_ 78), (0, u "java/util/AbstractList$Itr"), (3, .class_ 83), (0, u "java/util/AbstractList$ListItr"), (9, .class_ 94), (0, u "java/util/AbstractList$RandomAccessSubList"), (3, .class_ 99), (0, u "java/util/AbstractList$SubList"), (33, .class_ 134), (0, u "java/util/List"), (73, .class_ 209), (0, u "java/util/AbstractList$SubList$1"), (0, .class_ 211), (0, u "java/util/AbstractList$RandomAccessSpliterator")] 6
def k8c0 : Code := ⟨2, 1, jdk_39_method_1_code, #[], #[]⟩
def k8m0 : Method := ⟨"<init>", "()V", ⟨[], none⟩, 4, some k8c0⟩
def k8 : Class := { plain "java/util/AbstractList" (some 5) with
  accessFlags := 1057
  interfaces := #[7]
  cf := some (fileOf pool8 8 #[.nestMembers #[93, 98, 208, 210, 82, 77]] #[⟨4, 5, 6, #[]⟩] 1057 2 #[133] #[⟨132, 11, 12, #[]⟩])
  fields := #[⟨"modCount", .int, 132, 0, 0⟩]
  methods := #[k8m0]
  instanceTypes := #[.int]
  resolved := Array.replicate 218 none }
def pool9 : Array CpInfo := pool [(1, .class_ 2), (0, u "java/util/RandomAccess"), (0, .class_ 4), (0, u "java/lang/Object")] 2
def k9 : Class := { plain "java/util/RandomAccess" (some 0) with
  accessFlags := 1537
  cf := some (fileOf pool9 1 #[] #[] 1537 3 #[] #[])
  resolved := Array.replicate 7 none }
def pool10 : Array CpInfo := pool [(1, .class_ 2), (0, u "java/lang/Cloneable"), (0, .class_ 4), (0, u "java/lang/Object")] 2
def k10 : Class := { plain "java/lang/Cloneable" (some 0) with
  accessFlags := 1537
  cf := some (fileOf pool10 1 #[] #[] 1537 3 #[] #[])
  resolved := Array.replicate 7 none }
def pool11 : Array CpInfo := pool [(1, .class_ 2), (0, u "java/io/Serializable"), (0, .class_ 4), (0, u "java/lang/Object")] 2
def k11 : Class := { plain "java/io/Serializable" (some 0) with
  accessFlags := 1537
  cf := some (fileOf pool11 1 #[] #[] 1537 3 #[] #[])
  resolved := Array.replicate 7 none }
def pool12 : Array CpInfo := pool [(1, .methodref 2 3), (0, .class_ 4), (0, .nameAndType 5 6), (0, u "java/util/AbstractList"), (0, u "<init>"), (0, u "()V"), (0, .class_ 8), (0, u "java/lang/Object"), (0, .fieldref 10 11), (0, .class_ 12), (0, .nameAndType 13 14), (0, u "java/util/ArrayList"), (0, u "elementData"), (0, u "[Ljava/lang/Object;"), (2, u "EMPTY_ELEMENTDATA"), (21, .fieldref 10 40), (0, .nameAndType 41 14), (0, u "DEFAULTCAPACITY_EMPTY_ELEMENTDATA"), (5, u "()[Ljava/lang/Object;"), (0, .fieldref 10 49), (0, .nameAndType 50 51), (0, u "size"), (0, u "I"), (11, .fieldref 10 64), (0, .nameAndType 65 51), (0, u "modCount"), (3, .methodref 10 70), (0, .nameAndType 71 72), (0, u "grow"), (0, u "(I)[Ljava/lang/Object;"), (6, .methodref 80 81), (0, .class_ 82), (0, .nameAndType 83 84), (0, u "java/lang/Math"), (0, u "max"), (0, u "(II)I"), (11, u "(Ljava/lang/Object;)Z"), (21, .methodref 119 120), (0, .class_ 121), (0, .nameAndType 122 84), (0, u "java/util/Objects"), (0, u "checkIndex"), (0, .methodref 10 124), (0, .nameAndType 13 125), (0, u "(I)Ljava/lang/Object;"), (3, .methodref 10 130), (0, .nameAndType 71 47), (0, .methodref 10 132), (0, .nameAndType 133 134), (0, u "add"), (0, u "(Ljava/lang/Object;[Ljava/lang/Object;I)V"), (13, .class_ 149), (0, u "java/util/List"), (16, u "iterator"), (0, u "()Ljava/util/Iterator;"), (18, u "()I"), (75, .class_ 263), (0, u "java/util/ArrayList$ListItr"), (3, .class_ 268), (0, u "java/util/ArrayList$Itr"), (0, .methodref 267 270), (0, .nameAndType 5 271), (0, u "(Ljava/util/ArrayList;)V"), (4, .class_ 277), (0, u "java/util/ArrayList$SubList"), (12, .class_ 291), (0, u "java/util/ArrayList$ArrayListSpliterator"), (37, .class_ 330), (0, u "java/util/RandomAccess"), (0, .class_ 332), (0, u "java/lang/Cloneable"), (0, .class_ 334), (0, u "java/io/Serializable"), (0, u "serialVersionUID"), (0, u "J"), (3, u "DEFAULT_CAPACITY"), (40, u "get"), (118, .class_ 501), (0, u "java/util/ArrayList$SubList$2"), (0, .class_ 503), (0, u "java/util/ArrayList$SubList$1")] 5
def k12c0 : Code := ⟨2, 1, jdk_38_method_2_code, #[], #[]⟩
def k12m0 : Method := ⟨"<init>", "()V", ⟨[], none⟩, 1, some k12c0⟩
def k12c1 : Code := ⟨4, 4, jdk_38_method_6_code, #[], #[]⟩
def k12m1 : Method := ⟨"grow", "(I)[Ljava/lang/Object;", ⟨[.int], some (.array (.object "java/lang/Object"))⟩, 2, some k12c1⟩
def k12c2 : Code := ⟨3, 1, jdk_38_method_7_code, #[], #[]⟩
def k12m2 : Method := ⟨"grow", "()[Ljava/lang/Object;", ⟨[], some (.array (.object "java/lang/Object"))⟩, 2, some k12c2⟩
def k12c3 : Code := ⟨1, 1, jdk_38_method_8_code, #[], #[]⟩
def k12m3 : Method := ⟨"size", "()I", ⟨[], some .int⟩, 1, some k12c3⟩
def k12c4 : Code := ⟨2, 2, jdk_38_method_18_code, #[], #[]⟩
def k12m4 : Method := ⟨"elementData", "(I)Ljava/lang/Object;", ⟨[.int], some (.object "java/lang/Object")⟩, 0, some k12c4⟩
def k12c5 : Code := ⟨2, 2, jdk_38_method_20_code, #[], #[]⟩
def k12m5 : Method := ⟨"get", "(I)Ljava/lang/Object;", ⟨[.int], some (.object "java/lang/Object")⟩, 1, some k12c5⟩
def k12c6 : Code := ⟨3, 4, jdk_38_method_24_code, #[], #[]⟩
def k12m6 : Method := ⟨"add", "(Ljava/lang/Object;[Ljava/lang/Object;I)V", ⟨[(.object "java/lang/Object"), (.array (.object "java/lang/Object")), .int], none⟩, 2, some k12c6⟩
def k12c7 : Code := ⟨4, 2, jdk_38_method_25_code, #[], #[]⟩
def k12m7 : Method := ⟨"add", "(Ljava/lang/Object;)Z", ⟨[(.object "java/lang/Object")], some .boolean⟩, 1, some k12c7⟩
def k12c8 : Code := ⟨3, 1, jdk_38_method_55_code, #[], #[]⟩
def k12m8 : Method := ⟨"iterator", "()Ljava/util/Iterator;", ⟨[], some (.object "java/util/Iterator")⟩, 1, some k12c8⟩
def k12 : Class := { plain "java/util/ArrayList" (some 8) with
  interfaces := #[7, 9, 10, 11]
  cf := some (fileOf pool12 10 #[.nestMembers #[290, 276, 500, 502, 262, 267]] #[⟨1, 5, 6, #[]⟩, ⟨2, 71, 72, #[]⟩, ⟨2, 71, 47, #[]⟩, ⟨1, 50, 186, #[]⟩, ⟨0, 13, 125, #[]⟩, ⟨1, 381, 125, #[]⟩, ⟨2, 133, 134, #[]⟩, ⟨1, 133, 96, #[]⟩, ⟨1, 166, 167, #[]⟩] 33 2 #[148, 329, 331, 333] #[⟨26, 335, 336, #[]⟩, ⟨26, 340, 51, #[]⟩, ⟨26, 17, 14, #[]⟩, ⟨26, 41, 14, #[]⟩, ⟨128, 13, 14, #[]⟩, ⟨2, 50, 51, #[]⟩])
  fields := #[⟨"serialVersionUID", .long, 26, 0, 0⟩, ⟨"DEFAULT_CAPACITY", .int, 26, 1, 0⟩, ⟨"EMPTY_ELEMENTDATA", (.array (.object "java/lang/Object")), 26, 2, 0⟩, ⟨"DEFAULTCAPACITY_EMPTY_ELEMENTDATA", (.array (.object "java/lang/Object")), 26, 3, 0⟩, ⟨"elementData", (.array (.object "java/lang/Object")), 128, 1, 0⟩, ⟨"size", .int, 2, 2, 0⟩]
  methods := #[k12m0, k12m1, k12m2, k12m3, k12m4, k12m5, k12m6, k12m7, k12m8]
  instanceTypes := #[.int, (.array (.object "java/lang/Object")), .int]
  staticTypes := #[.long, .int, (.array (.object "java/lang/Object")), (.array (.object "java/lang/Object"))]
  resolved := Array.replicate 509 none
  statics := some 0 }
def pool13 : Array CpInfo := pool [(1, .methodref 2 3), (0, .class_ 4), (0, .nameAndType 5 6), (0, u "java/lang/Object"), (0, u "<init>"), (0, u "()V"), (0, .fieldref 8 9), (0, .class_ 10), (0, .nameAndType 11 12), (0, u "com/example/bidfold/bidfold/solve/CuttingPlaneMaster$Dense"), (0, u "entries"), (0, u "[D"), (0, .fieldref 8 14), (0, .nameAndType 15 16), (0, u "cost"), (0, u "D"), (0, .fieldref 8 18), (0, .nameAndType 19 16), (0, u "atOne"), (0, .fieldref 8 21), (0, .nameAndType 22 16), (0, u "sizeAtOne"), (0, .methodref 24 25), (0, .class_ 26), (0, .nameAndType 27 28), (0, u "java/lang/Math"), (0, u "abs"), (0, u "(D)D"), (0, u "basic"), (0, u "Z"), (0, u "([DD)V"), (2, u "countAtOne"), (0, u "(II)V"), (3, .class_ 40), (0, u "com/example/bidfold/bidfold/solve/CuttingPlaneMaster")] 2
def k13c0 : Code := ⟨3, 4, prog_27_method_1_code, #[], #[]⟩
def k13m0 : Method := ⟨"<init>", "([DD)V", ⟨[(.array .double), .double], none⟩, 2, some k13c0⟩
def k13c1 : Code := ⟨7, 3, prog_27_method_2_code, #[], #[]⟩
def k13m1 : Method := ⟨"countAtOne", "(II)V", ⟨[.int, .int], none⟩, 2, some k13c1⟩
def k13 : Class := { plain "com/example/bidfold/bidfold/solve/CuttingPlaneMaster$Dense" (some 0) with
  accessFlags := 48
  cf := some (fileOf pool13 8 #[.nestHost 39] #[⟨2, 5, 31, #[]⟩, ⟨2, 34, 35, #[]⟩] 48 2 #[] #[⟨18, 11, 12, #[]⟩, ⟨18, 15, 16, #[]⟩, ⟨2, 19, 16, #[]⟩, ⟨2, 22, 16, #[]⟩, ⟨2, 29, 30, #[]⟩])
  fields := #[⟨"entries", (.array .double), 18, 0, 0⟩, ⟨"cost", .double, 18, 1, 0⟩, ⟨"atOne", .double, 2, 2, 0⟩, ⟨"sizeAtOne", .double, 2, 3, 0⟩, ⟨"basic", .boolean, 2, 4, 0⟩]
  methods := #[k13m0, k13m1]
  instanceTypes := #[(.array .double), .double, .double, .double, .boolean]
  resolved := Array.replicate 43 none }
def pool14 : Array CpInfo := pool [(1, .class_ 2), (0, u "java/lang/Math"), (1, .class_ 6), (1, u "java/lang/Object"), (0, u "<init>"), (0, u "()V"), (5, u "(D)D"), (37, u "(DD)D"), (45, .class_ 100), (1, u "java/lang/Math$RandomNumberGeneratorHolder"), (23, u "abs"), (47, u "negativeZeroFloatBits"), (0, u "J"), (2, u "negativeZeroDoubleBits"), (21, u "max"), (46, u "$assertionsDisabled"), (0, u "Z"), (88, u "(II)I"), (2, u "twoToTheDoubleScaleDown"), (0, u "D"), (4, u "twoToTheDoubleScaleUp"), (9, u "E"), (3, u "PI"), (2, u "TAU"), (2, u "DEGREES_TO_RADIANS"), (0, u "RADIANS_TO_DEGREES")] 94
def k14m0 : Method := ⟨"<init>", "()V", ⟨[], none⟩, 2, none⟩
def k14c1 : Code := ⟨4, 2, jdk_29_method_64_code, #[], #[]⟩
def k14m1 : Method := ⟨"abs", "(D)D", ⟨[.double], some .double⟩, 9, some k14c1⟩
def k14c2 : Code := ⟨2, 2, jdk_29_method_65_code, #[], #[]⟩
def k14m2 : Method := ⟨"max", "(II)I", ⟨[.int, .int], some .int⟩, 9, some k14c2⟩
def k14c3 : Code := ⟨4, 4, jdk_29_method_68_code, #[], #[]⟩
def k14m3 : Method := ⟨"max", "(DD)D", ⟨[.double, .double], some .double⟩, 9, some k14c3⟩
def k14 : Class := { plain "java/lang/Math" (some 0) with
  accessFlags := 49
  cf := some (fileOf pool14 1 #[.nestMembers #[98]] #[⟨2, 7, 8, #[]⟩, ⟨9, 124, 14, #[]⟩, ⟨9, 198, 335, #[]⟩, ⟨9, 198, 52, #[]⟩] 49 4 #[] #[⟨25, 354, 339, #[]⟩, ⟨25, 358, 339, #[]⟩, ⟨25, 361, 339, #[]⟩, ⟨26, 364, 339, #[]⟩, ⟨26, 365, 339, #[]⟩, ⟨26, 172, 173, #[]⟩, ⟨26, 176, 173, #[]⟩, ⟨8, 344, 339, #[]⟩, ⟨8, 338, 339, #[]⟩, ⟨4120, 245, 246, #[]⟩])
  fields := #[⟨"E", .double, 25, 0, 0⟩, ⟨"PI", .double, 25, 1, 0⟩, ⟨"TAU", .double, 25, 2, 0⟩, ⟨"DEGREES_TO_RADIANS", .double, 26, 3, 0⟩, ⟨"RADIANS_TO_DEGREES", .double, 26, 4, 0⟩, ⟨"negativeZeroFloatBits", .long, 26, 5, 0⟩, ⟨"negativeZeroDoubleBits", .long, 26, 6, 0⟩, ⟨"twoToTheDoubleScaleUp", .double, 8, 7, 0⟩, ⟨"twoToTheDoubleScaleDown", .double, 8, 8, 0⟩, ⟨"$assertionsDisabled", .boolean, 4120, 9, 0⟩]
  methods := #[k14m0, k14m1, k14m2, k14m3]
  staticTypes := #[.double, .double, .double, .double, .double, .long, .long, .double, .double, .boolean]
  resolved := Array.replicate 460 none }
def pool15 : Array CpInfo := pool [(2, .class_ 4), (1, u "java/lang/Object"), (0, u "<init>"), (0, u "()V"), (35, .class_ 44), (1, u "java/util/Objects"), (60, .methodref 106 107), (0, .class_ 108), (0, .nameAndType 109 110), (0, u "jdk/internal/util/Preconditions"), (0, u "checkIndex"), (0, u "(IILjava/util/function/BiFunction;)I"), (60, u "(II)I")] 12
def k15m0 : Method := ⟨"<init>", "()V", ⟨[], none⟩, 2, none⟩
def k15c1 : Code := ⟨3, 2, jdk_31_method_17_code, #[], #[]⟩
def k15m1 : Method := ⟨"checkIndex", "(II)I", ⟨[.int, .int], some .int⟩, 9, some k15c1⟩
def k15 : Class := { plain "java/util/Objects" (some 0) with
  accessFlags := 49
  cf := some (fileOf pool15 42 #[] #[⟨2, 5, 6, #[]⟩, ⟨9, 109, 171, #[]⟩] 49 2 #[] #[])
  methods := #[k15m0, k15m1]
  resolved := Array.replicate 184 none }
def pool16 : Array CpInfo := pool [(2, .class_ 4), (1, u "java/lang/Object"), (0, u "<init>"), (0, u "()V"), (17, .class_ 26), (1, u "jdk/internal/util/Preconditions"), (6, u "checkIndex"), (21, .class_ 56), (0, u "jdk/internal/util/Preconditions$4"), (57, .class_ 115), (0, u "jdk/internal/util/Preconditions$1"), (7, u "SIOOBE_FORMATTER"), (0, u "Ljava/util/function/BiFunction;"), (0, .class_ 126), (0, u "jdk/internal/util/Preconditions$2"), (3, u "AIOOBE_FORMATTER"), (0, .class_ 132), (0, u "jdk/internal/util/Preconditions$3"), (3, u "IOOBE_FORMATTER"), (41, u "(IILjava/util/function/BiFunction;)I")] 15
def k16m0 : Method := ⟨"<init>", "()V", ⟨[], none⟩, 1, none⟩
def k16c1 : Code := ⟨3, 3, jdk_41_method_11_code, #[], #[]⟩
def k16m1 : Method := ⟨"checkIndex", "(IILjava/util/function/BiFunction;)I", ⟨[.int, .int, (.object "java/util/function/BiFunction")], some .int⟩, 9, some k16c1⟩
def k16 : Class := { plain "jdk/internal/util/Preconditions" (some 0) with
  cf := some (fileOf pool16 24 #[.nestMembers #[55, 131, 125, 114]] #[⟨1, 5, 6, #[]⟩, ⟨9, 33, 178, #[]⟩] 33 2 #[] #[⟨25, 123, 124, #[]⟩, ⟨25, 130, 124, #[]⟩, ⟨25, 136, 124, #[]⟩])
  fields := #[⟨"SIOOBE_FORMATTER", (.object "java/util/function/BiFunction"), 25, 0, 0⟩, ⟨"AIOOBE_FORMATTER", (.object "java/util/function/BiFunction"), 25, 1, 0⟩, ⟨"IOOBE_FORMATTER", (.object "java/util/function/BiFunction"), 25, 2, 0⟩]
  methods := #[k16m0, k16m1]
  staticTypes := #[(.object "java/util/function/BiFunction"), (.object "java/util/function/BiFunction"), (.object "java/util/function/BiFunction")]
  resolved := Array.replicate 194 none }
def pool17 : Array CpInfo := pool [(2, .class_ 4), (1, u "java/lang/Object"), (0, u "<init>"), (0, u "()V"), (0, .class_ 8), (0, u "[D"), (0, .class_ 10), (0, u "[[D"), (0, .methodref 7 12), (0, .nameAndType 13 14), (0, u "clone"), (0, u "()Ljava/lang/Object;"), (0, .methodref 16 17), (0, .class_ 18), (0, .nameAndType 19 20), (0, u "java/lang/Math"), (0, u "abs"), (0, u "(D)D"), (7, .methodref 29 30), (0, .class_ 31), (0, .nameAndType 32 33), (0, u "com/example/bidfold/bidfold/solve/BasisInverse"), (0, u "swap"), (0, u "([[DII)V"), (2, u "of"), (0, u "([[D)[[D")] 5
def k17m0 : Method := ⟨"<init>", "()V", ⟨[], none⟩, 2, none⟩
def k17c1 : Code := ⟨8, 12, prog_21_method_2_code, #[], #[]⟩
def k17m1 : Method := ⟨"of", "([[D)[[D", ⟨[(.array (.array .double))], some (.array (.array .double))⟩, 8, some k17c1⟩
def k17c2 : Code := ⟨4, 4, prog_21_method_4_code, #[], #[]⟩
def k17m2 : Method := ⟨"swap", "([[DII)V", ⟨[(.array (.array .double)), .int, .int], none⟩, 10, some k17c2⟩
def k17 : Class := { plain "com/example/bidfold/bidfold/solve/BasisInverse" (some 0) with
  accessFlags := 48
  cf := some (fileOf pool17 29 #[] #[⟨2, 5, 6, #[]⟩, ⟨8, 36, 37, #[]⟩, ⟨10, 32, 33, #[]⟩] 48 2 #[] #[])
  methods := #[k17m0, k17m1, k17m2]
  resolved := Array.replicate 43 none }
def pool18 : Array CpInfo := pool [(16, .class_ 18), (1, u "java/util/Iterator"), (0, u "hasNext"), (0, u "()Z"), (2, u "next"), (0, u "()Ljava/lang/Object;"), (6, .class_ 32), (0, u "java/lang/Object")] 20
def k18m0 : Method := ⟨"hasNext", "()Z", ⟨[], some .boolean⟩, 1025, none⟩
def k18m1 : Method := ⟨"next", "()Ljava/lang/Object;", ⟨[], some (.object "java/lang/Object")⟩, 1025, none⟩
def k18 : Class := { plain "java/util/Iterator" (some 0) with
  accessFlags := 1537
  cf := some (fileOf pool18 16 #[] #[⟨1025, 19, 20, #[]⟩, ⟨1025, 23, 24, #[]⟩] 1537 31 #[] #[])
  methods := #[k18m0, k18m1]
  resolved := Array.replicate 53 none }
def pool19 : Array CpInfo := pool [(1, .fieldref 2 3), (0, .class_ 4), (0, .nameAndType 5 6), (0, u "java/util/ArrayList$Itr"), (0, u "this$0"), (0, u "Ljava/util/ArrayList;"), (0, .methodref 8 9), (0, .class_ 10), (0, .nameAndType 11 12), (0, u "java/lang/Object"), (0, u "<init>"), (0, u "()V"), (0, .fieldref 2 14), (0, .nameAndType 15 16), (0, u "lastRet"), (0, u "I"), (0, .fieldref 18 19), (0, .class_ 20), (0, .nameAndType 21 16), (0, u "java/util/ArrayList"), (0, u "modCount"), (0, .fieldref 2 23), (0, .nameAndType 24 16), (0, u "expectedModCount"), (0, .fieldref 2 26), (0, .nameAndType 27 16), (0, u "cursor"), (0, .fieldref 18 29), (0, .nameAndType 30 16), (0, u "size"), (0, .methodref 2 32), (0, .nameAndType 33 12), (0, u "checkForComodification"), (3, .fieldref 18 38), (0, .nameAndType 39 40), (0, u "elementData"), (0, u "[Ljava/lang/Object;"), (28, .class_ 70), (0, u "java/util/Iterator"), (0, u "(Ljava/util/ArrayList;)V"), (8, u "hasNext"), (0, u "()Z"), (1, u "next"), (0, u "()Ljava/lang/Object;")] 19
def k19c0 : Code := ⟨2, 2, jdk_49_method_1_code, #[], #[]⟩
def k19m0 : Method := ⟨"<init>", "(Ljava/util/ArrayList;)V", ⟨[(.object "java/util/ArrayList")], none⟩, 0, some k19c0⟩
def k19c1 : Code := ⟨2, 1, jdk_49_method_2_code, #[], #[]⟩
def k19m1 : Method := ⟨"hasNext", "()Z", ⟨[], some .boolean⟩, 1, some k19c1⟩
def k19c2 : Code := ⟨4, 3, jdk_49_method_3_code, #[], #[]⟩
def k19m2 : Method := ⟨"next", "()Ljava/lang/Object;", ⟨[], some (.object "java/lang/Object")⟩, 1, some k19c2⟩
def k19c3 : Code := ⟨2, 1, jdk_49_method_6_code, #[], #[]⟩
def k19m3 : Method := ⟨"checkForComodification", "()V", ⟨[], none⟩, 16, some k19c3⟩
def k19 : Class := { plain "java/util/ArrayList$Itr" (some 0) with
  accessFlags := 32
  interfaces := #[18]
  cf := some (fileOf pool19 2 #[.nestHost 18] #[⟨0, 11, 71, #[]⟩, ⟨1, 80, 81, #[]⟩, ⟨1, 83, 84, #[]⟩, ⟨16, 33, 12, #[]⟩] 32 8 #[69] #[⟨0, 27, 16, #[]⟩, ⟨0, 15, 16, #[]⟩, ⟨0, 24, 16, #[]⟩, ⟨4112, 5, 6, #[]⟩])
  fields := #[⟨"cursor", .int, 0, 0, 0⟩, ⟨"lastRet", .int, 0, 1, 0⟩, ⟨"expectedModCount", .int, 0, 2, 0⟩, ⟨"this$0", (.object "java/util/ArrayList"), 4112, 3, 0⟩]
  methods := #[k19m0, k19m1, k19m2, k19m3]
  instanceTypes := #[.int, .int, .int, (.object "java/util/ArrayList")]
  resolved := Array.replicate 104 none }
def pool20 : Array CpInfo := pool [(1, .methodref 2 3), (0, .class_ 4), (0, .nameAndType 5 6), (0, u "java/lang/Object"), (0, u "<init>"), (0, u "()V"), (0, .class_ 8), (0, u "java/lang/Record")] 13
def k20c0 : Code := ⟨1, 1, jdk_30_method_1_code, #[], #[]⟩
def k20m0 : Method := ⟨"<init>", "()V", ⟨[], none⟩, 4, some k20c0⟩
def k20 : Class := { plain "java/lang/Record" (some 0) with
  accessFlags := 1057
  cf := some (fileOf pool20 7 #[] #[⟨4, 5, 6, #[]⟩] 1057 2 #[] #[])
  methods := #[k20m0]
  resolved := Array.replicate 22 none }
def pool21 : Array CpInfo := pool [(1, .methodref 2 3), (0, .class_ 4), (0, .nameAndType 5 6), (0, u "java/lang/Record"), (0, u "<init>"), (0, u "()V"), (0, .fieldref 8 9), (0, .class_ 10), (0, .nameAndType 11 12), (0, u "com/example/bidfold/bidfold/solve/CuttingPlaneMaster$Direction"), (0, u "kernel"), (0, u "[D"), (0, .fieldref 8 14), (0, .nameAndType 15 12), (0, u "bounds"), (12, u "([D[D)V"), (3, u "at"), (0, u "(I)D"), (4, u "()[D"), (3, .class_ 43), (0, u "com/example/bidfold/bidfold/solve/CuttingPlaneMaster")] 20
def k21c0 : Code := ⟨2, 3, prog_28_method_1_code, #[], #[]⟩
def k21m0 : Method := ⟨"<init>", "([D[D)V", ⟨[(.array .double), (.array .double)], none⟩, 2, some k21c0⟩
def k21c1 : Code := ⟨3, 2, prog_28_method_2_code, #[], #[]⟩
def k21m1 : Method := ⟨"at", "(I)D", ⟨[.int], some .double⟩, 0, some k21c1⟩
def k21c2 : Code := ⟨1, 1, prog_28_method_6_code, #[], #[]⟩
def k21m2 : Method := ⟨"kernel", "()[D", ⟨[], some (.array .double)⟩, 1, some k21c2⟩
def k21c3 : Code := ⟨1, 1, prog_28_method_7_code, #[], #[]⟩
def k21m3 : Method := ⟨"bounds", "()[D", ⟨[], some (.array .double)⟩, 1, some k21c3⟩
def k21 : Class := { plain "com/example/bidfold/bidfold/solve/CuttingPlaneMaster$Direction" (some 20) with
  accessFlags := 48
  cf := some (fileOf pool21 8 #[.nestHost 42] #[⟨2, 5, 28, #[]⟩, ⟨0, 32, 33, #[]⟩, ⟨1, 11, 38, #[]⟩, ⟨1, 15, 38, #[]⟩] 48 2 #[] #[⟨18, 11, 12, #[]⟩, ⟨18, 15, 12, #[]⟩])
  fields := #[⟨"kernel", (.array .double), 18, 0, 0⟩, ⟨"bounds", (.array .double), 18, 1, 0⟩]
  methods := #[k21m0, k21m1, k21m2, k21m3]
  instanceTypes := #[(.array .double), (.array .double)]
  resolved := Array.replicate 64 none }
def pool22 : Array CpInfo := pool [(2, .class_ 4), (1, u "java/lang/Object"), (0, u "<init>"), (0, u "()V"), (1, .class_ 10), (1, u "java/lang/System"), (0, u "allowSecurityManager"), (0, u "I"), (16, u "cons"), (0, u "Ljava/io/Console;"), (77, .class_ 110), (1, u "java/lang/System$CallersHolder"), (43, u "initialErrStream"), (0, u "Ljava/io/PrintStream;"), (19, u "security"), (0, u "Ljava/lang/SecurityManager;"), (31, .class_ 209), (0, u "java/lang/System$1"), (7, u "props"), (0, u "Ljava/util/Properties;"), (2, u "lineSeparator"), (0, u "Ljava/lang/String;"), (96, .class_ 321), (1, u "java/lang/System$LoggerFinder"), (5, .class_ 328), (0, u "java/lang/System$Logger"), (67, u "err"), (2, u "out"), (91, u "notSupportedJnuEncoding"), (15, u "in"), (17, u "initialIn"), (0, u "Ljava/io/InputStream;"), (35, u "bootLayer"), (0, u "Ljava/lang/ModuleLayer;"), (99, .class_ 664), (0, u "java/lang/System$2"), (9, u "NEVER"), (2, u "MAYBE"), (49, u "arraycopy"), (0, u "(Ljava/lang/Object;ILjava/lang/Object;II)V"), (72, .class_ 802), (0, u "java/lang/System$Logger$Level")] 31
def k22m0 : Method := ⟨"<init>", "()V", ⟨[], none⟩, 2, none⟩
def k22m1 : Method := ⟨"arraycopy", "(Ljava/lang/Object;ILjava/lang/Object;II)V", ⟨[(.object "java/lang/Object"), .int, (.object "java/lang/Object"), .int, .int], none⟩, 265, none⟩
def k22 : Class := { plain "java/lang/System" (some 0) with
  accessFlags := 49
  cf := some (fileOf pool22 8 #[.nestMembers #[319, 327, 801, 108, 663, 208]] #[⟨2, 5, 6, #[]⟩, ⟨265, 727, 728, #[]⟩] 49 2 #[] #[⟨25, 507, 526, #[]⟩, ⟨25, 399, 155, #[]⟩, ⟨25, 396, 155, #[]⟩, ⟨10, 525, 526, #[]⟩, ⟨26, 674, 12, #[]⟩, ⟨26, 677, 12, #[]⟩, ⟨10, 11, 12, #[]⟩, ⟨74, 175, 176, #[]⟩, ⟨10, 491, 222, #[]⟩, ⟨74, 29, 30, #[]⟩, ⟨74, 154, 155, #[]⟩, ⟨10, 217, 218, #[]⟩, ⟨10, 221, 222, #[]⟩, ⟨8, 562, 563, #[]⟩])
  fields := #[⟨"in", (.object "java/io/InputStream"), 25, 0, 0⟩, ⟨"out", (.object "java/io/PrintStream"), 25, 1, 0⟩, ⟨"err", (.object "java/io/PrintStream"), 25, 2, 0⟩, ⟨"initialIn", (.object "java/io/InputStream"), 10, 3, 0⟩, ⟨"NEVER", .int, 26, 4, 0⟩, ⟨"MAYBE", .int, 26, 5, 0⟩, ⟨"allowSecurityManager", .int, 10, 6, 0⟩, ⟨"security", (.object "java/lang/SecurityManager"), 74, 7, 0⟩, ⟨"notSupportedJnuEncoding", (.object "java/lang/String"), 10, 8, 0⟩, ⟨"cons", (.object "java/io/Console"), 74, 9, 0⟩, ⟨"initialErrStream", (.object "java/io/PrintStream"), 74, 10, 0⟩, ⟨"props", (.object "java/util/Properties"), 10, 11, 0⟩, ⟨"lineSeparator", (.object "java/lang/String"), 10, 12, 0⟩, ⟨"bootLayer", (.object "java/lang/ModuleLayer"), 8, 13, 0⟩]
  methods := #[k22m0, k22m1]
  staticTypes := #[(.object "java/io/InputStream"), (.object "java/io/PrintStream"), (.object "java/io/PrintStream"), (.object "java/io/InputStream"), .int, .int, .int, (.object "java/lang/SecurityManager"), (.object "java/lang/String"), (.object "java/io/Console"), (.object "java/io/PrintStream"), (.object "java/util/Properties"), (.object "java/lang/String"), (.object "java/lang/ModuleLayer")]
  resolved := Array.replicate 834 none }
def k23 : Class := { plain "byte" none with kind := .primitive 'B', accessFlags := 0x411 }
def k24 : Class := { plain "[B" (some 0) with kind := .array 23 .byte, interfaces := #[10, 11], accessFlags := 1041 }
def k25 : Class := { plain "double" none with kind := .primitive 'D', accessFlags := 0x411 }
def k26 : Class := { plain "[D" (some 0) with kind := .array 25 .double, interfaces := #[10, 11], accessFlags := 1041 }
def k27 : Class := { plain "int" none with kind := .primitive 'I', accessFlags := 0x411 }
def k28 : Class := { plain "[I" (some 0) with kind := .array 27 .int, interfaces := #[10, 11], accessFlags := 1041 }
def k29 : Class := { plain "[Ljava/lang/Object;" (some 0) with kind := .array 0 (.object "java/lang/Object"), interfaces := #[10, 11], accessFlags := 1041 }
def k30 : Class := { plain "[[D" (some 0) with kind := .array 26 (.array .double), interfaces := #[10, 11], accessFlags := 1041 }
def heap : Heap := #[{ cls := 12, slots := #[.long 0, .int 0, .ref 1, .ref 2], vm := .statics 12 },
  { cls := 29, slots := #[], vm := .none },
  { cls := 29, slots := #[], vm := .none }]
def classes : Array Class := #[k0, k1, k2, k3, k4, k5, k6, k7, k8, k9, k10, k11, k12, k13, k14, k15, k16, k17, k18, k19, k20, k21, k22, k23, k24, k25, k26, k27, k28, k29, k30]
def interned : List (Array UInt16 × Addr) := []
def slotsUsed : Nat := 4
def theMethod : MethodId := ⟨1, 1⟩
def args0 : Array Value := #[.int 5, .int 5, .int 5]
def aboutOver (below : List Frame) : State where
  vm := { classes := classes, interned := interned.toArray }
  heap := heap
  slotsUsed := slotsUsed
  threads := #[{ frames := .invoking theMethod args0 :: below }]
def below0 : List Frame := [.native { method := ⟨0, 0⟩, args := #[] }]
def about1 : State := aboutOver below0
def p0 : Program := .bare "" "" ""
def e0 : Env := launch0.env 0 0 0
theorem w_frames : about1.frames = Frame.invoking theMethod args0 :: below0 := rfl
theorem w_args : argsFit about1.vm theMethod args0 = true := by decide +kernel
theorem w_heap : heapFits about1 = true := by decide +kernel
theorem w_runnable : about1.curStatus? = some .runnable := by decide +kernel
theorem w_alone : about1.alone = true := by decide +kernel
theorem w_named : about1.methodNamed? x = some theMethod := by decide +kernel
theorem w_hears : about1.hears theMethod below0 = true := by decide +kernel
theorem w_ripe : about1.ripe theMethod args0 below0 = true := by decide +kernel
theorem w_running : about1.status = .running := rfl
theorem w_room : about1.hasRoom e0.platform room_1 = true :=
  launch0.hasRoom_least _ room_1 (by decide +kernel) (by decide +kernel) (by decide +kernel) (by decide +kernel) (by decide +kernel) (by decide +kernel)
theorem allAtoms_all (ts : List Jvm.Cond) (a : Array Jvm.Value) (st : Jvm.State) : (allAtoms ts).before a st = ts.all (fun c => c.before a st) := by
  induction ts with
  | nil => rfl
  | cons c t ih =>
    show (Jvm.Cond.and c (allAtoms t)).before a st = _
    rw [Jvm.Cond.before_and, ih, List.all_cons]
def words1 : List Jvm.Cond := Jvm.Cond.code x code maxLocals ret :: tables_1
theorem code_word {y : MethodName} {bytes : ByteArray} {mx : Nat} {rt : Option FieldType} {a : Array Value} {s : State} {m : MethodId} {meth : Method} {c : Code} (h1 : s.methodNamed? y = some m) (h2 : s.vm.method? m = some meth) (h3 : meth.code = some c) (h4 : c.code = bytes)
    (h5 : (c.maxLocals == mx && c.exceptionTable.isEmpty && decide (c.maxStack ≤ mostOperands) && decide (meth.sig.returnType = rt) && !meth.locks && decide (parseMethodDescriptor y.desc = some meth.sig)) = true) : (Jvm.Cond.code y bytes mx rt).before a s = true := by
  simp only [Bool.and_eq_true, beq_iff_eq, Bool.not_eq_true', decide_eq_true_eq] at h5
  obtain ⟨⟨⟨⟨⟨g1, g2⟩, g3⟩, g4⟩, g5⟩, g6⟩ := h5
  simp [Cond.before, Cond.holds, Cond.value, h1, h2, h3, h4, g1, g2, g3, g4, g5, g6]
def isCode : Jvm.Cond → Bool
  | .code _ _ _ _ => true
  | _ => false
theorem all_split {L : List Jvm.Cond} {P : Jvm.Cond → Bool} (h1 : L.all (fun c => isCode c || P c) = true) (h2 : ∀ c ∈ L.filter isCode, P c = true) : L.all P = true := by
  refine List.all_eq_true.mpr fun c hc => ?_
  have h := List.all_eq_true.mp h1 c hc
  rcases Bool.eq_false_or_eq_true (isCode c) with hi | hi
  · exact h2 c (List.mem_filter.mpr ⟨hc, hi⟩)
  · simpa [hi] using h
abbrev c0 : Jvm.Cond := Jvm.Cond.code x code maxLocals ret
theorem w_c0 : c0.before args0 about1 = true := code_word (m := ⟨1, 1⟩) (meth := k1m1) (c := k1c1) (by decide +kernel) rfl rfl rfl (by decide +kernel)
abbrev c1 : Jvm.Cond := Jvm.Cond.code ({ cls := "com/example/bidfold/bidfold/solve/CuttingPlaneMaster", name := "<init>", desc := "(II)V" } : Jvm.MethodName) prog_26_method_1_code (5 : Nat) (Option.none : Option Jvm.ClassFile.FieldType)
theorem w_c1 : c1.before args0 about1 = true := code_word (m := ⟨2, 0⟩) (meth := k2m0) (c := k2c0) (by decide +kernel) rfl rfl rfl (by decide +kernel)
abbrev c2 : Jvm.Cond := Jvm.Cond.code ({ cls := "java/lang/Object", name := "<init>", desc := "()V" } : Jvm.MethodName) object_method_1_code (1 : Nat) (Option.none : Option Jvm.ClassFile.FieldType)
theorem w_c2 : c2.before args0 about1 = true := code_word (m := ⟨0, 0⟩) (meth := k0m0) (c := k0c0) (by decide +kernel) rfl rfl rfl (by decide +kernel)
abbrev c3 : Jvm.Cond := Jvm.Cond.code ({ cls := "java/util/ArrayList", name := "<init>", desc := "()V" } : Jvm.MethodName) jdk_38_method_2_code (1 : Nat) (Option.none : Option Jvm.ClassFile.FieldType)
theorem w_c3 : c3.before args0 about1 = true := code_word (m := ⟨12, 0⟩) (meth := k12m0) (c := k12c0) (by decide +kernel) rfl rfl rfl (by decide +kernel)
abbrev c4 : Jvm.Cond := Jvm.Cond.code ({ cls := "java/util/AbstractList", name := "<init>", desc := "()V" } : Jvm.MethodName) jdk_39_method_1_code (1 : Nat) (Option.none : Option Jvm.ClassFile.FieldType)
theorem w_c4 : c4.before args0 about1 = true := code_word (m := ⟨8, 0⟩) (meth := k8m0) (c := k8c0) (by decide +kernel) rfl rfl rfl (by decide +kernel)
abbrev c5 : Jvm.Cond := Jvm.Cond.code ({ cls := "java/util/AbstractCollection", name := "<init>", desc := "()V" } : Jvm.MethodName) jdk_22_method_1_code (1 : Nat) (Option.none : Option Jvm.ClassFile.FieldType)
theorem w_c5 : c5.before args0 about1 = true := code_word (m := ⟨5, 0⟩) (meth := k5m0) (c := k5c0) (by decide +kernel) rfl rfl rfl (by decide +kernel)
abbrev c6 : Jvm.Cond := Jvm.Cond.code ({ cls := "com/example/bidfold/bidfold/solve/CuttingPlaneMaster$Dense", name := "<init>", desc := "([DD)V" } : Jvm.MethodName) prog_27_method_1_code (4 : Nat) (Option.none : Option Jvm.ClassFile.FieldType)
theorem w_c6 : c6.before args0 about1 = true := code_word (m := ⟨13, 0⟩) (meth := k13m0) (c := k13c0) (by decide +kernel) rfl rfl rfl (by decide +kernel)
abbrev c7 : Jvm.Cond := Jvm.Cond.code ({ cls := "java/util/ArrayList", name := "add", desc := "(Ljava/lang/Object;)Z" } : Jvm.MethodName) jdk_38_method_25_code (2 : Nat) (Option.some Jvm.ClassFile.FieldType.boolean)
theorem w_c7 : c7.before args0 about1 = true := code_word (m := ⟨12, 7⟩) (meth := k12m7) (c := k12c7) (by decide +kernel) rfl rfl rfl (by decide +kernel)
abbrev c8 : Jvm.Cond := Jvm.Cond.code ({ cls := "java/util/ArrayList", name := "add", desc := "(Ljava/lang/Object;[Ljava/lang/Object;I)V" } : Jvm.MethodName) jdk_38_method_24_code (4 : Nat) (Option.none : Option Jvm.ClassFile.FieldType)
theorem w_c8 : c8.before args0 about1 = true := code_word (m := ⟨12, 6⟩) (meth := k12m6) (c := k12c6) (by decide +kernel) rfl rfl rfl (by decide +kernel)
abbrev c9 : Jvm.Cond := Jvm.Cond.code ({ cls := "java/util/ArrayList", name := "grow", desc := "()[Ljava/lang/Object;" } : Jvm.MethodName) jdk_38_method_7_code (1 : Nat) (Option.some (Jvm.ClassFile.FieldType.array (Jvm.ClassFile.FieldType.object "java/lang/Object")))
theorem w_c9 : c9.before args0 about1 = true := code_word (m := ⟨12, 2⟩) (meth := k12m2) (c := k12c2) (by decide +kernel) rfl rfl rfl (by decide +kernel)
abbrev c10 : Jvm.Cond := Jvm.Cond.code ({ cls := "java/util/ArrayList", name := "grow", desc := "(I)[Ljava/lang/Object;" } : Jvm.MethodName) jdk_38_method_6_code (4 : Nat) (Option.some (Jvm.ClassFile.FieldType.array (Jvm.ClassFile.FieldType.object "java/lang/Object")))
theorem w_c10 : c10.before args0 about1 = true := code_word (m := ⟨12, 1⟩) (meth := k12m1) (c := k12c1) (by decide +kernel) rfl rfl rfl (by decide +kernel)
abbrev c11 : Jvm.Cond := Jvm.Cond.code ({ cls := "java/lang/Math", name := "max", desc := "(II)I" } : Jvm.MethodName) jdk_29_method_65_code (2 : Nat) (Option.some Jvm.ClassFile.FieldType.int)
theorem w_c11 : c11.before args0 about1 = true := code_word (m := ⟨14, 2⟩) (meth := k14m2) (c := k14c2) (by decide +kernel) rfl rfl rfl (by decide +kernel)
abbrev c12 : Jvm.Cond := Jvm.Cond.code ({ cls := "com/example/bidfold/bidfold/solve/CuttingPlaneMaster", name := "addCut", desc := "(D[D)Z" } : Jvm.MethodName) prog_26_method_2_code (11 : Nat) (Option.some Jvm.ClassFile.FieldType.boolean)
theorem w_c12 : c12.before args0 about1 = true := code_word (m := ⟨2, 1⟩) (meth := k2m1) (c := k2c1) (by decide +kernel) rfl rfl rfl (by decide +kernel)
abbrev c13 : Jvm.Cond := Jvm.Cond.code ({ cls := "java/lang/Math", name := "abs", desc := "(D)D" } : Jvm.MethodName) jdk_29_method_64_code (2 : Nat) (Option.some Jvm.ClassFile.FieldType.double)
theorem w_c13 : c13.before args0 about1 = true := code_word (m := ⟨14, 1⟩) (meth := k14m1) (c := k14c1) (by decide +kernel) rfl rfl rfl (by decide +kernel)
abbrev c14 : Jvm.Cond := Jvm.Cond.code ({ cls := "java/lang/Math", name := "max", desc := "(DD)D" } : Jvm.MethodName) jdk_29_method_68_code (4 : Nat) (Option.some Jvm.ClassFile.FieldType.double)
theorem w_c14 : c14.before args0 about1 = true := code_word (m := ⟨14, 3⟩) (meth := k14m3) (c := k14c3) (by decide +kernel) rfl rfl rfl (by decide +kernel)
abbrev c15 : Jvm.Cond := Jvm.Cond.code ({ cls := "com/example/bidfold/bidfold/solve/CuttingPlaneMaster", name := "countAtOneAfresh", desc := "(Lcom/example/bidfold/bidfold/solve/CuttingPlaneMaster$Dense;)V" } : Jvm.MethodName) prog_26_method_30_code (3 : Nat) (Option.none : Option Jvm.ClassFile.FieldType)
theorem w_c15 : c15.before args0 about1 = true := code_word (m := ⟨2, 22⟩) (meth := k2m22) (c := k2c22) (by decide +kernel) rfl rfl rfl (by decide +kernel)
abbrev c16 : Jvm.Cond := Jvm.Cond.code ({ cls := "java/util/ArrayList", name := "size", desc := "()I" } : Jvm.MethodName) jdk_38_method_8_code (1 : Nat) (Option.some Jvm.ClassFile.FieldType.int)
theorem w_c16 : c16.before args0 about1 = true := code_word (m := ⟨12, 3⟩) (meth := k12m3) (c := k12c3) (by decide +kernel) rfl rfl rfl (by decide +kernel)
abbrev c17 : Jvm.Cond := Jvm.Cond.code ({ cls := "com/example/bidfold/bidfold/solve/CuttingPlaneMaster", name := "setSide", desc := "(II)V" } : Jvm.MethodName) prog_26_method_28_code (7 : Nat) (Option.none : Option Jvm.ClassFile.FieldType)
theorem w_c17 : c17.before args0 about1 = true := code_word (m := ⟨2, 20⟩) (meth := k2m20) (c := k2c20) (by decide +kernel) rfl rfl rfl (by decide +kernel)
abbrev c18 : Jvm.Cond := Jvm.Cond.code ({ cls := "com/example/bidfold/bidfold/solve/CuttingPlaneMaster", name := "invert", desc := "()V" } : Jvm.MethodName) prog_26_method_29_code (7 : Nat) (Option.none : Option Jvm.ClassFile.FieldType)
theorem w_c18 : c18.before args0 about1 = true := code_word (m := ⟨2, 21⟩) (meth := k2m21) (c := k2c21) (by decide +kernel) rfl rfl rfl (by decide +kernel)
abbrev c19 : Jvm.Cond := Jvm.Cond.code ({ cls := "java/util/ArrayList", name := "get", desc := "(I)Ljava/lang/Object;" } : Jvm.MethodName) jdk_38_method_20_code (2 : Nat) (Option.some (Jvm.ClassFile.FieldType.object "java/lang/Object"))
theorem w_c19 : c19.before args0 about1 = true := code_word (m := ⟨12, 5⟩) (meth := k12m5) (c := k12c5) (by decide +kernel) rfl rfl rfl (by decide +kernel)
abbrev c20 : Jvm.Cond := Jvm.Cond.code ({ cls := "java/util/Objects", name := "checkIndex", desc := "(II)I" } : Jvm.MethodName) jdk_31_method_17_code (2 : Nat) (Option.some Jvm.ClassFile.FieldType.int)
theorem w_c20 : c20.before args0 about1 = true := code_word (m := ⟨15, 1⟩) (meth := k15m1) (c := k15c1) (by decide +kernel) rfl rfl rfl (by decide +kernel)
abbrev c21 : Jvm.Cond := Jvm.Cond.code ({ cls := "jdk/internal/util/Preconditions", name := "checkIndex", desc := "(IILjava/util/function/BiFunction;)I" } : Jvm.MethodName) jdk_41_method_11_code (3 : Nat) (Option.some Jvm.ClassFile.FieldType.int)
theorem w_c21 : c21.before args0 about1 = true := code_word (m := ⟨16, 1⟩) (meth := k16m1) (c := k16c1) (by decide +kernel) rfl rfl rfl (by decide +kernel)
abbrev c22 : Jvm.Cond := Jvm.Cond.code ({ cls := "java/util/ArrayList", name := "elementData", desc := "(I)Ljava/lang/Object;" } : Jvm.MethodName) jdk_38_method_18_code (2 : Nat) (Option.some (Jvm.ClassFile.FieldType.object "java/lang/Object"))
theorem w_c22 : c22.before args0 about1 = true := code_word (m := ⟨12, 4⟩) (meth := k12m4) (c := k12c4) (by decide +kernel) rfl rfl rfl (by decide +kernel)
abbrev c23 : Jvm.Cond := Jvm.Cond.code ({ cls := "com/example/bidfold/bidfold/solve/BasisInverse", name := "of", desc := "([[D)[[D" } : Jvm.MethodName) prog_21_method_2_code (12 : Nat) (Option.some (Jvm.ClassFile.FieldType.array (Jvm.ClassFile.FieldType.array Jvm.ClassFile.FieldType.double)))
theorem w_c23 : c23.before args0 about1 = true := code_word (m := ⟨17, 1⟩) (meth := k17m1) (c := k17c1) (by decide +kernel) rfl rfl rfl (by decide +kernel)
abbrev c24 : Jvm.Cond := Jvm.Cond.code ({ cls := "com/example/bidfold/bidfold/solve/BasisInverse", name := "swap", desc := "([[DII)V" } : Jvm.MethodName) prog_21_method_4_code (4 : Nat) (Option.none : Option Jvm.ClassFile.FieldType)
theorem w_c24 : c24.before args0 about1 = true := code_word (m := ⟨17, 2⟩) (meth := k17m2) (c := k17c2) (by decide +kernel) rfl rfl rfl (by decide +kernel)
abbrev c25 : Jvm.Cond := Jvm.Cond.code ({ cls := "com/example/bidfold/bidfold/solve/CuttingPlaneMaster", name := "kernelIndexOf", desc := "(I)I" } : Jvm.MethodName) prog_26_method_21_code (4 : Nat) (Option.some Jvm.ClassFile.FieldType.int)
theorem w_c25 : c25.before args0 about1 = true := code_word (m := ⟨2, 16⟩) (meth := k2m16) (c := k2c16) (by decide +kernel) rfl rfl rfl (by decide +kernel)
abbrev c26 : Jvm.Cond := Jvm.Cond.code ({ cls := "com/example/bidfold/bidfold/solve/CuttingPlaneMaster", name := "carriedBy", desc := "([D)[D" } : Jvm.MethodName) prog_26_method_20_code (8 : Nat) (Option.some (Jvm.ClassFile.FieldType.array Jvm.ClassFile.FieldType.double))
theorem w_c26 : c26.before args0 about1 = true := code_word (m := ⟨2, 15⟩) (meth := k2m15) (c := k2c15) (by decide +kernel) rfl rfl rfl (by decide +kernel)
abbrev c27 : Jvm.Cond := Jvm.Cond.code ({ cls := "java/util/ArrayList", name := "iterator", desc := "()Ljava/util/Iterator;" } : Jvm.MethodName) jdk_38_method_55_code (1 : Nat) (Option.some (Jvm.ClassFile.FieldType.object "java/util/Iterator"))
theorem w_c27 : c27.before args0 about1 = true := code_word (m := ⟨12, 8⟩) (meth := k12m8) (c := k12c8) (by decide +kernel) rfl rfl rfl (by decide +kernel)
abbrev c28 : Jvm.Cond := Jvm.Cond.code ({ cls := "java/util/ArrayList$Itr", name := "<init>", desc := "(Ljava/util/ArrayList;)V" } : Jvm.MethodName) jdk_49_method_1_code (2 : Nat) (Option.none : Option Jvm.ClassFile.FieldType)
theorem w_c28 : c28.before args0 about1 = true := code_word (m := ⟨19, 0⟩) (meth := k19m0) (c := k19c0) (by decide +kernel) rfl rfl rfl (by decide +kernel)
abbrev c29 : Jvm.Cond := Jvm.Cond.code ({ cls := "java/util/ArrayList$Itr", name := "hasNext", desc := "()Z" } : Jvm.MethodName) jdk_49_method_2_code (1 : Nat) (Option.some Jvm.ClassFile.FieldType.boolean)
theorem w_c29 : c29.before args0 about1 = true := code_word (m := ⟨19, 1⟩) (meth := k19m1) (c := k19c1) (by decide +kernel) rfl rfl rfl (by decide +kernel)
abbrev c30 : Jvm.Cond := Jvm.Cond.code ({ cls := "java/util/ArrayList$Itr", name := "next", desc := "()Ljava/lang/Object;" } : Jvm.MethodName) jdk_49_method_3_code (3 : Nat) (Option.some (Jvm.ClassFile.FieldType.object "java/lang/Object"))
theorem w_c30 : c30.before args0 about1 = true := code_word (m := ⟨19, 2⟩) (meth := k19m2) (c := k19c2) (by decide +kernel) rfl rfl rfl (by decide +kernel)
abbrev c31 : Jvm.Cond := Jvm.Cond.code ({ cls := "java/util/ArrayList$Itr", name := "checkForComodification", desc := "()V" } : Jvm.MethodName) jdk_49_method_6_code (1 : Nat) (Option.none : Option Jvm.ClassFile.FieldType)
theorem w_c31 : c31.before args0 about1 = true := code_word (m := ⟨19, 3⟩) (meth := k19m3) (c := k19c3) (by decide +kernel) rfl rfl rfl (by decide +kernel)
abbrev c32 : Jvm.Cond := Jvm.Cond.code ({ cls := "com/example/bidfold/bidfold/solve/CuttingPlaneMaster", name := "solve", desc := "()V" } : Jvm.MethodName) prog_26_method_3_code (8 : Nat) (Option.none : Option Jvm.ClassFile.FieldType)
theorem w_c32 : c32.before args0 about1 = true := code_word (m := ⟨2, 2⟩) (meth := k2m2) (c := k2c2) (by decide +kernel) rfl rfl rfl (by decide +kernel)
abbrev c33 : Jvm.Cond := Jvm.Cond.code ({ cls := "com/example/bidfold/bidfold/solve/CuttingPlaneMaster", name := "duals", desc := "()[D" } : Jvm.MethodName) prog_26_method_18_code (7 : Nat) (Option.some (Jvm.ClassFile.FieldType.array Jvm.ClassFile.FieldType.double))
theorem w_c33 : c33.before args0 about1 = true := code_word (m := ⟨2, 13⟩) (meth := k2m13) (c := k2c13) (by decide +kernel) rfl rfl rfl (by decide +kernel)
abbrev c34 : Jvm.Cond := Jvm.Cond.code ({ cls := "com/example/bidfold/bidfold/solve/CuttingPlaneMaster", name := "entering", desc := "(Z)I" } : Jvm.MethodName) prog_26_method_6_code (9 : Nat) (Option.some Jvm.ClassFile.FieldType.int)
theorem w_c34 : c34.before args0 about1 = true := code_word (m := ⟨2, 4⟩) (meth := k2m4) (c := k2c4) (by decide +kernel) rfl rfl rfl (by decide +kernel)
abbrev c35 : Jvm.Cond := Jvm.Cond.code ({ cls := "com/example/bidfold/bidfold/solve/CuttingPlaneMaster", name := "isBasic", desc := "(I)Z" } : Jvm.MethodName) prog_26_method_13_code (2 : Nat) (Option.some Jvm.ClassFile.FieldType.boolean)
theorem w_c35 : c35.before args0 about1 = true := code_word (m := ⟨2, 10⟩) (meth := k2m10) (c := k2c10) (by decide +kernel) rfl rfl rfl (by decide +kernel)
abbrev c36 : Jvm.Cond := Jvm.Cond.code ({ cls := "com/example/bidfold/bidfold/solve/CuttingPlaneMaster", name := "isBound", desc := "(I)Z" } : Jvm.MethodName) prog_26_method_8_code (2 : Nat) (Option.some Jvm.ClassFile.FieldType.boolean)
theorem w_c36 : c36.before args0 about1 = true := code_word (m := ⟨2, 6⟩) (meth := k2m6) (c := k2c6) (by decide +kernel) rfl rfl rfl (by decide +kernel)
abbrev c37 : Jvm.Cond := Jvm.Cond.code ({ cls := "com/example/bidfold/bidfold/solve/CuttingPlaneMaster", name := "denseOf", desc := "(I)I" } : Jvm.MethodName) prog_26_method_11_code (2 : Nat) (Option.some Jvm.ClassFile.FieldType.int)
theorem w_c37 : c37.before args0 about1 = true := code_word (m := ⟨2, 9⟩) (meth := k2m9) (c := k2c9) (by decide +kernel) rfl rfl rfl (by decide +kernel)
abbrev c38 : Jvm.Cond := Jvm.Cond.code ({ cls := "com/example/bidfold/bidfold/solve/CuttingPlaneMaster", name := "reducedCost", desc := "(I)D" } : Jvm.MethodName) prog_26_method_17_code (15 : Nat) (Option.some Jvm.ClassFile.FieldType.double)
theorem w_c38 : c38.before args0 about1 = true := code_word (m := ⟨2, 12⟩) (meth := k2m12) (c := k2c12) (by decide +kernel) rfl rfl rfl (by decide +kernel)
abbrev c39 : Jvm.Cond := Jvm.Cond.code ({ cls := "com/example/bidfold/bidfold/solve/CuttingPlaneMaster", name := "coordinateOf", desc := "(I)I" } : Jvm.MethodName) prog_26_method_9_code (2 : Nat) (Option.some Jvm.ClassFile.FieldType.int)
theorem w_c39 : c39.before args0 about1 = true := code_word (m := ⟨2, 7⟩) (meth := k2m7) (c := k2c7) (by decide +kernel) rfl rfl rfl (by decide +kernel)
abbrev c40 : Jvm.Cond := Jvm.Cond.code ({ cls := "com/example/bidfold/bidfold/solve/CuttingPlaneMaster", name := "sideOf", desc := "(I)I" } : Jvm.MethodName) prog_26_method_10_code (2 : Nat) (Option.some Jvm.ClassFile.FieldType.int)
theorem w_c40 : c40.before args0 about1 = true := code_word (m := ⟨2, 8⟩) (meth := k2m8) (c := k2c8) (by decide +kernel) rfl rfl rfl (by decide +kernel)
abbrev c41 : Jvm.Cond := Jvm.Cond.code ({ cls := "com/example/bidfold/bidfold/solve/CuttingPlaneMaster", name := "bound", desc := "()D" } : Jvm.MethodName) prog_26_method_4_code (1 : Nat) (Option.some Jvm.ClassFile.FieldType.double)
theorem w_c41 : c41.before args0 about1 = true := code_word (m := ⟨2, 3⟩) (meth := k2m3) (c := k2c3) (by decide +kernel) rfl rfl rfl (by decide +kernel)
abbrev c42 : Jvm.Cond := Jvm.Cond.code ({ cls := "com/example/bidfold/bidfold/solve/CuttingPlaneMaster$Dense", name := "countAtOne", desc := "(II)V" } : Jvm.MethodName) prog_27_method_2_code (3 : Nat) (Option.none : Option Jvm.ClassFile.FieldType)
theorem w_c42 : c42.before args0 about1 = true := code_word (m := ⟨13, 1⟩) (meth := k13m1) (c := k13c1) (by decide +kernel) rfl rfl rfl (by decide +kernel)
abbrev c43 : Jvm.Cond := Jvm.Cond.code ({ cls := "com/example/bidfold/bidfold/solve/CuttingPlaneMaster", name := "enter", desc := "(IZ)D" } : Jvm.MethodName) prog_26_method_7_code (13 : Nat) (Option.some Jvm.ClassFile.FieldType.double)
theorem w_c43 : c43.before args0 about1 = true := code_word (m := ⟨2, 5⟩) (meth := k2m5) (c := k2c5) (by decide +kernel) rfl rfl rfl (by decide +kernel)
abbrev c44 : Jvm.Cond := Jvm.Cond.code ({ cls := "com/example/bidfold/bidfold/solve/CuttingPlaneMaster", name := "direction", desc := "(I)Lcom/example/bidfold/bidfold/solve/CuttingPlaneMaster$Direction;" } : Jvm.MethodName) prog_26_method_19_code (10 : Nat) (Option.some (Jvm.ClassFile.FieldType.object "com/example/bidfold/bidfold/solve/CuttingPlaneMaster$Direction"))
theorem w_c44 : c44.before args0 about1 = true := code_word (m := ⟨2, 14⟩) (meth := k2m14) (c := k2c14) (by decide +kernel) rfl rfl rfl (by decide +kernel)
abbrev c45 : Jvm.Cond := Jvm.Cond.code ({ cls := "com/example/bidfold/bidfold/solve/CuttingPlaneMaster$Direction", name := "<init>", desc := "([D[D)V" } : Jvm.MethodName) prog_28_method_1_code (3 : Nat) (Option.none : Option Jvm.ClassFile.FieldType)
theorem w_c45 : c45.before args0 about1 = true := code_word (m := ⟨21, 0⟩) (meth := k21m0) (c := k21c0) (by decide +kernel) rfl rfl rfl (by decide +kernel)
abbrev c46 : Jvm.Cond := Jvm.Cond.code ({ cls := "java/lang/Record", name := "<init>", desc := "()V" } : Jvm.MethodName) jdk_30_method_1_code (1 : Nat) (Option.none : Option Jvm.ClassFile.FieldType)
theorem w_c46 : c46.before args0 about1 = true := code_word (m := ⟨20, 0⟩) (meth := k20m0) (c := k20c0) (by decide +kernel) rfl rfl rfl (by decide +kernel)
abbrev c47 : Jvm.Cond := Jvm.Cond.code ({ cls := "com/example/bidfold/bidfold/solve/CuttingPlaneMaster$Direction", name := "at", desc := "(I)D" } : Jvm.MethodName) prog_28_method_2_code (2 : Nat) (Option.some Jvm.ClassFile.FieldType.double)
theorem w_c47 : c47.before args0 about1 = true := code_word (m := ⟨21, 1⟩) (meth := k21m1) (c := k21c1) (by decide +kernel) rfl rfl rfl (by decide +kernel)
abbrev c48 : Jvm.Cond := Jvm.Cond.code ({ cls := "com/example/bidfold/bidfold/solve/CuttingPlaneMaster", name := "valueAt", desc := "(I)D" } : Jvm.MethodName) prog_26_method_15_code (3 : Nat) (Option.some Jvm.ClassFile.FieldType.double)
theorem w_c48 : c48.before args0 about1 = true := code_word (m := ⟨2, 11⟩) (meth := k2m11) (c := k2c11) (by decide +kernel) rfl rfl rfl (by decide +kernel)
abbrev c49 : Jvm.Cond := Jvm.Cond.code ({ cls := "com/example/bidfold/bidfold/solve/CuttingPlaneMaster", name := "pivot", desc := "(IILcom/example/bidfold/bidfold/solve/CuttingPlaneMaster$Direction;D)V" } : Jvm.MethodName) prog_26_method_22_code (11 : Nat) (Option.none : Option Jvm.ClassFile.FieldType)
theorem w_c49 : c49.before args0 about1 = true := code_word (m := ⟨2, 17⟩) (meth := k2m17) (c := k2c17) (by decide +kernel) rfl rfl rfl (by decide +kernel)
abbrev c50 : Jvm.Cond := Jvm.Cond.code ({ cls := "com/example/bidfold/bidfold/solve/CuttingPlaneMaster$Direction", name := "kernel", desc := "()[D" } : Jvm.MethodName) prog_28_method_6_code (1 : Nat) (Option.some (Jvm.ClassFile.FieldType.array Jvm.ClassFile.FieldType.double))
theorem w_c50 : c50.before args0 about1 = true := code_word (m := ⟨21, 2⟩) (meth := k21m2) (c := k21c2) (by decide +kernel) rfl rfl rfl (by decide +kernel)
abbrev c51 : Jvm.Cond := Jvm.Cond.code ({ cls := "com/example/bidfold/bidfold/solve/CuttingPlaneMaster$Direction", name := "bounds", desc := "()[D" } : Jvm.MethodName) prog_28_method_7_code (1 : Nat) (Option.some (Jvm.ClassFile.FieldType.array Jvm.ClassFile.FieldType.double))
theorem w_c51 : c51.before args0 about1 = true := code_word (m := ⟨21, 3⟩) (meth := k21m3) (c := k21c3) (by decide +kernel) rfl rfl rfl (by decide +kernel)
abbrev c52 : Jvm.Cond := Jvm.Cond.code ({ cls := "com/example/bidfold/bidfold/solve/CuttingPlaneMaster", name := "growKernel", desc := "(II[DDD)V" } : Jvm.MethodName) prog_26_method_24_code (13 : Nat) (Option.none : Option Jvm.ClassFile.FieldType)
theorem w_c52 : c52.before args0 about1 = true := code_word (m := ⟨2, 18⟩) (meth := k2m18) (c := k2c18) (by decide +kernel) rfl rfl rfl (by decide +kernel)
abbrev c53 : Jvm.Cond := Jvm.Cond.code ({ cls := "com/example/bidfold/bidfold/solve/CuttingPlaneMaster", name := "timesInverse", desc := "(I)[D" } : Jvm.MethodName) prog_26_method_27_code (8 : Nat) (Option.some (Jvm.ClassFile.FieldType.array Jvm.ClassFile.FieldType.double))
theorem w_c53 : c53.before args0 about1 = true := code_word (m := ⟨2, 19⟩) (meth := k2m19) (c := k2c19) (by decide +kernel) rfl rfl rfl (by decide +kernel)
abbrev c54 : Jvm.Cond := Jvm.Cond.code ({ cls := "com/example/bidfold/bidfold/solve/CuttingPlaneMaster", name := "append", desc := "([II)[I" } : Jvm.MethodName) prog_26_method_31_code (3 : Nat) (Option.some (Jvm.ClassFile.FieldType.array Jvm.ClassFile.FieldType.int))
theorem w_c54 : c54.before args0 about1 = true := code_word (m := ⟨2, 23⟩) (meth := k2m23) (c := k2c23) (by decide +kernel) rfl rfl rfl (by decide +kernel)
def codes1 : List Jvm.Cond := [c0, c1, c2, c3, c4, c5, c6, c7, c8, c9, c10, c11, c12, c13, c14, c15, c16, c17, c18, c19, c20, c21, c22, c23, c24, c25, c26, c27, c28, c29, c30, c31, c32, c33, c34, c35, c36, c37, c38, c39, c40, c41, c42, c43, c44, c45, c46, c47, c48, c49, c50, c51, c52, c53, c54]
theorem codes_eq : words1.filter isCode = codes1 := rfl
theorem w_codes : ∀ c ∈ words1.filter isCode, c.before args0 about1 = true := by
  rw [codes_eq]
  intro c hc
  simp only [codes1, List.mem_cons, List.not_mem_nil, or_false] at hc
  rcases hc with rfl | rfl | rfl | rfl | rfl | rfl | rfl | rfl | rfl | rfl | rfl | rfl | rfl | rfl | rfl | rfl | rfl | rfl | rfl | rfl | rfl | rfl | rfl | rfl | rfl | rfl | rfl | rfl | rfl | rfl | rfl | rfl | rfl | rfl | rfl | rfl | rfl | rfl | rfl | rfl | rfl | rfl | rfl | rfl | rfl | rfl | rfl | rfl | rfl | rfl | rfl | rfl | rfl | rfl | rfl
  · exact w_c0
  · exact w_c1
  · exact w_c2
  · exact w_c3
  · exact w_c4
  · exact w_c5
  · exact w_c6
  · exact w_c7
  · exact w_c8
  · exact w_c9
  · exact w_c10
  · exact w_c11
  · exact w_c12
  · exact w_c13
  · exact w_c14
  · exact w_c15
  · exact w_c16
  · exact w_c17
  · exact w_c18
  · exact w_c19
  · exact w_c20
  · exact w_c21
  · exact w_c22
  · exact w_c23
  · exact w_c24
  · exact w_c25
  · exact w_c26
  · exact w_c27
  · exact w_c28
  · exact w_c29
  · exact w_c30
  · exact w_c31
  · exact w_c32
  · exact w_c33
  · exact w_c34
  · exact w_c35
  · exact w_c36
  · exact w_c37
  · exact w_c38
  · exact w_c39
  · exact w_c40
  · exact w_c41
  · exact w_c42
  · exact w_c43
  · exact w_c44
  · exact w_c45
  · exact w_c46
  · exact w_c47
  · exact w_c48
  · exact w_c49
  · exact w_c50
  · exact w_c51
  · exact w_c52
  · exact w_c53
  · exact w_c54
theorem w_t1 : (words1.take 24).all (fun c => isCode c || c.before args0 about1) = true := by decide +kernel
theorem w_t2 : ((words1.drop 24).take 24).all (fun c => isCode c || c.before args0 about1) = true := by decide +kernel
theorem w_t3 : (((words1.drop 24).drop 24).take 24).all (fun c => isCode c || c.before args0 about1) = true := by decide +kernel
theorem w_t4 : ((((words1.drop 24).drop 24).drop 24).take 24).all (fun c => isCode c || c.before args0 about1) = true := by decide +kernel
theorem w_t5 : (((((words1.drop 24).drop 24).drop 24).drop 24).take 24).all (fun c => isCode c || c.before args0 about1) = true := by decide +kernel
theorem w_t6 : ((((((words1.drop 24).drop 24).drop 24).drop 24).drop 24).take 24).all (fun c => isCode c || c.before args0 about1) = true := by decide +kernel
theorem w_t7 : (((((((words1.drop 24).drop 24).drop 24).drop 24).drop 24).drop 24).take 24).all (fun c => isCode c || c.before args0 about1) = true := by decide +kernel
theorem w_t8 : ((((((((words1.drop 24).drop 24).drop 24).drop 24).drop 24).drop 24).drop 24).take 24).all (fun c => isCode c || c.before args0 about1) = true := by decide +kernel
theorem w_t9 : (((((((((words1.drop 24).drop 24).drop 24).drop 24).drop 24).drop 24).drop 24).drop 24).take 24).all (fun c => isCode c || c.before args0 about1) = true := by decide +kernel
theorem w_t10 : ((((((((((words1.drop 24).drop 24).drop 24).drop 24).drop 24).drop 24).drop 24).drop 24).drop 24).take 24).all (fun c => isCode c || c.before args0 about1) = true := by decide +kernel
theorem w_t11 : (((((((((((words1.drop 24).drop 24).drop 24).drop 24).drop 24).drop 24).drop 24).drop 24).drop 24).drop 24).take 24).all (fun c => isCode c || c.before args0 about1) = true := by decide +kernel
theorem w_t12 : ((((((((((((words1.drop 24).drop 24).drop 24).drop 24).drop 24).drop 24).drop 24).drop 24).drop 24).drop 24).drop 24).take 24).all (fun c => isCode c || c.before args0 about1) = true := by decide +kernel
theorem w_t13 : (((((((((((((words1.drop 24).drop 24).drop 24).drop 24).drop 24).drop 24).drop 24).drop 24).drop 24).drop 24).drop 24).drop 24).take 24).all (fun c => isCode c || c.before args0 about1) = true := by decide +kernel
theorem w_t14 : ((((((((((((((words1.drop 24).drop 24).drop 24).drop 24).drop 24).drop 24).drop 24).drop 24).drop 24).drop 24).drop 24).drop 24).drop 24).take 24).all (fun c => isCode c || c.before args0 about1) = true := by decide +kernel
theorem w_t15 : (((((((((((((((words1.drop 24).drop 24).drop 24).drop 24).drop 24).drop 24).drop 24).drop 24).drop 24).drop 24).drop 24).drop 24).drop 24).drop 24).take 24).all (fun c => isCode c || c.before args0 about1) = true := by decide +kernel
theorem w_t16 : (((((((((((((((words1.drop 24).drop 24).drop 24).drop 24).drop 24).drop 24).drop 24).drop 24).drop 24).drop 24).drop 24).drop 24).drop 24).drop 24).drop 24).all (fun c => isCode c || c.before args0 about1) = true := by decide +kernel
theorem w_tables : (allAtoms (Jvm.Cond.code x code maxLocals ret :: tables_1)).before args0 about1 = true := by
  rw [allAtoms_all]
  show words1.all (fun c => c.before args0 about1) = true
  refine all_split ?_ w_codes
  rw [← List.take_append_drop 24 words1, List.all_append, w_t1, ← List.take_append_drop 24 (words1.drop 24), List.all_append, w_t2, ← List.take_append_drop 24 ((words1.drop 24).drop 24), List.all_append, w_t3, ← List.take_append_drop 24 (((words1.drop 24).drop 24).drop 24), List.all_append, w_t4, ← List.take_append_drop 24 ((((words1.drop 24).drop 24).drop 24).drop 24), List.all_append, w_t5, ← List.take_append_drop 24 (((((words1.drop 24).drop 24).drop 24).drop 24).drop 24), List.all_append, w_t6, ← List.take_append_drop 24 ((((((words1.drop 24).drop 24).drop 24).drop 24).drop 24).drop 24), List.all_append, w_t7, ← List.take_append_drop 24 (((((((words1.drop 24).drop 24).drop 24).drop 24).drop 24).drop 24).drop 24), List.all_append, w_t8, ← List.take_append_drop 24 ((((((((words1.drop 24).drop 24).drop 24).drop 24).drop 24).drop 24).drop 24).drop 24), List.all_append, w_t9, ← List.take_append_drop 24 (((((((((words1.drop 24).drop 24).drop 24).drop 24).drop 24).drop 24).drop 24).drop 24).drop 24), List.all_append, w_t10, ← List.take_append_drop 24 ((((((((((words1.drop 24).drop 24).drop 24).drop 24).drop 24).drop 24).drop 24).drop 24).drop 24).drop 24), List.all_append, w_t11, ← List.take_append_drop 24 (((((((((((words1.drop 24).drop 24).drop 24).drop 24).drop 24).drop 24).drop 24).drop 24).drop 24).drop 24).drop 24), List.all_append, w_t12, ← List.take_append_drop 24 ((((((((((((words1.drop 24).drop 24).drop 24).drop 24).drop 24).drop 24).drop 24).drop 24).drop 24).drop 24).drop 24).drop 24), List.all_append, w_t13, ← List.take_append_drop 24 (((((((((((((words1.drop 24).drop 24).drop 24).drop 24).drop 24).drop 24).drop 24).drop 24).drop 24).drop 24).drop 24).drop 24).drop 24), List.all_append, w_t14, ← List.take_append_drop 24 ((((((((((((((words1.drop 24).drop 24).drop 24).drop 24).drop 24).drop 24).drop 24).drop 24).drop 24).drop 24).drop 24).drop 24).drop 24).drop 24), List.all_append, w_t15, w_t16]
  rfl
theorem w_rest : rest_1_c.before args0 about1 = true := by decide +kernel
theorem w_case : (Jvm.Cond.and given_1 narrow_1).before args0 about1 = true := by decide +kernel
theorem w_applies : (headSpec (Jvm.Cond.code x code maxLocals ret :: tables_1) room_1).applies x e0.platform about1 = true :=
  (Spec.applies_iff w_frames).mpr ⟨w_running, w_runnable, w_alone, w_named, w_hears, w_ripe, w_room, w_tables⟩
theorem atStart : AtStart classFile x code maxLocals ret World_1 tables_1 room_1 Calls_1 rest_1 Pre_1 launch0 p0 e0 about1 theMethod args0 below0 :=
  ⟨lists_1, trivial, launch0.admits_env _ _ _, launch0.least_env, fairChoices_fair.cas, fairChoices_fair.clock, w_frames, w_args, w_heap, w_applies, trivial, w_rest, w_case⟩
end start1
theorem witness_1 : WitnessClaimed_1 := ⟨start1.p0, start1.e0, start1.about1, start1.theMethod, start1.args0, start1.below0, start1.atStart⟩
end Jvm.Pilot.@@N@@
