import JvmDerived
import JvmDerived.Pilot.@@N@@Statement
import JvmDerived.Pilot.@@N@@Code
set_option linter.unusedVariables false
set_option linter.unusedSimpArgs false
namespace Jvm.RoadKit
open Sem ClassFile Op Lib Jvm.Stand Jvm.Free Jvm.LawKit
section New
variable {p : Program} {l : Launch} {e : Env} {R : Room} {s : State} {m : MethodId} {args : Array Value} {below : List Frame} {meth : Method} {c : Code} {T : State} {locs : List Loc} {cells slots : Nat}
theorem retI (X : Stand p l e R s m args below meth c T locs cells slots) (hx : p.tables.exec = Jvm.exec) {pc : Nat} {Ls : Array Slot} {z : Int32} {rest : List Value} (hret : meth.sig.returnType = some .int) (hd : decode c.code pc = .ok (.ireturn, 1)) {fs : List Frame}
    (hl : ∀ (f : JFrame) (acts : List Action), f.method = m → f.locked = none → f.entered = [] → (doReturn e (T.setTop f) acts (some (.int z))).1 = T.setFrames fs) : Steps p.tables e below (T.setTop (mkF m pc Ls (.int z :: rest))) (T.setFrames fs) :=
  retOut X hx hret rfl (Or.inl ⟨rfl, Or.inl rfl, z, rfl⟩) hd hl
end New
end Jvm.RoadKit
namespace Jvm.Pilot.@@N@@
open Jvm Jvm.ClassFile Sem Op Lib Jvm.Free Jvm.Stand Jvm.LawKit Jvm.RoadKit Bundle Jvm.Pilot.@@N@@.Jvm.D
theorem own_dloadN {tb : Tables} [Ours tb] {e : Env} {below : List Frame} {T target : State} {m : MethodId} {c : Code} {g : JFrame} (h : At T m c below) (hx : tb.exec = Jvm.exec) (hg : g.method = m) {k : Fin 4} {v : UInt64} (hd : decode c.code g.pc = .ok (.dload_n k, 1)) (hl : g.locals[k.val]? = some (.val (.double v)))
    (hr : Steps tb e below (T.setTop { g with pc := g.pc + 1, stack := .double v :: g.stack }) target) : Steps tb e below (T.setTop g) target := by
  subst hg
  jvm_step h [h.top, hx, hd, hl]
  exact hr
theorem own_dload {tb : Tables} [Ours tb] {e : Env} {below : List Frame} {T target : State} {m : MethodId} {c : Code} {g : JFrame} (h : At T m c below) (hx : tb.exec = Jvm.exec) (hg : g.method = m) {k : Nat} {v : UInt64} (hd : decode c.code g.pc = .ok (.dload k, 2)) (hl : g.locals[k]? = some (.val (.double v)))
    (hr : Steps tb e below (T.setTop { g with pc := g.pc + 2, stack := .double v :: g.stack }) target) : Steps tb e below (T.setTop g) target := by
  subst hg
  jvm_step h [h.top, hx, hd, hl]
  exact hr
theorem own_dstoreN {tb : Tables} [Ours tb] {e : Env} {below : List Frame} {T target : State} {m : MethodId} {c : Code} {g : JFrame} (h : At T m c below) (hx : tb.exec = Jvm.exec) (hg : g.method = m) {k : Fin 4} {x : UInt64} {rest : List Value} {l' : Array Slot} (hd : decode c.code g.pc = .ok (.dstore_n k, 1)) (hs : g.stack = .double x :: rest) (hl : storeLocals g.locals k.val (.double x) = some l')
    (hr : Steps tb e below (T.setTop { g with pc := g.pc + 1, stack := rest, locals := l' }) target) : Steps tb e below (T.setTop g) target := by
  subst hg
  jvm_step h [h.top, hx, hd, hs, hl]
  exact hr
theorem own_dstore {tb : Tables} [Ours tb] {e : Env} {below : List Frame} {T target : State} {m : MethodId} {c : Code} {g : JFrame} (h : At T m c below) (hx : tb.exec = Jvm.exec) (hg : g.method = m) {k : Nat} {x : UInt64} {rest : List Value} {l' : Array Slot} (hd : decode c.code g.pc = .ok (.dstore k, 2)) (hs : g.stack = .double x :: rest) (hl : storeLocals g.locals k (.double x) = some l')
    (hr : Steps tb e below (T.setTop { g with pc := g.pc + 2, stack := rest, locals := l' }) target) : Steps tb e below (T.setTop g) target := by
  subst hg
  jvm_step h [h.top, hx, hd, hs, hl]
  exact hr
theorem own_dconst0 {tb : Tables} [Ours tb] {e : Env} {below : List Frame} {T target : State} {m : MethodId} {c : Code} {g : JFrame} (h : At T m c below) (hx : tb.exec = Jvm.exec) (hg : g.method = m) (hd : decode c.code g.pc = .ok (.dconst 0, 1))
    (hr : Steps tb e below (T.setTop { g with pc := g.pc + 1, stack := .double FP.dconst0 :: g.stack }) target) : Steps tb e below (T.setTop g) target := by
  subst hg
  jvm_step h [h.top, hx, hd]
  exact hr
theorem own_dconst1 {tb : Tables} [Ours tb] {e : Env} {below : List Frame} {T target : State} {m : MethodId} {c : Code} {g : JFrame} (h : At T m c below) (hx : tb.exec = Jvm.exec) (hg : g.method = m) (hd : decode c.code g.pc = .ok (.dconst 1, 1))
    (hr : Steps tb e below (T.setTop { g with pc := g.pc + 1, stack := .double FP.dconst1 :: g.stack }) target) : Steps tb e below (T.setTop g) target := by
  subst hg
  jvm_step h [h.top, hx, hd]
  exact hr
theorem own_i2d {tb : Tables} [Ours tb] {e : Env} {below : List Frame} {T target : State} {m : MethodId} {c : Code} {g : JFrame} (h : At T m c below) (hx : tb.exec = Jvm.exec) (hg : g.method = m) {x : Int32} {rest : List Value} (hd : decode c.code g.pc = .ok (.i2d, 1)) (hs : g.stack = .int x :: rest)
    (hr : Steps tb e below (T.setTop { g with pc := g.pc + 1, stack := .double (FP.i2d x) :: rest }) target) : Steps tb e below (T.setTop g) target := by
  subst hg
  jvm_step h [h.top, hx, hd, hs]
  exact hr
theorem own_l2d {tb : Tables} [Ours tb] {e : Env} {below : List Frame} {T target : State} {m : MethodId} {c : Code} {g : JFrame} (h : At T m c below) (hx : tb.exec = Jvm.exec) (hg : g.method = m) {x : Int64} {rest : List Value} (hd : decode c.code g.pc = .ok (.l2d, 1)) (hs : g.stack = .long x :: rest)
    (hr : Steps tb e below (T.setTop { g with pc := g.pc + 1, stack := .double (FP.l2d x) :: rest }) target) : Steps tb e below (T.setTop g) target := by
  subst hg
  jvm_step h [h.top, hx, hd, hs]
  exact hr
theorem own_d2l {tb : Tables} [Ours tb] {e : Env} {below : List Frame} {T target : State} {m : MethodId} {c : Code} {g : JFrame} (h : At T m c below) (hx : tb.exec = Jvm.exec) (hg : g.method = m) {x : UInt64} {rest : List Value} (hd : decode c.code g.pc = .ok (.d2l, 1)) (hs : g.stack = .double x :: rest)
    (hr : Steps tb e below (T.setTop { g with pc := g.pc + 1, stack := .long (FP.d2l x) :: rest }) target) : Steps tb e below (T.setTop g) target := by
  subst hg
  jvm_step h [h.top, hx, hd, hs]
  exact hr
theorem own_d2i {tb : Tables} [Ours tb] {e : Env} {below : List Frame} {T target : State} {m : MethodId} {c : Code} {g : JFrame} (h : At T m c below) (hx : tb.exec = Jvm.exec) (hg : g.method = m) {x : UInt64} {rest : List Value} (hd : decode c.code g.pc = .ok (.d2i, 1)) (hs : g.stack = .double x :: rest)
    (hr : Steps tb e below (T.setTop { g with pc := g.pc + 1, stack := .int (FP.d2i x) :: rest }) target) : Steps tb e below (T.setTop g) target := by
  subst hg
  jvm_step h [h.top, hx, hd, hs]
  exact hr
theorem own_dneg {tb : Tables} [Ours tb] {e : Env} {below : List Frame} {T target : State} {m : MethodId} {c : Code} {g : JFrame} (h : At T m c below) (hx : tb.exec = Jvm.exec) (hg : g.method = m) {x : UInt64} {rest : List Value} (hd : decode c.code g.pc = .ok (.dneg, 1)) (hs : g.stack = .double x :: rest)
    (hr : Steps tb e below (T.setTop { g with pc := g.pc + 1, stack := .double (FP.dneg x) :: rest }) target) : Steps tb e below (T.setTop g) target := by
  subst hg
  jvm_step h [h.top, hx, hd, hs]
  exact hr
theorem own_dcmp {tb : Tables} [Ours tb] {e : Env} {below : List Frame} {T target : State} {m : MethodId} {c : Code} {g : JFrame} (h : At T m c below) (hx : tb.exec = Jvm.exec) (hg : g.method = m) {op : CmpOp} {x y : UInt64} {rest : List Value} (hd : decode c.code g.pc = .ok (.dcmp op, 1)) (hs : g.stack = .double y :: .double x :: rest)
    (hr : Steps tb e below (T.setTop { g with pc := g.pc + 1, stack := .int (cmpValue (FP.dcmp x y) op) :: rest }) target) : Steps tb e below (T.setTop g) target := by
  subst hg
  jvm_step h [h.top, hx, hd, hs]
  exact hr
theorem own_dadd {tb : Tables} [Ours tb] {e : Env} {below : List Frame} {T target : State} {m : MethodId} {c : Code} {g : JFrame} (h : At T m c below) (hx : tb.exec = Jvm.exec) (hg : g.method = m) {x y : UInt64} {rest : List Value} (hd : decode c.code g.pc = .ok (.dadd, 1)) (hs : g.stack = .double y :: .double x :: rest) (hn : Jvm.Free.Fl.NoNaN64 (FP.dadd x y))
    (hr : Steps tb e below (T.setTop { g with pc := g.pc + 1, stack := .double (FP.dadd x y) :: rest }) target) : Steps tb e below (T.setTop g) target := by
  obtain ⟨gm, gpc, gl, gs, glk, gen, gmr⟩ := g
  subst hg
  dsimp only at hs
  subst hs
  jvm_step h [hx, hd, Op.dadd.at_number h.top hn]
  exact hr
theorem own_dsub {tb : Tables} [Ours tb] {e : Env} {below : List Frame} {T target : State} {m : MethodId} {c : Code} {g : JFrame} (h : At T m c below) (hx : tb.exec = Jvm.exec) (hg : g.method = m) {x y : UInt64} {rest : List Value} (hd : decode c.code g.pc = .ok (.dsub, 1)) (hs : g.stack = .double y :: .double x :: rest) (hn : Jvm.Free.Fl.NoNaN64 (FP.dsub x y))
    (hr : Steps tb e below (T.setTop { g with pc := g.pc + 1, stack := .double (FP.dsub x y) :: rest }) target) : Steps tb e below (T.setTop g) target := by
  obtain ⟨gm, gpc, gl, gs, glk, gen, gmr⟩ := g
  subst hg
  dsimp only at hs
  subst hs
  jvm_step h [hx, hd, Op.dsub.at_number h.top hn]
  exact hr
theorem own_dmul {tb : Tables} [Ours tb] {e : Env} {below : List Frame} {T target : State} {m : MethodId} {c : Code} {g : JFrame} (h : At T m c below) (hx : tb.exec = Jvm.exec) (hg : g.method = m) {x y : UInt64} {rest : List Value} (hd : decode c.code g.pc = .ok (.dmul, 1)) (hs : g.stack = .double y :: .double x :: rest) (hn : Jvm.Free.Fl.NoNaN64 (FP.dmul x y))
    (hr : Steps tb e below (T.setTop { g with pc := g.pc + 1, stack := .double (FP.dmul x y) :: rest }) target) : Steps tb e below (T.setTop g) target := by
  obtain ⟨gm, gpc, gl, gs, glk, gen, gmr⟩ := g
  subst hg
  dsimp only at hs
  subst hs
  jvm_step h [hx, hd, Op.dmul.at_number h.top hn]
  exact hr
theorem own_ddiv {tb : Tables} [Ours tb] {e : Env} {below : List Frame} {T target : State} {m : MethodId} {c : Code} {g : JFrame} (h : At T m c below) (hx : tb.exec = Jvm.exec) (hg : g.method = m) {x y : UInt64} {rest : List Value} (hd : decode c.code g.pc = .ok (.ddiv, 1)) (hs : g.stack = .double y :: .double x :: rest) (hn : Jvm.Free.Fl.NoNaN64 (FP.ddiv x y))
    (hr : Steps tb e below (T.setTop { g with pc := g.pc + 1, stack := .double (FP.ddiv x y) :: rest }) target) : Steps tb e below (T.setTop g) target := by
  obtain ⟨gm, gpc, gl, gs, glk, gen, gmr⟩ := g
  subst hg
  dsimp only at hs
  subst hs
  jvm_step h [hx, hd, Op.ddiv.at_number h.top hn]
  exact hr
theorem own_dup2D {tb : Tables} [Ours tb] {e : Env} {below : List Frame} {T target : State} {m : MethodId} {c : Code} {g : JFrame} (h : At T m c below) (hx : tb.exec = Jvm.exec) (hg : g.method = m) {x : UInt64} {rest : List Value} (hd : decode c.code g.pc = .ok (.dup2, 1)) (hs : g.stack = .double x :: rest)
    (hr : Steps tb e below (T.setTop { g with pc := g.pc + 1, stack := .double x :: .double x :: rest }) target) : Steps tb e below (T.setTop g) target := by
  subst hg
  jvm_step h [h.top, hx, hd, hs, Value.category]
  exact hr
theorem own_retD {p : Program} {l : Launch} {e : Env} {R : Room} {s : State} {m : MethodId} {args : Array Value} {below : List Frame} {meth : Method} {c : Code} {T : State} {locs : List Loc} {cells slots : Nat} (Y : Stand p l e R s m args below meth c T locs cells slots) (hexec : p.tables.exec = Jvm.exec) {pc : Nat} {Ls : Array Slot} {w : UInt64} {rest : List Value} (hret : meth.sig.returnType = some .double)
    (hdg : decode c.code pc = .ok (.dreturn, 1)) {fs : List Frame} (hleave : ∀ (f : JFrame) (acts : List Action), f.method = m → f.locked = none → f.entered = [] → (doReturn e (T.setTop f) acts (some (.double w))).1 = T.setFrames fs) :
    Steps p.tables e below (T.setTop (mkF m pc Ls (.double w :: rest))) (T.setFrames fs) :=
  retOut Y hexec hret rfl (Or.inr (Or.inr (Or.inl ⟨rfl, rfl, w, rfl⟩))) hdg hleave
theorem own_stD {p : Program} {l : Launch} {e : Env} {R : Room} {s : State} {m : MethodId} {args : Array Value} {below : List Frame} {meth : Method} {c : Code} {T : State} {locs : List Loc} {cells slots : Nat} {Z : State} {h : Heap}
    (X : Stand p l e R s m args below meth c T locs cells slots) (hx : p.tables.exec = Jvm.exec) (hZ : Z.Warmed39 s.vm) (eT : T.heap = h) {a : Addr} {cl : Cell} (A : Arr Z h a cl .double) {j : Int32} {x : UInt64} (hj : ¬ (j < 0 ∨ cl.slots.size ≤ j.toNatClampNeg)) {g : JFrame} (hg : g.method = m) {rest : List Value} (hs : g.stack = .double x :: .int j :: .ref a :: rest) (hd : decode c.code g.pc = .ok (.dastore, 1)) :
    ∃ T' h', Stand p l e R s m args below meth c T' (locs ++ [⟨a, j.toNatClampNeg⟩]) cells slots ∧ T'.heap = h' ∧ Wr h h' a j.toNatClampNeg (.double x) ∧ ∀ target, Steps p.tables e below (T'.setTop { g with pc := g.pc + 1, stack := rest }) target → Steps p.tables e below (T.setTop g) target := by
  obtain ⟨X', st⟩ := X.dastore hx (by rw [eT]; exact A.1) (State.isArrayOf_alike hZ.alike A.2.1) A.2.2 hj hg hs hd
  exact ⟨_, _, X', rfl, ⟨cl, A.1, A.plain, Nat.lt_of_not_le fun q => hj (Or.inr q), by rw [← eT]; rfl⟩, st⟩
section OwnCalls
variable {p : Program} {l : Launch} {e : Env} {R : Room} {s : State} {m : MethodId} {args : Array Value} {below : List Frame} {meth : Method} {c : Code} {T : State} {locs : List Loc} {cells slots : Nat} {Z : State} {a0 : Array Value} {h : Heap}
theorem own_virt (X : Stand p l e R s m args below meth c T locs cells slots) (hx : p.tables.exec = Jvm.exec) (hZ : Z.Warmed39 s.vm) {own C : String} {index : Nat} {y : MethodName} (hown : s.vm.findClass own = some m.cls)
    (w1 : (Jvm.Cond.methodLink own index y).before a0 Z = true) (w2 : (Jvm.Cond.declares y).before a0 Z = true) (w3 : (Jvm.Cond.selects C y y).before a0 Z = true) (w4 : (Jvm.Cond.instanceMethod y).before a0 Z = true)
    (hy : y.cls ≠ "java/lang/invoke/MethodHandle" ∧ y.cls ≠ "java/lang/invoke/VarHandle") {bytes : ByteArray} {maxL : Nat} {ret : Option FieldType} {rm : Room} {as' : Array Value} {Q : Option Value → Heap → List Loc → Prop}
    (hM : MetFree l y (head1 [Jvm.Cond.code y bytes maxL ret] rm) (fun α U => α = as' ∧ Z.Warmed39 U.vm ∧ U.heap = h) (fun _ _ _ _ _ => True) (fun _ U o U' => ∃ v L, o = .returned v ∧ Q v U'.heap L ∧ FrameEnd U o U' L rm.cells rm.slots))
    (wc : (Jvm.Cond.code y bytes maxL ret).before a0 Z = true) (wz : (Jvm.Cond.initialized y.cls).before a0 Z = true) (W : Nat) (hf : rm.frames + 1 ≤ R.frames) (hl : W + (maxL + 11) + rm.locals ≤ R.locals)
    {b : Addr} (E : Exa Z h b C) (eT : T.heap = h) (g : JFrame) (hg : g.method = m) (hsize : g.locals.size = c.maxLocals) (argsL rest : List Value) (has : (.ref b :: argsL).toArray = as')
    (hlen : ∀ sig, parseMethodDescriptor y.desc = some sig → argsL.length = sig.parameters.length) (hstack : g.stack = argsL.reverse ++ .ref b :: rest) (hW : 2 * g.monitorRoom + (rest.map fun v => v.category).sum ≤ W)
    (hdg : decode c.code g.pc = .ok (.invokevirtual index, 3)) (hc : cells + rm.cells ≤ R.cells) (hs : slots + rm.slots ≤ R.slots) :
    ∃ (v : Option Value) (T' : State) (L : List Loc), Stand p l e R s m args below meth c T' (locs ++ L) (cells + rm.cells) (slots + rm.slots) ∧ Q v T'.heap L ∧
      ∀ τ, Steps p.tables e below (T'.setTop { g with pc := g.pc + 3, stack := v.toList ++ rest }) τ → Steps p.tables e below (T.setTop g) τ := by
  obtain ⟨cq, kq, qa, qb, qc⟩ := isOf hZ eT E
  obtain ⟨v, _, ⟨T1, L1, k1, n1⟩, -, X1, ⟨Lc, hQ, l1, y1, z1⟩, st⟩ := X.virtualBack hx (y := y) (z := y) hown (mvT hZ w1) (mvT hZ w2) (notFace_of_selects (args := #[]) (mvT hZ w3)) (mvT hZ w3) (mvT hZ w4) hy (backOf (W := W) hM hZ wc wz hf hl) qa qc (g := g) hg hsize (Steps.refl _) (argsL := argsL) (rest := rest) hlen hstack hW hdg (fun _ _ => ⟨has, eT, hc, hs⟩)
  dsimp only [Pt.U, Pt.locs, Pt.cells, Pt.slots] at X1 l1 y1 z1 st hQ
  subst l1 y1 z1
  exact ⟨v, T1, Lc, X1, hQ, fun τ kt => st.trans kt⟩
theorem own_spec (X : Stand p l e R s m args below meth c T locs cells slots) (hx : p.tables.exec = Jvm.exec) (hZ : Z.Warmed39 s.vm) {own : String} {index : Nat} {y : MethodName} (hy1 : y.name = "<init>") (hown : s.vm.findClass own = some m.cls)
    (w1 : (Jvm.Cond.methodLink own index y).before a0 Z = true) (w4 : (Jvm.Cond.instanceMethod y).before a0 Z = true)
    (hy : y.cls ≠ "java/lang/invoke/MethodHandle" ∧ y.cls ≠ "java/lang/invoke/VarHandle") {bytes : ByteArray} {maxL : Nat} {rm : Room} {as' : Array Value} {Q : Option Value → Heap → List Loc → Prop}
    (hM : MetFree l y (head1 [Jvm.Cond.code y bytes maxL none] rm) (fun α U => α = as' ∧ Z.Warmed39 U.vm ∧ U.heap = h) (fun _ _ _ _ _ => True) (fun _ U o U' => ∃ v L, o = .returned v ∧ Q v U'.heap L ∧ FrameEnd U o U' L rm.cells rm.slots))
    (wc : (Jvm.Cond.code y bytes maxL none).before a0 Z = true) (wz : (Jvm.Cond.initialized y.cls).before a0 Z = true) (W : Nat) (hf : rm.frames + 1 ≤ R.frames) (hl : W + (maxL + 11) + rm.locals ≤ R.locals)
    {b : Addr} (eT : T.heap = h) (g : JFrame) (hg : g.method = m) (hsize : g.locals.size = c.maxLocals) (argsL rest : List Value) (has : (.ref b :: argsL).toArray = as')
    (hlen : ∀ sig, parseMethodDescriptor y.desc = some sig → argsL.length = sig.parameters.length) (hstack : g.stack = argsL.reverse ++ .ref b :: rest) (hW : 2 * g.monitorRoom + (rest.map fun v => v.category).sum ≤ W)
    (hdg : decode c.code g.pc = .ok (.invokespecial index, 3)) (hc : cells + rm.cells ≤ R.cells) (hs : slots + rm.slots ≤ R.slots) :
    ∃ (v : Option Value) (T' : State) (L : List Loc), Stand p l e R s m args below meth c T' (locs ++ L) (cells + rm.cells) (slots + rm.slots) ∧ Q v T'.heap L ∧
      ∀ τ, Steps p.tables e below (T'.setTop { g with pc := g.pc + 3, stack := v.toList ++ rest }) τ → Steps p.tables e below (T.setTop g) τ := by
  obtain ⟨v, _, ⟨T1, L1, k1, n1⟩, -, X1, ⟨Lc, hQ, l1, y1, z1⟩, st⟩ := X.specialBack hx (y := y) hy1 hown (mvT hZ w1) (mvT hZ w4) (mvT hZ wc) hy (backOf (W := W) hM hZ wc wz hf hl) (g := g) hg hsize (Steps.refl _) (a := b) (argsL := argsL) (rest := rest) hlen hstack hW hdg (fun _ _ => ⟨has, eT, hc, hs⟩)
  dsimp only [Pt.U, Pt.locs, Pt.cells, Pt.slots] at X1 l1 y1 z1 st hQ
  subst l1 y1 z1
  exact ⟨v, T1, Lc, X1, hQ, fun τ kt => st.trans kt⟩
theorem own_stat (X : Stand p l e R s m args below meth c T locs cells slots) (hx : p.tables.exec = Jvm.exec) (hZ : Z.Warmed39 s.vm) {own : String} {index : Nat} {y : MethodName} (hown : s.vm.findClass own = some m.cls)
    (w1 : (Jvm.Cond.methodLink own index y).before a0 Z = true) (w2 : (Jvm.Cond.static y).before a0 Z = true)
    (hy : y.cls ≠ "java/lang/invoke/MethodHandle" ∧ y.cls ≠ "java/lang/invoke/VarHandle") {bytes : ByteArray} {maxL : Nat} {ret : Option FieldType} {rm : Room} {as' : Array Value} {Q : Option Value → Heap → List Loc → Prop}
    (hM : MetFree l y (head1 [Jvm.Cond.code y bytes maxL ret] rm) (fun α U => α = as' ∧ Z.Warmed39 U.vm ∧ U.heap = h) (fun _ _ _ _ _ => True) (fun _ U o U' => ∃ v L, o = .returned v ∧ Q v U'.heap L ∧ FrameEnd U o U' L rm.cells rm.slots))
    (wc : (Jvm.Cond.code y bytes maxL ret).before a0 Z = true) (wz : (Jvm.Cond.initialized y.cls).before a0 Z = true) (W : Nat) (hf : rm.frames + 1 ≤ R.frames) (hl : W + (maxL + 11) + rm.locals ≤ R.locals)
    (eT : T.heap = h) (g : JFrame) (hg : g.method = m) (hsize : g.locals.size = c.maxLocals) (argsL rest : List Value) (has : argsL.toArray = as')
    (hlen : ∀ sig, parseMethodDescriptor y.desc = some sig → argsL.length = sig.parameters.length) (hstack : g.stack = argsL.reverse ++ rest) (hW : 2 * g.monitorRoom + (rest.map fun v => v.category).sum ≤ W)
    (hdg : decode c.code g.pc = .ok (.invokestatic index, 3)) (hc : cells + rm.cells ≤ R.cells) (hs : slots + rm.slots ≤ R.slots) :
    ∃ (v : Option Value) (T' : State) (L : List Loc), Stand p l e R s m args below meth c T' (locs ++ L) (cells + rm.cells) (slots + rm.slots) ∧ Q v T'.heap L ∧
      ∀ τ, Steps p.tables e below (T'.setTop { g with pc := g.pc + 3, stack := v.toList ++ rest }) τ → Steps p.tables e below (T.setTop g) τ := by
  obtain ⟨v, _, ⟨T1, L1, k1, n1⟩, -, X1, ⟨Lc, hQ, l1, y1, z1⟩, st⟩ := Jvm.LawKit.callS X hx (y := y) hown (mvT hZ w1) (mvT hZ w2) (mvT hZ wz) (mvT hZ wc) hy (backOf (W := W) hM hZ wc wz hf hl) (g := g) hg hsize (argsL := argsL) (rest := rest) hlen hstack hW hdg (fun _ _ => ⟨has, eT, hc, hs⟩)
  dsimp only [Pt.U, Pt.locs, Pt.cells, Pt.slots] at X1 l1 y1 z1 st hQ
  subst l1 y1 z1
  exact ⟨v, T1, Lc, X1, hQ, st⟩
end OwnCalls
section OwnDy
open Jvm.FP Jvm.FP.Core
/-- the datum's exponent moved by j -/
def own_sh (j : Int) : Datum → Datum
  | .fin s c q => .fin s c (q + j)
  | d => d
/-- the datum is n * 2^k -/
def own_Dy (n k : Int) (d : Datum) : Prop := Whole n (own_sh (-k) d)
theorem own_dy0 {n : Int} {d : Datum} : own_Dy n 0 d ↔ Whole n d := by
  cases d with
  | nan => exact Iff.rfl
  | inf => exact Iff.rfl
  | fin s c q =>
    show Whole n (.fin s c (q + -0)) ↔ _
    rw [show q + -0 = q by omega]
theorem own_sh_sum (j : Int) (x y : Datum) : exactSum (own_sh j x) (own_sh j y) = own_sh j (exactSum x y) := by
  cases x <;> cases y <;> try rfl
  · simp only [own_sh, exactSum]; split <;> rfl
  · rename_i s c q t d r
    have hm : min (q + j) (r + j) = min q r + j := by omega
    have hu : sumUnits s c (q + j) t d (r + j) (min q r + j) = sumUnits s c q t d r (min q r) := by
      unfold sumUnits inUnits
      rw [show q + j - (min q r + j) = q - min q r by omega, show r + j - (min q r + j) = r - min q r by omega]
    simp only [own_sh, exactSum, hm, hu]
theorem own_sh_prod (i j : Int) (x y : Datum) : exactProduct (own_sh i x) (own_sh j y) = own_sh (i + j) (exactProduct x y) := by
  cases x <;> cases y <;> try rfl
  · simp only [own_sh, exactProduct]; split <;> rfl
  · simp only [own_sh, exactProduct]; split <;> rfl
  · simp only [own_sh, exactProduct, Datum.fin.injEq, true_and]; omega
theorem own_sh_order (j : Int) (x y : Datum) : order (own_sh j x) (own_sh j y) = order x y := by
  cases x <;> cases y <;> try rfl
  rename_i s c q t d r
  simp only [own_sh, order]
  unfold inUnits
  rw [show q + j - min (q + j) (r + j) = q - min q r by omega, show r + j - min (q + j) (r + j) = r - min q r by omega]
theorem own_sh_neg (j : Int) (x : Datum) : negate (own_sh j x) = own_sh j (negate x) := by cases x <;> rfl
theorem own_dy_sum {n m k : Int} {x y : Datum} (hx : own_Dy n k x) (hy : own_Dy m k y) : own_Dy (n + m) k (exactSum x y) := by
  unfold own_Dy; rw [← own_sh_sum]; exact whole_sum hx hy
theorem own_dy_neg {n k : Int} {x : Datum} (hx : own_Dy n k x) : own_Dy (-n) k (negate x) := by
  unfold own_Dy; rw [← own_sh_neg]; exact whole_negate hx
theorem own_dy_prod {n m k l : Int} {x y : Datum} (hx : own_Dy n k x) (hy : own_Dy m l y) : own_Dy (n * m) (k + l) (exactProduct x y) := by
  unfold own_Dy; rw [show -(k + l) = -k + -l by omega, ← own_sh_prod]; exact whole_product hx hy
theorem own_dy_order {n m k : Int} {x y : Datum} (hx : own_Dy n k x) (hy : own_Dy m k y) : order x y = some (compare n m) := by
  rw [← own_sh_order (-k)]; exact order_whole hx hy
theorem own_dy_fin {n k : Int} {x : Datum} (h : own_Dy n k x) : ∃ s c q, x = .fin s c q := by
  cases x with
  | nan => exact h.elim
  | inf => exact h.elim
  | fin s c q => exact ⟨s, c, q, rfl⟩
theorem own_dy_abs {n k q : Int} {s : Bool} {c : Nat} (h : own_Dy n k (.fin s c q)) : c * 2 ^ (q - k).toNat = n.natAbs * 2 ^ (k - q).toNat := by
  have := whole_natAbs (q := q + -k) h
  rw [show q + -k = q - k by omega, show -(q - k) = k - q by omega] at this
  exact this
theorem own_dy_sign {n k q : Int} {s : Bool} {c : Nat} (h : own_Dy n k (.fin s c q)) (hn : n ≠ 0) : s = decide (n < 0) := whole_sign (q := q + -k) h hn
theorem own_dy_mk {n k q : Int} {s : Bool} {c : Nat} (h : c * 2 ^ (q - k).toNat = n.natAbs * 2 ^ (k - q).toNat) (hs : n ≠ 0 → s = decide (n < 0)) : own_Dy n k (.fin s c q) := by
  show signed s (c * 2 ^ (q + -k).toNat) = n * ((2 ^ (-(q + -k)).toNat : Nat) : Int)
  rw [show q + -k = q - k by omega, show -(q - k) = k - q by omega, h]
  by_cases h0 : n = 0
  · subst h0; simp [signed]
  · rw [hs h0, signed_mul]
    congr 1
    unfold signed
    by_cases h : n < 0 <;> simp [h] <;> omega
/-- the same number in smaller units -/
theorem own_dy_scale {n k : Int} {x : Datum} (h : own_Dy n k x) (j : Nat) : own_Dy (n * ((2 ^ j : Nat) : Int)) (k - j) x := by
  obtain ⟨s, c, q, rfl⟩ := own_dy_fin h
  have p : 0 < 2 ^ j := Nat.two_pow_pos j
  refine own_dy_mk ?_ fun hn => ?_
  · have ha := own_dy_abs h
    rw [Int.natAbs_mul, Int.natAbs_natCast]
    have e1 : (q - (k - (j : Int))).toNat + (k - q).toNat = (q - k).toNat + j + (k - (j : Int) - q).toNat := by omega
    refine Nat.eq_of_mul_eq_mul_right (Nat.two_pow_pos (k - q).toNat) ?_
    calc c * 2 ^ (q - (k - (j : Int))).toNat * 2 ^ (k - q).toNat = c * 2 ^ ((q - (k - (j : Int))).toNat + (k - q).toNat) := by rw [Nat.pow_add, Nat.mul_assoc]
      _ = (c * 2 ^ (q - k).toNat) * 2 ^ j * 2 ^ (k - (j : Int) - q).toNat := by rw [e1, Nat.pow_add, Nat.pow_add]; simp only [Nat.mul_assoc]
      _ = n.natAbs * 2 ^ j * 2 ^ (k - (j : Int) - q).toNat * 2 ^ (k - q).toNat := by rw [ha]; ac_rfl
  · have p' : (0 : Int) < ((2 ^ j : Nat) : Int) := by omega
    have h0 : n ≠ 0 := fun h => hn (by rw [h, Int.zero_mul])
    rw [own_dy_sign h h0, decide_eq_decide]
    constructor
    · intro hl; exact Int.mul_neg_of_neg_of_pos hl p'
    · intro hl; exact Int.lt_of_not_ge fun hg => by have := Int.mul_nonneg hg (Int.le_of_lt p'); omega
/-- whole multiples of 2^k of at most 53 digits are doubles -/
theorem own_fit {n : Nat} {k : Int} (s : Bool) (hn : n ≤ 2 ^ 53) (h1 : -1074 ≤ k) (h2 : k ≤ 971) (h3 : n = 2 ^ 53 → k ≤ 970) : ∃ c q, Core.fits b64 (.fin s c q) ∧ n * 2 ^ (k - q).toNat = c * 1 * 2 ^ (q - k).toNat := by
  have ht : b64.tails = 2 ^ 52 := by decide
  have hp : b64.p = 53 := rfl
  have hm : b64.qmin = -1074 := by decide
  have hM : b64.qmax = 971 := by decide
  by_cases h0 : n = 0
  · subst h0
    exact ⟨0, b64.qmin, zero_fits good_b64 s, by simp⟩
  by_cases hp2 : n = 2 ^ 53
  · have h3 := h3 hp2
    refine ⟨2 ^ 52, k + 1, ⟨by rw [hp]; decide, by omega, by omega, .inr (by omega)⟩, ?_⟩
    rw [hp2, show (k - (k + 1)).toNat = 0 by omega, show (k + 1 - k).toNat = 1 by omega]
  · have l1 : 2 ^ n.log2 ≤ n := Nat.log2_self_le h0
    have l2 : n < 2 ^ (n.log2 + 1) := Nat.lt_log2_self
    have l3 : n.log2 < 53 := (Nat.pow_lt_pow_iff_right (by decide : 1 < 2)).mp (Nat.lt_of_le_of_lt l1 (by omega))
    generalize n.log2 = L at l1 l2 l3
    have hq : ∃ q : Int, q = max (-1074) ((L : Int) + k - 52) := ⟨_, rfl⟩
    obtain ⟨q, hq⟩ := hq
    have q1 : q ≤ k := by omega
    refine ⟨n * 2 ^ (k - q).toNat, q, ⟨?_, by omega, by omega, ?_⟩, ?_⟩
    · rw [hp]
      calc n * 2 ^ (k - q).toNat < 2 ^ (L + 1) * 2 ^ (k - q).toNat := Nat.mul_lt_mul_of_pos_right l2 (Nat.two_pow_pos _)
        _ = 2 ^ (L + 1 + (k - q).toNat) := by rw [← Nat.pow_add]
        _ ≤ 2 ^ 53 := Nat.pow_le_pow_right (by decide) (by omega)
    · by_cases hm2 : q = -1074
      · left; rw [hm]; exact hm2
      · right
        rw [ht]
        calc 2 ^ 52 = 2 ^ L * 2 ^ (k - q).toNat := by rw [← Nat.pow_add]; congr 1; omega
          _ ≤ n * 2 ^ (k - q).toNat := Nat.mul_le_mul_right _ l1
    · rw [show (q - k).toNat = 0 by omega]; simp
theorem own_dy_roundRatio {n k e : Int} {A B : Nat} {s : Bool} (hB : 0 < B) (hn : n.natAbs ≤ 2 ^ 53) (h1 : -1074 ≤ k) (h2 : k ≤ 970) (hA : A * 2 ^ (e - k).toNat = n.natAbs * B * 2 ^ (k - e).toNat) (hs : n ≠ 0 → s = decide (n < 0)) : own_Dy n k (roundRatio b64 s A B e) := by
  obtain ⟨c, q, hf, hv⟩ := own_fit (n := n.natAbs) s hn h1 (by omega) (fun _ => h2)
  have : roundRatio b64 s A B e = .fin s c q := by
    rw [roundRatio_congr (A' := n.natAbs) (B' := 1) (e' := k) hB (by decide) (by rw [Nat.mul_one]; exact hA)]
    exact roundRatio_exact good_b64 (by decide) hf hv
  rw [this]
  refine own_dy_mk ?_ hs
  rw [Nat.mul_one] at hv
  exact hv.symm
theorem own_dy_round {n k : Int} {d : Datum} (hn : n.natAbs ≤ 2 ^ 53) (h1 : -1074 ≤ k) (h2 : k ≤ 970) (h : own_Dy n k d) : own_Dy n k (round b64 d) := by
  obtain ⟨s, c, q, rfl⟩ := own_dy_fin h
  refine own_dy_roundRatio (by decide) hn h1 h2 ?_ (own_dy_sign h)
  rw [Nat.mul_one]; exact own_dy_abs h
theorem own_pow_cancel {a b x y : Nat} {u : Int} (h : a * 2 ^ x = b * 2 ^ y) (hu : u = (x : Int) - y) : a * 2 ^ u.toNat = b * 2 ^ (-u).toNat := by
  have hx : x = u.toNat + min x y := by omega
  have hy : y = (-u).toNat + min x y := by omega
  generalize u.toNat = v at *
  generalize (-u).toNat = w at *
  generalize min x y = t at hx hy
  subst hx hy
  rw [Nat.pow_add, Nat.pow_add, ← Nat.mul_assoc, ← Nat.mul_assoc] at h
  exact Nat.eq_of_mul_eq_mul_right (Nat.two_pow_pos t) h
/-- an exact quotient -/
theorem own_dy_quot {r m k l : Int} {x y : Datum} (hm : m ≠ 0) (hn : r.natAbs ≤ 2 ^ 53) (h1 : -1074 ≤ k) (h2 : k ≤ 970) (hx : own_Dy (r * m) (k + l) x) (hy : own_Dy m l y) : own_Dy r k (quotient b64 x y) := by
  obtain ⟨s, c, q, rfl⟩ := own_dy_fin hx
  obtain ⟨t, d, q', rfl⟩ := own_dy_fin hy
  have ha := own_dy_abs hx
  have hb := own_dy_abs hy
  have hd : d ≠ 0 := by
    rintro rfl
    rw [Nat.zero_mul] at hb
    rcases Nat.mul_eq_zero.mp hb.symm with h | h
    · exact hm (Int.natAbs_eq_zero.mp h)
    · have := Nat.two_pow_pos (l - q').toNat; omega
  show own_Dy r k (if d = 0 then _ else _)
  rw [if_neg hd]
  refine own_dy_roundRatio (Nat.pos_of_ne_zero hd) hn h1 h2 ?_ fun h0 => ?_
  · rw [Int.natAbs_mul] at ha
    have e1 : (q - q' - k) = (((q - (k + l)).toNat + (l - q').toNat : Nat) : Int) - (((k + l - q).toNat + (q' - l).toNat : Nat) : Int) := by omega
    have e2 : k - (q - q') = -(q - q' - k) := by omega
    rw [e2]
    refine own_pow_cancel (x := (q - (k + l)).toNat + (l - q').toNat) (y := (k + l - q).toNat + (q' - l).toNat) ?_ e1
    calc c * 2 ^ ((q - (k + l)).toNat + (l - q').toNat) = (c * 2 ^ (q - (k + l)).toNat) * 2 ^ (l - q').toNat := by rw [Nat.pow_add, Nat.mul_assoc]
      _ = r.natAbs * (m.natAbs * 2 ^ (l - q').toNat) * 2 ^ (k + l - q).toNat := by rw [ha]; ac_rfl
      _ = r.natAbs * d * 2 ^ ((k + l - q).toNat + (q' - l).toNat) := by rw [← hb, Nat.pow_add]; ac_rfl
  · have h3 : r * m ≠ 0 := fun h => (Int.mul_eq_zero.mp h).elim h0 hm
    rw [own_dy_sign hx h3, own_dy_sign hy hm]
    rcases Int.lt_or_gt_of_ne h0 with a | a <;> rcases Int.lt_or_gt_of_ne hm with b | b
    · have := Int.mul_pos_of_neg_of_neg a b; simp [a, b]; omega
    · have := Int.mul_neg_of_neg_of_pos a b; simp [a, this]; omega
    · have := Int.mul_neg_of_pos_of_neg a b; simp [b, this]; omega
    · have := Int.mul_pos a b; simp [show ¬ r < 0 by omega, show ¬ m < 0 by omega]; omega
theorem own_dy_unscale {n k : Int} {x : Datum} (j : Nat) (h : own_Dy (n * ((2 ^ j : Nat) : Int)) k x) : own_Dy n (k + j) x := by
  obtain ⟨s, c, q, rfl⟩ := own_dy_fin h
  have p : 0 < 2 ^ j := Nat.two_pow_pos j
  have p' : (0 : Int) < ((2 ^ j : Nat) : Int) := by omega
  refine own_dy_mk ?_ fun h0 => ?_
  · have ha := own_dy_abs h
    rw [Int.natAbs_mul, Int.natAbs_natCast] at ha
    have e1 : (q - (k + (j : Int))) = (((q - k).toNat : Nat) : Int) - (((k - q).toNat + j : Nat) : Int) := by omega
    have e2 : k + (j : Int) - q = -(q - (k + (j : Int))) := by omega
    rw [e2]
    refine own_pow_cancel (x := (q - k).toNat) (y := (k - q).toNat + j) ?_ e1
    rw [ha, Nat.pow_add]; ac_rfl
  · have hn : n * ((2 ^ j : Nat) : Int) ≠ 0 := fun h => (Int.mul_eq_zero.mp h).elim h0 (by omega)
    rw [own_dy_sign h hn, decide_eq_decide]
    constructor
    · intro hl; exact Int.lt_of_not_ge fun hg => by have := Int.mul_nonneg hg (Int.le_of_lt p'); omega
    · intro hl; exact Int.mul_neg_of_neg_of_pos hl p'
/-- the number in units of 2^e -/
theorem own_dy_units {n k q e : Int} {s : Bool} {c : Nat} (h : own_Dy n k (.fin s c q)) (h1 : e ≤ k) (h2 : e ≤ q) : signed s (inUnits c q e) = n * ((2 ^ (k - e).toNat : Nat) : Int) := by
  have ha := own_dy_abs h
  have e1 : inUnits c q e = n.natAbs * 2 ^ (k - e).toNat := by
    unfold inUnits
    refine Nat.eq_of_mul_eq_mul_right (Nat.two_pow_pos (k - q).toNat) ?_
    calc c * 2 ^ (q - e).toNat * 2 ^ (k - q).toNat = (c * 2 ^ (q - k).toNat) * 2 ^ (k - e).toNat := by
          rw [Nat.mul_assoc, ← Nat.pow_add, Nat.mul_assoc, ← Nat.pow_add]; congr 2; omega
      _ = n.natAbs * 2 ^ (k - e).toNat * 2 ^ (k - q).toNat := by rw [ha]; ac_rfl
  rw [e1, signed_mul]
  congr 1
  by_cases h0 : n = 0
  · subst h0; simp [signed]
  · rw [own_dy_sign h h0]
    unfold signed
    by_cases hl : n < 0 <;> simp [hl] <;> omega
theorem own_pow_split (n : Int) {k e : Int} (h1 : -1074 ≤ k) (h2 : e ≤ -1074) : n * ((2 ^ (k - e).toNat : Nat) : Int) = n * ((2 ^ (k + 1074).toNat : Nat) : Int) * ((2 ^ (b64.qmin - e).toNat : Nat) : Int) := by
  have hm : b64.qmin = -1074 := by decide
  rw [hm, Int.mul_assoc, ← Int.natCast_mul, ← Nat.pow_add]
  congr 4
  omega
/-- rounding is monotone -/
theorem own_round_le {n k w : Int} {d V : Datum} (h : own_Dy n k d) (h1 : -1074 ≤ k) (hV : Core.fits b64 V) (hn : V ≠ .nan) (hz : zval b64 V = w) (hw : n * ((2 ^ (k + 1074).toNat : Nat) : Int) ≤ w) : zval b64 (round b64 d) ≤ w := by
  obtain ⟨s, c, q, rfl⟩ := own_dy_fin h
  have hm : b64.qmin = -1074 := by decide
  have p := Nat.two_pow_pos (b64.qmin - min (-1074) q).toNat
  rw [← hz]
  refine zval_round_le good_b64 hV hn (e0 := min (-1074) q) (by omega) (by omega) ?_
  rw [own_dy_units h (by omega) (by omega), own_pow_split n h1 (by omega), hz]
  exact Int.mul_le_mul_of_nonneg_right hw (by omega)
theorem own_round_ge {n k w : Int} {d V : Datum} (h : own_Dy n k d) (h1 : -1074 ≤ k) (hV : Core.fits b64 V) (hn : V ≠ .nan) (hz : zval b64 V = w) (hw : w ≤ n * ((2 ^ (k + 1074).toNat : Nat) : Int)) : w ≤ zval b64 (round b64 d) := by
  obtain ⟨s, c, q, rfl⟩ := own_dy_fin h
  have hm : b64.qmin = -1074 := by decide
  have p := Nat.two_pow_pos (b64.qmin - min (-1074) q).toNat
  rw [← hz]
  refine zval_round_ge good_b64 hV hn (e0 := min (-1074) q) (by omega) (by omega) ?_
  rw [own_dy_units h (by omega) (by omega), own_pow_split n h1 (by omega), hz]
  exact Int.mul_le_mul_of_nonneg_right hw (by omega)
/-! ### on doubles -/
def own_D (n k : Int) (a : UInt64) : Prop := own_Dy n k (val64 a)
theorem own_d_int {n : Int} {a : UInt64} : own_D n 0 a ↔ DInt n a := own_dy0
theorem own_d_ne {n k : Int} {a : UInt64} (h : own_D n k a) : val64 a ≠ .nan := by
  obtain ⟨s, c, q, e⟩ := own_dy_fin h; rw [e]; exact Datum.noConfusion
theorem own_d_no {n k : Int} {a : UInt64} (h : own_D n k a) : Jvm.Free.Fl.NoNaN64 a := Jvm.Free.Fl.val64_no.mpr (own_d_ne h)
theorem own_d_scale {n k : Int} {a : UInt64} (h : own_D n k a) (j : Nat) : own_D (n * ((2 ^ j : Nat) : Int)) (k - j) a := own_dy_scale h j
theorem own_d_add {n m k : Int} {a b : UInt64} (ha : own_D n k a) (hb : own_D m k b) (hn : (n + m).natAbs ≤ 2 ^ 53) (h1 : -1074 ≤ k) (h2 : k ≤ 970) : own_D (n + m) k (FP.dadd a b) := by
  unfold own_D; rw [show FP.dadd a b = Core.dadd a b from rfl, val64_dadd]; exact own_dy_round hn h1 h2 (own_dy_sum ha hb)
theorem own_d_sub {n m k : Int} {a b : UInt64} (ha : own_D n k a) (hb : own_D m k b) (hn : (n - m).natAbs ≤ 2 ^ 53) (h1 : -1074 ≤ k) (h2 : k ≤ 970) : own_D (n - m) k (FP.dsub a b) := by
  unfold own_D; rw [show FP.dsub a b = Core.dsub a b from rfl, val64_dsub]; exact own_dy_round hn h1 h2 (own_dy_sum ha (own_dy_neg hb))
theorem own_d_mul {n m k l : Int} {a b : UInt64} (ha : own_D n k a) (hb : own_D m l b) (hn : (n * m).natAbs ≤ 2 ^ 53) (h1 : -1074 ≤ k + l) (h2 : k + l ≤ 970) : own_D (n * m) (k + l) (FP.dmul a b) := by
  unfold own_D; rw [show FP.dmul a b = Core.dmul a b from rfl, val64_dmul]; exact own_dy_round hn h1 h2 (own_dy_prod ha hb)
theorem own_d_div {r m k l : Int} {a b : UInt64} (hm : m ≠ 0) (ha : own_D (r * m) (k + l) a) (hb : own_D m l b) (hn : r.natAbs ≤ 2 ^ 53) (h1 : -1074 ≤ k) (h2 : k ≤ 970) : own_D r k (FP.ddiv a b) := by
  unfold own_D; rw [show FP.ddiv a b = Core.ddiv a b from rfl, val64_ddiv]; exact own_dy_quot hm hn h1 h2 ha hb
theorem own_d_neg {n k : Int} {a : UInt64} (ha : own_D n k a) : own_D (-n) k (FP.dneg a) := by
  unfold own_D; rw [FP.val64_dneg]; exact own_dy_neg ha
theorem own_d_cmp {n m k : Int} {a b : UInt64} (ha : own_D n k a) (hb : own_D m k b) : FP.dcmp a b = some (compare n m) := own_dy_order ha hb
theorem own_d_i2d (x : Int32) : own_D x.toInt 0 (FP.i2d x) := own_d_int.mpr (i2d_int x)
theorem own_d_l2d {x : Int64} (h : x.toInt.natAbs ≤ 2 ^ 53) : own_D x.toInt 0 (FP.l2d x) := own_d_int.mpr (l2d_int h)
theorem own_d_unscale {n k : Int} {a : UInt64} (j : Nat) (h : own_D (n * ((2 ^ j : Nat) : Int)) k a) : own_D n (k + j) a := own_dy_unscale j h
theorem own_d_zv {n k : Int} {a : UInt64} (h : own_D n k a) (h1 : -1074 ≤ k) : zval b64 (val64 a) = n * ((2 ^ (k + 1074).toNat : Nat) : Int) := by
  obtain ⟨s, c, q, e⟩ := own_dy_fin h
  have hf := val64_fits a
  unfold own_D at h
  rw [e] at h hf ⊢
  have hm : b64.qmin = -1074 := by decide
  have := own_dy_units h (e := b64.qmin) (by omega) (by have := hf.2.1; omega)
  show signed s (inUnits c q b64.qmin) = _
  rw [this, hm]
  congr 4
theorem own_cmp_eq (n : Int) : compare n n = .eq := by simp [compare, compareOfLessAndEq]
theorem own_cmp0 {r : Option Ordering} {op : CmpOp} : cmpValue r op = 0 ↔ r = some .eq := by
  rcases r with _ | o
  · cases op <;> simp [cmpValue] <;> decide
  · cases o <;> simp [cmpValue]
theorem own_d_of {n k q : Int} {s : Bool} {c : Nat} {a : UInt64} (h : val64 a = .fin s c q) (h' : c * 2 ^ (q - k).toNat = n.natAbs * 2 ^ (k - q).toNat) (hs : n = 0 ∨ s = decide (n < 0)) : own_D n k a := by
  unfold own_D; rw [h]; exact own_dy_mk h' fun h0 => hs.resolve_left h0
theorem own_d_0 {k l : Int} {a : UInt64} (h : own_D 0 k a) : own_D 0 l a := by
  obtain ⟨s, c, q, e⟩ := own_dy_fin h
  unfold own_D at h ⊢
  rw [e] at h ⊢
  have := own_dy_abs h
  refine own_dy_mk ?_ fun h0 => absurd rfl h0
  have p := Nat.two_pow_pos (q - k).toNat
  rw [show (0 : Int).natAbs = 0 from rfl, Nat.zero_mul] at this
  rcases Nat.mul_eq_zero.mp this with h | h
  · rw [h]; simp
  · omega
theorem own_d_zero : own_D 0 0 FP.dconst0 := own_d_of (s := false) (c := 0) (q := -1074) (by decide +kernel) (by decide +kernel) (Or.inl rfl)
theorem own_d_one : own_D 1 0 FP.dconst1 := own_d_of (s := false) (c := 4503599627370496) (q := -52) (by decide +kernel) (by decide +kernel) (Or.inr rfl)
end OwnDy
section OwnZ
open Jvm.FP Jvm.FP.Core
/-- a double's value in units of 2^-1074 -/
def own_z (a : UInt64) : Int := zval b64 (val64 a)
/-- finite, sign plus -/
def own_F (a : UInt64) : Prop := ∃ c q, val64 a = .fin false c q
def own_P : Nat := 2 ^ 1074
theorem own_P_pos : 0 < own_P := Nat.two_pow_pos _
theorem own_qmin : b64.qmin = -1074 := by decide
theorem own_F_ne {a : UInt64} (h : own_F a) : val64 a ≠ .nan := by obtain ⟨c, q, e⟩ := h; rw [e]; exact Datum.noConfusion
theorem own_F_no {a : UInt64} (h : own_F a) : Jvm.Free.Fl.NoNaN64 a := Jvm.Free.Fl.val64_no.mpr (own_F_ne h)
theorem own_F_D {n k : Int} {a : UInt64} (h : own_D n k a) (hn : 0 < n) : own_F a := by
  obtain ⟨s, c, q, e⟩ := own_dy_fin h
  unfold own_D at h
  rw [e] at h
  have := own_dy_sign h (by omega)
  rw [show decide (n < 0) = false from decide_eq_false (by omega)] at this
  subst this
  exact ⟨c, q, e⟩
theorem own_qge {a : UInt64} {s : Bool} {c : Nat} {q : Int} (e : val64 a = .fin s c q) : -1074 ≤ q := by
  have h := val64_fits a
  rw [e] at h
  have := h.2.1
  rw [own_qmin] at this
  exact this
theorem own_z_cmp {a b : UInt64} (ha : val64 a ≠ .nan) (hb : val64 b ≠ .nan) : FP.dcmp a b = some (compare (own_z a) (own_z b)) := order_zval good_b64 (val64_fits a) (val64_fits b) ha hb
theorem own_z_int {n : Int} {a : UInt64} (h : own_D n 0 a) : own_z a = n * (own_P : Int) := by
  have q := own_d_zv h (by decide)
  rw [show ((0 : Int) + 1074).toNat = 1074 from rfl] at q
  exact q
theorem own_z_F {a : UInt64} {c : Nat} {q : Int} (e : val64 a = .fin false c q) : own_z a = ((zmag b64 (.fin false c q) : Nat) : Int) := by
  unfold own_z; rw [e]; rfl
theorem own_z_nonneg {a : UInt64} (h : own_F a) : 0 ≤ own_z a := by obtain ⟨c, q, e⟩ := h; rw [own_z_F e]; omega
theorem own_fin_of {r V : UInt64} (hn : val64 r ≠ .nan) (hs : sgn (val64 r) = false) (hV : own_F V) (h : own_z r ≤ own_z V) : own_F r := by
  obtain ⟨c, q, e⟩ := hV
  unfold own_F
  cases er : val64 r with
  | nan => exact absurd er hn
  | inf s =>
    rw [er] at hs
    have hs' : s = false := hs
    subst hs'
    have ht := zmag_lt_top good_b64 (e ▸ val64_fits V)
    unfold own_z at h
    rw [er, e] at h
    have h1 : zval b64 (.inf false) = ((b64.tails * 2 ^ (b64.exps - 2) : Nat) : Int) := rfl
    have h2 : zval b64 (.fin false c q) = ((inUnits c q b64.qmin : Nat) : Int) := rfl
    rw [h1, h2] at h
    omega
  | fin s c' q' =>
    rw [er] at hs
    have hs' : s = false := hs
    subst hs'
    exact ⟨c', q', rfl⟩
theorem own_z_rr {r : UInt64} {A B : Nat} {e : Int} (h : val64 r = roundRatio b64 false A B e) : own_z r = ((zmag b64 (roundRatio b64 false A B e) : Nat) : Int) := by
  unfold own_z zval; rw [h, sgn_roundRatio]; rfl
theorem own_mul_rr {x y : UInt64} {c d : Nat} {q r : Int} (ex : val64 x = .fin false c q) (ey : val64 y = .fin false d r) : val64 (FP.dmul x y) = roundRatio b64 false (c * d) 1 (q + r) := by
  rw [show FP.dmul x y = Core.dmul x y from rfl, val64_dmul, ex, ey]; rfl
theorem own_mul_hi {x y V : UInt64} (hx : own_F x) (hy : own_F y) (hV : own_F V) (h : own_z x * own_z y ≤ own_z V * (own_P : Int)) : own_F (FP.dmul x y) ∧ own_z (FP.dmul x y) ≤ own_z V := by
  obtain ⟨c, q, ex⟩ := hx
  obtain ⟨d, r, ey⟩ := hy
  obtain ⟨v, t, eV⟩ := id hV
  have e := own_mul_rr ex ey
  have hz : own_z (FP.dmul x y) ≤ own_z V := by
    rw [own_z_rr e, own_z_F eV]
    rw [own_z_F ex, own_z_F ey, own_z_F eV] at h
    obtain ⟨-, p2, p3⟩ := product_units (ex ▸ val64_fits x) (ey ▸ val64_fits y)
    refine Int.ofNat_le.mpr (zmag_roundRatio_le good_b64 (by decide) (eV ▸ val64_fits V) Datum.noConfusion (e0 := 2 * b64.qmin) (by rw [own_qmin]; decide) p2 ?_)
    rw [p3, Nat.mul_one, show (b64.qmin - 2 * b64.qmin).toNat = 1074 by rw [own_qmin]; decide]
    exact Int.ofNat_le.mp (by rw [Int.natCast_mul, Int.natCast_mul]; exact h)
  exact ⟨own_fin_of (by rw [e]; exact roundRatio_ne_nan _ _ _ _ _) (by rw [e]; exact sgn_roundRatio _ _ _ _ _) hV hz, hz⟩
theorem own_mul_lo {x y V : UInt64} (hx : own_F x) (hy : own_F y) (hV : own_F V) (h : own_z V * (own_P : Int) ≤ own_z x * own_z y) : own_z V ≤ own_z (FP.dmul x y) := by
  obtain ⟨c, q, ex⟩ := hx
  obtain ⟨d, r, ey⟩ := hy
  obtain ⟨v, t, eV⟩ := hV
  rw [own_z_rr (own_mul_rr ex ey), own_z_F eV]
  rw [own_z_F ex, own_z_F ey, own_z_F eV] at h
  obtain ⟨-, p2, p3⟩ := product_units (ex ▸ val64_fits x) (ey ▸ val64_fits y)
  refine Int.ofNat_le.mpr (zmag_roundRatio_ge good_b64 (by decide) (eV ▸ val64_fits V) (e0 := 2 * b64.qmin) (by rw [own_qmin]; decide) p2 ?_)
  rw [p3, Nat.mul_one, show (b64.qmin - 2 * b64.qmin).toNat = 1074 by rw [own_qmin]; decide]
  exact Int.ofNat_le.mp (by rw [Int.natCast_mul, Int.natCast_mul]; exact h)
theorem own_div_rr {x y : UInt64} {c d : Nat} {q r : Int} (ex : val64 x = .fin false c q) (ey : val64 y = .fin false d r) (h0 : 0 < own_z y) : 0 < d ∧ val64 (FP.ddiv x y) = roundRatio b64 false c d (q - r) := by
  have hd : d ≠ 0 := by
    rintro rfl
    rw [own_z_F ey] at h0
    have : zmag b64 (.fin false 0 r) = 0 := by show 0 * _ = 0; rw [Nat.zero_mul]
    omega
  refine ⟨Nat.pos_of_ne_zero hd, ?_⟩
  rw [show FP.ddiv x y = Core.ddiv x y from rfl, val64_ddiv, ex, ey]
  show (if d = 0 then _ else _) = _
  rw [if_neg hd]; rfl
theorem own_pow_le {A M : Nat} {u v w x : Nat} (h : A * 2 ^ u ≤ M * 2 ^ v) (e : u + w = v + x) : A * 2 ^ x ≤ M * 2 ^ w := by
  refine Nat.le_of_mul_le_mul_right ?_ (Nat.two_pow_pos v)
  calc A * 2 ^ x * 2 ^ v = A * 2 ^ u * 2 ^ w := by rw [Nat.mul_assoc, ← Nat.pow_add, Nat.mul_assoc, ← Nat.pow_add]; congr 2; omega
    _ ≤ M * 2 ^ v * 2 ^ w := Nat.mul_le_mul_right _ h
    _ = M * 2 ^ w * 2 ^ v := by ac_rfl
theorem own_div_units {c d M : Nat} {q r : Int} (hq : -1074 ≤ q) (hr : -1074 ≤ r) : (c * 2 ^ (q - b64.qmin).toNat * own_P ≤ M * (d * 2 ^ (r - b64.qmin).toNat) → inUnits c (q - r) (min (-1074) (q - r)) ≤ M * 2 ^ (b64.qmin - min (-1074) (q - r)).toNat * d) ∧ (M * (d * 2 ^ (r - b64.qmin).toNat) ≤ c * 2 ^ (q - b64.qmin).toNat * own_P → M * 2 ^ (b64.qmin - min (-1074) (q - r)).toNat * d ≤ inUnits c (q - r) (min (-1074) (q - r))) := by
  rw [own_qmin]
  unfold own_P inUnits
  have e1 : c * 2 ^ (q - -1074).toNat * 2 ^ 1074 = c * 2 ^ ((q - -1074).toNat + 1074) := by rw [Nat.mul_assoc, ← Nat.pow_add]
  have e2 : M * (d * 2 ^ (r - -1074).toNat) = M * d * 2 ^ (r - -1074).toNat := by rw [Nat.mul_assoc]
  have e3 : M * 2 ^ (-1074 - min (-1074) (q - r)).toNat * d = M * d * 2 ^ (-1074 - min (-1074) (q - r)).toNat := by ac_rfl
  rw [e1, e2, e3]
  exact ⟨fun h => own_pow_le h (by omega), fun h => own_pow_le h (by omega)⟩
theorem own_div_hi {x y V : UInt64} (hx : own_F x) (hy : own_F y) (hV : own_F V) (h0 : 0 < own_z y) (h : own_z x * (own_P : Int) ≤ own_z V * own_z y) : own_F (FP.ddiv x y) ∧ own_z (FP.ddiv x y) ≤ own_z V := by
  obtain ⟨c, q, ex⟩ := hx
  obtain ⟨d, r, ey⟩ := hy
  obtain ⟨v, t, eV⟩ := id hV
  obtain ⟨hd, e⟩ := own_div_rr ex ey h0
  have f1 := own_qge ex
  have f2 := own_qge ey
  have hz : own_z (FP.ddiv x y) ≤ own_z V := by
    rw [own_z_rr e, own_z_F eV]
    rw [own_z_F ex, own_z_F ey, own_z_F eV] at h
    refine Int.ofNat_le.mpr (zmag_roundRatio_le good_b64 hd (eV ▸ val64_fits V) Datum.noConfusion (e0 := min (-1074) (q - r)) (by rw [own_qmin]; omega) (by omega) ?_)
    exact (own_div_units f1 f2).1 (Int.ofNat_le.mp (by rw [Int.natCast_mul, Int.natCast_mul]; exact h))
  exact ⟨own_fin_of (by rw [e]; exact roundRatio_ne_nan _ _ _ _ _) (by rw [e]; exact sgn_roundRatio _ _ _ _ _) hV hz, hz⟩
theorem own_div_lo {x y V : UInt64} (hx : own_F x) (hy : own_F y) (hV : own_F V) (h0 : 0 < own_z y) (h : own_z V * own_z y ≤ own_z x * (own_P : Int)) : own_z V ≤ own_z (FP.ddiv x y) := by
  obtain ⟨c, q, ex⟩ := hx
  obtain ⟨d, r, ey⟩ := hy
  obtain ⟨v, t, eV⟩ := hV
  obtain ⟨hd, e⟩ := own_div_rr ex ey h0
  have f1 := own_qge ex
  have f2 := own_qge ey
  rw [own_z_rr e, own_z_F eV]
  rw [own_z_F ex, own_z_F ey, own_z_F eV] at h
  refine Int.ofNat_le.mpr (zmag_roundRatio_ge good_b64 hd (eV ▸ val64_fits V) (e0 := min (-1074) (q - r)) (by rw [own_qmin]; omega) (by omega) ?_)
  exact (own_div_units f1 f2).2 (Int.ofNat_le.mp (by rw [Int.natCast_mul, Int.natCast_mul]; exact h))
theorem own_sub_both {x y V : UInt64} (hx : own_F x) (hy : own_F y) (hV : own_F V) : (own_z x - own_z y ≤ own_z V → own_z (FP.dsub x y) ≤ own_z V) ∧ (own_z V ≤ own_z x - own_z y → own_z V ≤ own_z (FP.dsub x y)) ∧ val64 (FP.dsub x y) ≠ .nan := by
  obtain ⟨c, q, ex⟩ := hx
  obtain ⟨d, r, ey⟩ := hy
  obtain ⟨v, t, eV⟩ := hV
  obtain ⟨sg, n, e, p1, p2, p3⟩ := sum_units (ex ▸ val64_fits x) (negate_fits (ey ▸ val64_fits y))
  have hv : val64 (FP.dsub x y) = round b64 (.fin sg n e) := by rw [show FP.dsub x y = Core.dsub x y from rfl, val64_dsub, ex, ey]; exact congrArg (round b64) p1
  have p4 : zval b64 (.fin (!false) d r) = - zval b64 (.fin false d r) := zval_negate b64 (.fin false d r)
  rw [p4, ← Int.sub_eq_add_neg] at p3
  have hxy : own_z x - own_z y = signed sg (inUnits n e b64.qmin) := by unfold own_z; rw [ex, ey, p3]
  have hone : ((2 ^ (b64.qmin - b64.qmin).toNat : Nat) : Int) = 1 := by rw [Int.sub_self]; rfl
  refine ⟨fun h => ?_, fun h => ?_, by rw [hv]; exact roundRatio_ne_nan _ _ _ _ _⟩
  · unfold own_z; rw [hv]
    refine zval_round_le good_b64 (val64_fits V) (by rw [eV]; exact Datum.noConfusion) (e0 := b64.qmin) (Int.le_refl _) p2 ?_
    rw [hone, Int.mul_one, ← hxy]; exact h
  · unfold own_z; rw [hv]
    refine zval_round_ge good_b64 (val64_fits V) (by rw [eV]; exact Datum.noConfusion) (e0 := b64.qmin) (Int.le_refl _) p2 ?_
    rw [hone, Int.mul_one, ← hxy]; exact h
theorem own_pos_F {r V : UInt64} (hn : val64 r ≠ .nan) (hV : own_F V) (h : own_z r ≤ own_z V) (h0 : 0 < own_z r) : own_F r := by
  refine own_fin_of hn ?_ hV h
  cases hs : sgn (val64 r) with
  | false => rfl
  | true => unfold own_z zval at h0; rw [hs] at h0; simp [signed] at h0; omega
theorem own_pick_min {a b : UInt64} (ha : val64 a ≠ .nan) (hb : val64 b ≠ .nan) : (Native.java_lang_Math.nans.pick64 false a b = a ∧ own_z a ≤ own_z b) ∨ (Native.java_lang_Math.nans.pick64 false a b = b ∧ own_z b ≤ own_z a) := by
  unfold Native.java_lang_Math.nans.pick64
  rw [own_z_cmp ha hb]
  rcases Int.lt_trichotomy (own_z a) (own_z b) with h | h | h
  · rw [Int.compare_eq_lt.mpr h]; exact Or.inl ⟨rfl, by omega⟩
  · rw [Int.compare_eq_eq.mpr h]; dsimp only; split
    · exact Or.inr ⟨rfl, by omega⟩
    · exact Or.inl ⟨rfl, by omega⟩
  · rw [Int.compare_eq_gt.mpr h]; exact Or.inr ⟨rfl, by omega⟩
theorem own_pick_max {a b : UInt64} (ha : val64 a ≠ .nan) (hb : val64 b ≠ .nan) : (Native.java_lang_Math.nans.pick64 true a b = a ∧ own_z b ≤ own_z a) ∨ (Native.java_lang_Math.nans.pick64 true a b = b ∧ own_z a ≤ own_z b) := by
  unfold Native.java_lang_Math.nans.pick64
  rw [own_z_cmp ha hb]
  rcases Int.lt_trichotomy (own_z a) (own_z b) with h | h | h
  · rw [Int.compare_eq_lt.mpr h]; exact Or.inr ⟨rfl, by omega⟩
  · rw [Int.compare_eq_eq.mpr h]; dsimp only; split
    · exact Or.inr ⟨rfl, by omega⟩
    · exact Or.inl ⟨rfl, by omega⟩
  · rw [Int.compare_eq_gt.mpr h]; exact Or.inl ⟨rfl, by omega⟩
end OwnZ
section OwnTol
open Jvm.FP Jvm.FP.Core
abbrev own_eps : UInt64 := (4472406533629990549 : UInt64)
abbrev own_inf : UInt64 := (9218868437227405312 : UInt64)
theorem own_val_inf : val64 own_inf = .inf false := by decide +kernel
theorem own_cv {a b : UInt64} (ha : val64 a ≠ .nan) (hb : val64 b ≠ .nan) (op : CmpOp) : ((0 : Int32) < cmpValue (FP.dcmp a b) op ↔ own_z b < own_z a) := by
  rw [own_z_cmp ha hb]
  generalize own_z a = x
  generalize own_z b = y
  rcases Int.lt_trichotomy x y with h | h | h
  · rw [Int.compare_eq_lt.mpr h]
    exact ⟨fun q => absurd q (by cases op <;> decide), fun q => by omega⟩
  · rw [Int.compare_eq_eq.mpr h]
    exact ⟨fun q => absurd q (by cases op <;> decide), fun q => by omega⟩
  · rw [Int.compare_eq_gt.mpr h]
    exact ⟨fun _ => h, fun _ => by cases op <;> decide⟩
theorem own_add_both {x y V : UInt64} {s t u : Bool} {c d v : Nat} {q r w : Int} (ex : val64 x = .fin s c q) (ey : val64 y = .fin t d r) (eV : val64 V = .fin u v w) : (own_z x + own_z y ≤ own_z V → own_z (FP.dadd x y) ≤ own_z V) ∧ (own_z V ≤ own_z x + own_z y → own_z V ≤ own_z (FP.dadd x y)) ∧ val64 (FP.dadd x y) ≠ .nan := by
  obtain ⟨sg, n, e, p1, p2, p3⟩ := sum_units (ex ▸ val64_fits x) (ey ▸ val64_fits y)
  have hv : val64 (FP.dadd x y) = round b64 (.fin sg n e) := by rw [show FP.dadd x y = Core.dadd x y from rfl, val64_dadd, ex, ey]; exact congrArg (round b64) p1
  have hxy : own_z x + own_z y = signed sg (inUnits n e b64.qmin) := by unfold own_z; rw [ex, ey, p3]
  have hone : ((2 ^ (b64.qmin - b64.qmin).toNat : Nat) : Int) = 1 := by rw [Int.sub_self]; rfl
  refine ⟨fun h => ?_, fun h => ?_, by rw [hv]; exact roundRatio_ne_nan _ _ _ _ _⟩
  · unfold own_z; rw [hv]
    refine zval_round_le good_b64 (val64_fits V) (by rw [eV]; exact Datum.noConfusion) (e0 := b64.qmin) (Int.le_refl _) p2 ?_
    rw [hone, Int.mul_one, ← hxy]; exact h
  · unfold own_z; rw [hv]
    refine zval_round_ge good_b64 (val64_fits V) (by rw [eV]; exact Datum.noConfusion) (e0 := b64.qmin) (Int.le_refl _) p2 ?_
    rw [hone, Int.mul_one, ← hxy]; exact h
theorem own_z_sc {n : Int} {j : Nat} {a : UInt64} (h : own_D n (-(j : Int)) a) (hj : j ≤ 1074) : own_z a * ((2 ^ j : Nat) : Int) = n * (own_P : Int) := by
  have q := own_d_zv h (by omega)
  have e : (2 ^ (-(j : Int) + 1074).toNat : Nat) * 2 ^ j = own_P := by
    rw [← Nat.pow_add, show (-(j : Int) + 1074).toNat + j = 1074 by omega]; rfl
  unfold own_z
  rw [q, Int.mul_assoc, ← Int.natCast_mul, e]
theorem own_PP : (0 : Int) < (own_P : Int) := Int.natCast_pos.mpr own_P_pos
theorem own_cHalf : own_D 1 (-((1 : Nat) : Int)) (4602678819172646912 : UInt64) := own_d_of (s := false) (c := 4503599627370496) (q := -53) (by decide +kernel) (by decide +kernel) (Or.inr rfl)
theorem own_eps_f : own_F own_eps := ⟨4835703278458517, -82, by decide +kernel⟩
theorem own_eps_half : own_z own_eps * 2 ≤ own_z (4607182418800017408 : UInt64) := by decide +kernel
theorem own_one : own_z (4607182418800017408 : UInt64) = (own_P : Int) := by
  have := own_z_int (a := (4607182418800017408 : UInt64)) (n := 1) (own_d_of (s := false) (c := 4503599627370496) (q := -52) (by decide +kernel) (by decide +kernel) (Or.inr rfl))
  rwa [Int.one_mul] at this
/-- a whole number against a whole number and the tolerance -/
theorem own_tol {S k : Int} {s x : UInt64} (hs : own_D S 0 s) (hx : own_D k 0 x) (b1 : -1000000 ≤ S) (b2 : S ≤ 1000000) : Jvm.Free.Fl.NoNaN64 (FP.dadd s own_eps) ∧ ((0 : Int32) < cmpValue (FP.dcmp x (FP.dadd s own_eps)) .g ↔ S < k) := by
  obtain ⟨s1, c1, q1, e1⟩ := own_dy_fin hs
  obtain ⟨c2, q2, e2⟩ := own_eps_f
  have hh := own_d_scale hs 1
  rw [show (0 - ((1 : Nat) : Int)) = (-((1 : Nat) : Int)) by omega] at hh
  have hV := own_d_add hh own_cHalf (by rw [show ((2 ^ 1 : Nat) : Int) = 2 from rfl]; omega) (by decide) (by decide)
  obtain ⟨s3, c3, q3, e3⟩ := own_dy_fin hV
  have zV := own_z_sc hV (by decide)
  have zs := own_z_int hs
  have zx := own_z_int hx
  have he := own_eps_half
  rw [own_one] at he
  have he0 := own_z_nonneg own_eps_f
  have P0 := own_PP
  have lo := (own_add_both e1 e2 e1).2.1 (by omega)
  obtain ⟨hi, -, hn⟩ := own_add_both e1 e2 e3
  refine ⟨Jvm.Free.Fl.val64_no.mpr hn, ?_⟩
  rw [own_cv (own_d_ne hx) hn]
  generalize hr : own_z (FP.dadd s own_eps) = r at *
  generalize own_z own_eps = ez at *
  generalize hw : own_z (FP.dadd s (4602678819172646912 : UInt64)) = v at *
  clear hr hw
  rw [show ((2 ^ 1 : Nat) : Int) = 2 from rfl, Int.add_mul, Int.one_mul, Int.mul_assoc, Int.mul_comm 2 (own_P : Int), ← Int.mul_assoc] at zV
  rw [zs] at lo hi
  rw [zx]
  clear zs zx e1 e2 e3 hs hx hV hh
  generalize (own_P : Int) = P at *
  refine ⟨fun h => ?_, fun h => ?_⟩
  · refine Int.lt_of_mul_lt_mul_right (a := P) ?_ (Int.le_of_lt P0)
    omega
  · have a : (S + 1) * P ≤ k * P := Int.mul_le_mul_of_nonneg_right (by omega) (Int.le_of_lt P0)
    rw [Int.add_mul, Int.one_mul] at a
    have := hi (by omega)
    omega
theorem own_tolinf {n k : Int} {t x : UInt64} (ht : own_D n 0 t) (hx : own_D k 0 x) : FP.dadd t own_inf = own_inf ∧ FP.dadd own_inf own_eps = own_inf ∧ ¬ (0 : Int32) < cmpValue (FP.dcmp x own_inf) .g := by
  obtain ⟨s, c, q, e⟩ := own_dy_fin ht
  obtain ⟨s', c', q', e'⟩ := own_dy_fin hx
  refine ⟨?_, by decide +kernel, ?_⟩
  · symm
    refine val64_inj (by rw [own_val_inf]; exact Datum.noConfusion) ?_
    rw [show FP.dadd t own_inf = Core.dadd t own_inf from rfl, val64_dadd, e, own_val_inf]
    rfl
  · have h : FP.dcmp x own_inf = order (val64 x) (val64 own_inf) := rfl
    rw [h, e', own_val_inf]
    have : order (.fin s' c' q') (.inf false) = some .lt := rfl
    rw [this]
    decide
abbrev own_late (tk ti : Int32) (en : UInt64) : Prop := (0 : Int32) < cmpValue (FP.dcmp (FP.i2d tk) (FP.dadd (FP.dadd (FP.i2d ti) en) own_eps)) .g
/-- entry ee belongs to sample ti -/
def own_row (n : Int) (iv t1 t2 t3 ti ev : Int32) (en : UInt64) (ee : Int32) : Prop :=
  (0 ≤ ee.toInt ∧ ee.toInt ≤ n - 1) ∧ (Jvm.Free.Fl.NoNaN64 (FP.dadd (FP.i2d ti) en) ∧ Jvm.Free.Fl.NoNaN64 (FP.dadd (FP.dadd (FP.i2d ti) en) own_eps)) ∧
  ((1 < n → (own_late t1 ti en ↔ ee.toInt < 1)) ∧ (2 < n → (own_late t2 ti en ↔ ee.toInt < 2)) ∧ (3 < n → (own_late t3 ti en ↔ ee.toInt < 3))) ∧
  (¬ iv = 0 → ee.toInt = n - 1) ∧ ((1 < n → iv = 0 → (ti + ev < t1 ↔ ee.toInt < 1)) ∧ (2 < n → iv = 0 → (ti + ev < t2 ↔ ee.toInt < 2)) ∧ (3 < n → iv = 0 → (ti + ev < t3 ↔ ee.toInt < 3)))
theorem own_small {x : Int} (h0 : 0 ≤ x) (h3 : x ≤ 3) : ∃ ee : Int32, ee.toInt = x := by
  have : x = 0 ∨ x = 1 ∨ x = 2 ∨ x = 3 := by omega
  rcases this with rfl | rfl | rfl | rfl
  · exact ⟨0, by decide⟩
  · exact ⟨1, by decide⟩
  · exact ⟨2, by decide⟩
  · exact ⟨3, by decide⟩
theorem own_cut {n lim t1 t2 t3 : Int} (n1 : 1 ≤ n) (n4 : n ≤ 4) (h12 : t1 < t2) (h23 : t2 < t3) : ∃ x : Int, 0 ≤ x ∧ x ≤ 3 ∧ x ≤ n - 1 ∧ (1 < n → (lim < t1 ↔ x < 1)) ∧ (2 < n → (lim < t2 ↔ x < 2)) ∧ (3 < n → (lim < t3 ↔ x < 3)) := by
  by_cases a1 : n ≤ 1 ∨ lim < t1
  · exact ⟨0, by omega⟩
  by_cases a2 : n ≤ 2 ∨ lim < t2
  · exact ⟨1, by omega⟩
  by_cases a3 : n ≤ 3 ∨ lim < t3
  · exact ⟨2, by omega⟩
  · exact ⟨3, by omega⟩
theorem own_row_ex {n : Int} {iv t1 t2 t3 ti ev : Int32} {en : UInt64} (n1 : 1 ≤ n) (n4 : n ≤ 4) (h12 : t1.toInt < t2.toInt) (h23 : t2.toInt < t3.toInt) (b1 : -100000 ≤ ti.toInt) (b2 : ti.toInt ≤ 100000) (v0 : 0 ≤ ev.toInt) (v1 : ev.toInt ≤ 255) (hen : (¬ iv = 0 ∧ en = own_inf) ∨ (iv = 0 ∧ en = FP.i2d ev)) : ∃ ee : Int32, own_row n iv t1 t2 t3 ti ev en ee := by
  rcases hen with ⟨hi, rfl⟩ | ⟨hi, rfl⟩
  · obtain ⟨ee, he⟩ := own_small (x := n - 1) (by omega) (by omega)
    have f : ∀ tk : Int32, ¬ own_late tk ti own_inf ∧ FP.dadd (FP.i2d ti) own_inf = own_inf ∧ FP.dadd (FP.dadd (FP.i2d ti) own_inf) own_eps = own_inf := fun tk => by
      obtain ⟨p1, p2, p3⟩ := own_tolinf (own_d_i2d ti) (own_d_i2d tk)
      refine ⟨?_, p1, by rw [p1, p2]⟩
      show ¬ (0 : Int32) < cmpValue (FP.dcmp (FP.i2d tk) (FP.dadd (FP.dadd (FP.i2d ti) own_inf) own_eps)) .g
      rw [p1, p2]; exact p3
    have ni : Jvm.Free.Fl.NoNaN64 own_inf := Jvm.Free.Fl.val64_no.mpr (by rw [own_val_inf]; exact Datum.noConfusion)
    refine ⟨ee, ⟨by omega, by omega⟩, ⟨by rw [(f ti).2.1]; exact ni, by rw [(f ti).2.2]; exact ni⟩, ⟨fun h => ?_, fun h => ?_, fun h => ?_⟩, fun _ => he, ⟨fun _ q => absurd q hi, fun _ q => absurd q hi, fun _ q => absurd q hi⟩⟩
    · exact ⟨fun q => absurd q (f t1).1, fun q => by omega⟩
    · exact ⟨fun q => absurd q (f t2).1, fun q => by omega⟩
    · exact ⟨fun q => absurd q (f t3).1, fun q => by omega⟩
  · obtain ⟨x, x0, x3, xn, c1, c2, c3⟩ := own_cut (lim := ti.toInt + ev.toInt) n1 n4 h12 h23
    obtain ⟨ee, he⟩ := own_small x0 x3
    have hs := own_d_add (own_d_i2d ti) (own_d_i2d ev) (by omega) (by decide) (by decide)
    have f : ∀ tk : Int32, _ := fun tk => own_tol hs (own_d_i2d tk) (by omega) (by omega)
    have hl : ∀ tk : Int32, (ti + ev < tk ↔ ti.toInt + ev.toInt < tk.toInt) := fun tk => by
      rw [Int32.lt_iff_toInt_lt]
      have hc := c_iadd ti ev
      have r := rng32 (ti + ev)
      have e : (ti + ev).toInt = ti.toInt + ev.toInt := by omega
      rw [e]
    subst he
    exact ⟨ee, ⟨x0, xn⟩, ⟨own_d_no hs, (f ti).1⟩, ⟨fun h => (f t1).2.trans (c1 h), fun h => (f t2).2.trans (c2 h), fun h => (f t3).2.trans (c3 h)⟩, fun q => absurd hi q, ⟨fun h _ => (hl t1).trans (c1 h), fun h _ => (hl t2).trans (c2 h), fun h _ => (hl t3).trans (c3 h)⟩⟩
theorem own_row_mono {n : Int} {iv t1 t2 t3 ti tj ev : Int32} {en : UInt64} {x y : Int32} (r : own_row n iv t1 t2 t3 ti ev en x) (s : own_row n iv t1 t2 t3 tj ev en y) (h : ti.toInt ≤ tj.toInt) (b1 : -100000 ≤ ti.toInt) (b2 : tj.toInt ≤ 100000) (v0 : 0 ≤ ev.toInt) (v1 : ev.toInt ≤ 255) (n4 : n ≤ 4) : x.toInt ≤ y.toInt := by
  obtain ⟨⟨r0, r1⟩, -, -, r2, r3, r4, r5⟩ := r
  obtain ⟨⟨s0, s1⟩, -, -, s2, s3, s4, s5⟩ := s
  by_cases hi : iv = 0
  · have e1 : (ti + ev).toInt = ti.toInt + ev.toInt := by
      have hc := c_iadd ti ev
      have r := rng32 (ti + ev)
      omega
    have e2 : (tj + ev).toInt = tj.toInt + ev.toInt := by
      have hc := c_iadd tj ev
      have r := rng32 (tj + ev)
      omega
    by_cases q : x.toInt ≤ y.toInt
    · exact q
    exfalso
    have : y.toInt = 0 ∨ y.toInt = 1 ∨ y.toInt = 2 := by omega
    rcases this with w | w | w
    · have a := Int32.lt_iff_toInt_lt.mp ((s3 (by omega) hi).mpr (by omega))
      have b := (r3 (by omega) hi).mp (Int32.lt_iff_toInt_lt.mpr (by omega))
      omega
    · have a := Int32.lt_iff_toInt_lt.mp ((s4 (by omega) hi).mpr (by omega))
      have b := (r4 (by omega) hi).mp (Int32.lt_iff_toInt_lt.mpr (by omega))
      omega
    · have a := Int32.lt_iff_toInt_lt.mp ((s5 (by omega) hi).mpr (by omega))
      have b := (r5 (by omega) hi).mp (Int32.lt_iff_toInt_lt.mpr (by omega))
      omega
  · rw [r2 hi, s2 hi]; exact Int.le_refl _
theorem own_fin {x j : Int32} {v : Int} (hj : j.toInt = v) (h1 : v ≤ x.toInt) (h2 : x.toInt < v + 1) : j = x := Int32.toInt_inj.mp (by omega)
theorem own_lo {x y z j : Int32} {v : Int} (hj : j.toInt = v) (h1 : y = z) (h2 : y = j) (h3 : z.toInt ≤ x.toInt) : v ≤ x.toInt := by subst h1; subst h2; omega
theorem own_c1 {x : Int32} (h0 : 0 ≤ x.toInt) (h1 : x.toInt ≤ 1 - 1) : x = 0 := Int32.toInt_inj.mp (by rw [show (0 : Int32).toInt = 0 by decide]; omega)
theorem own_c2 {x : Int32} (h0 : 0 ≤ x.toInt) (h1 : x.toInt ≤ 2 - 1) : x = 0 ∨ x = 1 := by
  have : x.toInt = 0 ∨ x.toInt = 1 := by omega
  rcases this with h | h
  · exact Or.inl (Int32.toInt_inj.mp h)
  · exact Or.inr (Int32.toInt_inj.mp h)
theorem own_c3 {x : Int32} (h0 : 0 ≤ x.toInt) (h1 : x.toInt ≤ 3 - 1) : x = 0 ∨ x = 1 ∨ x = 2 := by
  have : x.toInt = 0 ∨ x.toInt = 1 ∨ x.toInt = 2 := by omega
  rcases this with h | h | h
  · exact Or.inl (Int32.toInt_inj.mp h)
  · exact Or.inr (Or.inl (Int32.toInt_inj.mp h))
  · exact Or.inr (Or.inr (Int32.toInt_inj.mp h))
theorem own_c4 {x : Int32} (h0 : 0 ≤ x.toInt) (h1 : x.toInt ≤ 4 - 1) : x = 0 ∨ x = 1 ∨ x = 2 ∨ x = 3 := by
  have : x.toInt = 0 ∨ x.toInt = 1 ∨ x.toInt = 2 ∨ x.toInt = 3 := by omega
  rcases this with h | h | h | h
  · exact Or.inl (Int32.toInt_inj.mp h)
  · exact Or.inr (Or.inl (Int32.toInt_inj.mp h))
  · exact Or.inr (Or.inr (Or.inl (Int32.toInt_inj.mp h)))
  · exact Or.inr (Or.inr (Or.inr (Int32.toInt_inj.mp h)))
theorem own_rem5 (x : Int32) : (x &&& (2147483647 : Int32)) % (5 : Int32) = 0 ∨ (x &&& (2147483647 : Int32)) % (5 : Int32) = 1 ∨ (x &&& (2147483647 : Int32)) % (5 : Int32) = 2 ∨ (x &&& (2147483647 : Int32)) % (5 : Int32) = 3 ∨ (x &&& (2147483647 : Int32)) % (5 : Int32) = 4 := by
  have h := (c_irem (x &&& 2147483647) 5 5 (by decide)).1 (c_and x 2147483647 (by decide)).1
  generalize (x &&& (2147483647 : Int32)) % (5 : Int32) = u at *
  have : u.toInt = 0 ∨ u.toInt = 1 ∨ u.toInt = 2 ∨ u.toInt = 3 ∨ u.toInt = 4 := by omega
  rcases this with h | h | h | h | h
  · exact Or.inl (Int32.toInt_inj.mp h)
  · exact Or.inr (Or.inl (Int32.toInt_inj.mp h))
  · exact Or.inr (Or.inr (Or.inl (Int32.toInt_inj.mp h)))
  · exact Or.inr (Or.inr (Or.inr (Or.inl (Int32.toInt_inj.mp h))))
  · exact Or.inr (Or.inr (Or.inr (Or.inr (Int32.toInt_inj.mp h))))
theorem own_t0 (a : Int32) : -32768 ≤ ((a &&& (65535 : Int32)) - (32768 : Int32)).toInt ∧ ((a &&& (65535 : Int32)) - (32768 : Int32)).toInt ≤ 32767 := by
  have h := c_and a 65535 (by decide)
  rw [show (65535 : Int32).toInt = 65535 by decide] at h
  have hc := c_isub (a &&& 65535) 32768
  rw [show (32768 : Int32).toInt = 32768 by decide] at hc
  have r := rng32 ((a &&& 65535) - 32768)
  omega
theorem own_tn {t b : Int32} (h1 : -40000 ≤ t.toInt) (h2 : t.toInt ≤ 40000) : t.toInt < ((t + (1 : Int32)) + (b &&& (63 : Int32))).toInt ∧ ((t + (1 : Int32)) + (b &&& (63 : Int32))).toInt ≤ t.toInt + 64 := by
  have h := c_and b 63 (by decide)
  rw [show (63 : Int32).toInt = 63 by decide] at h
  have hc := c_iadd t 1
  rw [show (1 : Int32).toInt = 1 by decide] at hc
  have r := rng32 (t + 1)
  have hc' := c_iadd (t + 1) (b &&& 63)
  have r' := rng32 ((t + 1) + (b &&& 63))
  omega
end OwnTol
theorem own_pd__DD_V : parseMethodDescriptor "(DD)V" = some ⟨[.double, .double], none⟩ := by decide +kernel
theorem own_pd___V : parseMethodDescriptor "()V" = some ⟨[], none⟩ := by decide +kernel
theorem own_pd___D__I : parseMethodDescriptor "([D)[I" = some ⟨[(.array .double)], some (.array .int)⟩ := by decide +kernel
theorem own_pd___III_IIZ_Z : parseMethodDescriptor "([III[IIZ)Z" = some ⟨[(.array .int), .int, .int, (.array .int), .int, .boolean], some .boolean⟩ := by decide +kernel
abbrev own_mn0 : MethodName := ⟨"com/example/counterpath/counterpath/core/Window", "<init>", "(DD)V"⟩
abbrev own_mn1 : MethodName := ⟨"com/example/counterpath/counterpath/core/Window", "lasts", "([D)[I"⟩
abbrev own_mn2 : MethodName := ⟨"com/example/counterpath/counterpath/core/WindowLastsPinLaw", "check", "([III[IIZ)Z"⟩
theorem own_W0 {a0 : Array Value} {Z : State} (hw : ∀ d ∈ tables_1, d.before a0 Z = true) : Jvm.Cond.before (Jvm.Cond.constant "com/example/counterpath/counterpath/core/WindowLastsPinLaw" (7 : Nat) (2147483647 : Int32)) a0 Z = true := hw _ (List.mem_of_getElem? (i := 0) rfl)
theorem own_W1 {a0 : Array Value} {Z : State} (hw : ∀ d ∈ tables_1, d.before a0 Z = true) : Jvm.Cond.before (Jvm.Cond.constant "com/example/counterpath/counterpath/core/WindowLastsPinLaw" (8 : Nat) (65535 : Int32)) a0 Z = true := hw _ (List.mem_of_getElem? (i := 1) rfl)
theorem own_W2 {a0 : Array Value} {Z : State} (hw : ∀ d ∈ tables_1, d.before a0 Z = true) : Jvm.Cond.before (Jvm.Cond.constant "com/example/counterpath/counterpath/core/WindowLastsPinLaw" (9 : Nat) (32768 : Int32)) a0 Z = true := hw _ (List.mem_of_getElem? (i := 2) rfl)
theorem own_W3 {a0 : Array Value} {Z : State} (hw : ∀ d ∈ tables_1, d.before a0 Z = true) : Jvm.Cond.before (Jvm.Cond.arrayClass Jvm.ClassFile.FieldType.int) a0 Z = true := hw _ (List.mem_of_getElem? (i := 3) rfl)
theorem own_W4 {a0 : Array Value} {Z : State} (hw : ∀ d ∈ tables_1, d.before a0 Z = true) : Jvm.Cond.before (Jvm.Cond.arrayClass Jvm.ClassFile.FieldType.double) a0 Z = true := hw _ (List.mem_of_getElem? (i := 4) rfl)
theorem own_W5 {a0 : Array Value} {Z : State} (hw : ∀ d ∈ tables_1, d.before a0 Z = true) : Jvm.Cond.before (Jvm.Cond.classLink "com/example/counterpath/counterpath/core/WindowLastsPinLaw" (10 : Nat) "com/example/counterpath/counterpath/core/Window") a0 Z = true := hw _ (List.mem_of_getElem? (i := 5) rfl)
theorem own_W6 {a0 : Array Value} {Z : State} (hw : ∀ d ∈ tables_1, d.before a0 Z = true) : Jvm.Cond.before (Jvm.Cond.instantiable "com/example/counterpath/counterpath/core/Window" (2 : Nat)) a0 Z = true := hw _ (List.mem_of_getElem? (i := 6) rfl)
theorem own_W7 {a0 : Array Value} {Z : State} (hw : ∀ d ∈ tables_1, d.before a0 Z = true) : Jvm.Cond.before (Jvm.Cond.initialized "com/example/counterpath/counterpath/core/Window") a0 Z = true := hw _ (List.mem_of_getElem? (i := 7) rfl)
theorem own_W8 {a0 : Array Value} {Z : State} (hw : ∀ d ∈ tables_1, d.before a0 Z = true) : Jvm.Cond.before (Jvm.Cond.methodLink "com/example/counterpath/counterpath/core/WindowLastsPinLaw" (16 : Nat) ({ cls := "com/example/counterpath/counterpath/core/Window", name := "<init>", desc := "(DD)V" } : Jvm.MethodName)) a0 Z = true := hw _ (List.mem_of_getElem? (i := 8) rfl)
theorem own_W9 {a0 : Array Value} {Z : State} (hw : ∀ d ∈ tables_1, d.before a0 Z = true) : Jvm.Cond.before (Jvm.Cond.instanceMethod ({ cls := "com/example/counterpath/counterpath/core/Window", name := "<init>", desc := "(DD)V" } : Jvm.MethodName)) a0 Z = true := hw _ (List.mem_of_getElem? (i := 9) rfl)
theorem own_W10 {a0 : Array Value} {Z : State} (hw : ∀ d ∈ tables_1, d.before a0 Z = true) : Jvm.Cond.before (Jvm.Cond.code ({ cls := "com/example/counterpath/counterpath/core/Window", name := "<init>", desc := "(DD)V" } : Jvm.MethodName) prog_33_method_1_code (5 : Nat) (Option.none : Option Jvm.ClassFile.FieldType)) a0 Z = true := hw _ (List.mem_of_getElem? (i := 10) rfl)
theorem own_W11 {a0 : Array Value} {Z : State} (hw : ∀ d ∈ tables_1, d.before a0 Z = true) : Jvm.Cond.before (Jvm.Cond.methodLink "com/example/counterpath/counterpath/core/Window" (1 : Nat) ({ cls := "java/lang/Object", name := "<init>", desc := "()V" } : Jvm.MethodName)) a0 Z = true := hw _ (List.mem_of_getElem? (i := 11) rfl)
theorem own_W12 {a0 : Array Value} {Z : State} (hw : ∀ d ∈ tables_1, d.before a0 Z = true) : Jvm.Cond.before (Jvm.Cond.instanceMethod ({ cls := "java/lang/Object", name := "<init>", desc := "()V" } : Jvm.MethodName)) a0 Z = true := hw _ (List.mem_of_getElem? (i := 12) rfl)
theorem own_W13 {a0 : Array Value} {Z : State} (hw : ∀ d ∈ tables_1, d.before a0 Z = true) : Jvm.Cond.before (Jvm.Cond.code ({ cls := "java/lang/Object", name := "<init>", desc := "()V" } : Jvm.MethodName) object_method_1_code (1 : Nat) (Option.none : Option Jvm.ClassFile.FieldType)) a0 Z = true := hw _ (List.mem_of_getElem? (i := 13) rfl)
theorem own_W14 {a0 : Array Value} {Z : State} (hw : ∀ d ∈ tables_1, d.before a0 Z = true) : Jvm.Cond.before (Jvm.Cond.fieldLink "com/example/counterpath/counterpath/core/Window" (7 : Nat) "com/example/counterpath/counterpath/core/Window" "start" "D") a0 Z = true := hw _ (List.mem_of_getElem? (i := 14) rfl)
theorem own_W15 {a0 : Array Value} {Z : State} (hw : ∀ d ∈ tables_1, d.before a0 Z = true) : Jvm.Cond.before (Jvm.Cond.laysFinal "com/example/counterpath/counterpath/core/Window" "com/example/counterpath/counterpath/core/Window" "start" "D") a0 Z = true := hw _ (List.mem_of_getElem? (i := 15) rfl)
theorem own_W16 {a0 : Array Value} {Z : State} (hw : ∀ d ∈ tables_1, d.before a0 Z = true) : Jvm.Cond.before (Jvm.Cond.fieldLink "com/example/counterpath/counterpath/core/Window" (13 : Nat) "com/example/counterpath/counterpath/core/Window" "end" "D") a0 Z = true := hw _ (List.mem_of_getElem? (i := 16) rfl)
theorem own_W17 {a0 : Array Value} {Z : State} (hw : ∀ d ∈ tables_1, d.before a0 Z = true) : Jvm.Cond.before (Jvm.Cond.laysFinal "com/example/counterpath/counterpath/core/Window" "com/example/counterpath/counterpath/core/Window" "end" "D") a0 Z = true := hw _ (List.mem_of_getElem? (i := 17) rfl)
theorem own_W18 {a0 : Array Value} {Z : State} (hw : ∀ d ∈ tables_1, d.before a0 Z = true) : Jvm.Cond.before (Jvm.Cond.methodLink "com/example/counterpath/counterpath/core/WindowLastsPinLaw" (19 : Nat) ({ cls := "com/example/counterpath/counterpath/core/Window", name := "lasts", desc := "([D)[I" } : Jvm.MethodName)) a0 Z = true := hw _ (List.mem_of_getElem? (i := 18) rfl)
theorem own_W19 {a0 : Array Value} {Z : State} (hw : ∀ d ∈ tables_1, d.before a0 Z = true) : Jvm.Cond.before (Jvm.Cond.declares ({ cls := "com/example/counterpath/counterpath/core/Window", name := "lasts", desc := "([D)[I" } : Jvm.MethodName)) a0 Z = true := hw _ (List.mem_of_getElem? (i := 19) rfl)
theorem own_W20 {a0 : Array Value} {Z : State} (hw : ∀ d ∈ tables_1, d.before a0 Z = true) : Jvm.Cond.before (Jvm.Cond.instanceMethod ({ cls := "com/example/counterpath/counterpath/core/Window", name := "lasts", desc := "([D)[I" } : Jvm.MethodName)) a0 Z = true := hw _ (List.mem_of_getElem? (i := 20) rfl)
theorem own_W21 {a0 : Array Value} {Z : State} (hw : ∀ d ∈ tables_1, d.before a0 Z = true) : Jvm.Cond.before (Jvm.Cond.selects "com/example/counterpath/counterpath/core/Window" ({ cls := "com/example/counterpath/counterpath/core/Window", name := "lasts", desc := "([D)[I" } : Jvm.MethodName) ({ cls := "com/example/counterpath/counterpath/core/Window", name := "lasts", desc := "([D)[I" } : Jvm.MethodName)) a0 Z = true := hw _ (List.mem_of_getElem? (i := 21) rfl)
theorem own_W22 {a0 : Array Value} {Z : State} (hw : ∀ d ∈ tables_1, d.before a0 Z = true) : Jvm.Cond.before (Jvm.Cond.code ({ cls := "com/example/counterpath/counterpath/core/Window", name := "lasts", desc := "([D)[I" } : Jvm.MethodName) prog_33_method_3_code (5 : Nat) (Option.some (Jvm.ClassFile.FieldType.array Jvm.ClassFile.FieldType.int))) a0 Z = true := hw _ (List.mem_of_getElem? (i := 22) rfl)
theorem own_W23 {a0 : Array Value} {Z : State} (hw : ∀ d ∈ tables_1, d.before a0 Z = true) : Jvm.Cond.before (Jvm.Cond.methodLink "com/example/counterpath/counterpath/core/WindowLastsPinLaw" (23 : Nat) ({ cls := "com/example/counterpath/counterpath/core/WindowLastsPinLaw", name := "check", desc := "([III[IIZ)Z" } : Jvm.MethodName)) a0 Z = true := hw _ (List.mem_of_getElem? (i := 23) rfl)
theorem own_W24 {a0 : Array Value} {Z : State} (hw : ∀ d ∈ tables_1, d.before a0 Z = true) : Jvm.Cond.before (Jvm.Cond.static ({ cls := "com/example/counterpath/counterpath/core/WindowLastsPinLaw", name := "check", desc := "([III[IIZ)Z" } : Jvm.MethodName)) a0 Z = true := hw _ (List.mem_of_getElem? (i := 24) rfl)
theorem own_W25 {a0 : Array Value} {Z : State} (hw : ∀ d ∈ tables_1, d.before a0 Z = true) : Jvm.Cond.before (Jvm.Cond.initialized "com/example/counterpath/counterpath/core/WindowLastsPinLaw") a0 Z = true := hw _ (List.mem_of_getElem? (i := 25) rfl)
theorem own_W26 {a0 : Array Value} {Z : State} (hw : ∀ d ∈ tables_1, d.before a0 Z = true) : Jvm.Cond.before (Jvm.Cond.code ({ cls := "com/example/counterpath/counterpath/core/WindowLastsPinLaw", name := "check", desc := "([III[IIZ)Z" } : Jvm.MethodName) method_3_code (8 : Nat) (Option.some Jvm.ClassFile.FieldType.boolean)) a0 Z = true := hw _ (List.mem_of_getElem? (i := 26) rfl)
theorem own_W27 {a0 : Array Value} {Z : State} (hw : ∀ d ∈ tables_1, d.before a0 Z = true) : Jvm.Cond.before (Jvm.Cond.constantDouble "com/example/counterpath/counterpath/core/Window" (24 : Nat) (4472406533629990549 : UInt64)) a0 Z = true := hw _ (List.mem_of_getElem? (i := 27) rfl)
theorem own_W28 {a0 : Array Value} {Z : State} (hw : ∀ d ∈ tables_1, d.before a0 Z = true) : Jvm.Cond.before (Jvm.Cond.constantDouble "com/example/counterpath/counterpath/core/WindowLastsPinLaw" (14 : Nat) (9218868437227405312 : UInt64)) a0 Z = true := hw _ (List.mem_of_getElem? (i := 28) rfl)
def QZ (h0 : Heap) (n0 : Nat) (v : Option Value) (h : Heap) (L : List Loc) : Prop := v = some (.int 1) ∧ Fr n0 L ∧ h = h0
def QW (Z : State) (a : Addr) (z2 : UInt64) (h0 : Heap) (n0 : Nat) (v : Option Value) (h : Heap) (L : List Loc) : Prop := v = none ∧ Fr n0 L ∧ Keep h0 h [a] ∧ Fld Z h a "com/example/counterpath/counterpath/core/Window" "end" "D" (.double z2)
theorem d1_0 : decode prog_33_method_1_code 0 = .ok (.aload_n 0, 1) := by decide +kernel
theorem d1_1 : decode prog_33_method_1_code 1 = .ok (.invokespecial 1, 3) := by decide +kernel
theorem d1_4 : decode prog_33_method_1_code 4 = .ok (.aload_n 0, 1) := by decide +kernel
theorem d1_5 : decode prog_33_method_1_code 5 = .ok (.dload_n 1, 1) := by decide +kernel
theorem d1_6 : decode prog_33_method_1_code 6 = .ok (.putfield 7, 3) := by decide +kernel
theorem d1_9 : decode prog_33_method_1_code 9 = .ok (.aload_n 0, 1) := by decide +kernel
theorem d1_10 : decode prog_33_method_1_code 10 = .ok (.dload_n 3, 1) := by decide +kernel
theorem d1_11 : decode prog_33_method_1_code 11 = .ok (.putfield 13, 3) := by decide +kernel
theorem d1_14 : decode prog_33_method_1_code 14 = .ok (.return_, 1) := by decide +kernel
theorem own_pn_com_example_counterpath_counterpath_core_Window : plainName "com/example/counterpath/counterpath/core/Window" = true := by first | (simp [plainName, overriddenIn]; done) | decide +kernel
theorem own_ef1 (m : MethodId) (x0 : Addr) (x1 : UInt64) (x2 : UInt64) : entryFrame m #[(.ref x0), (.double x1), (.double x2)] 5 = mkF m 0 #[.val (.ref x0), .val (.double x1), .second, .val (.double x2), .second] [] := by first | (simp [entryFrame, mkF, argsToLocals, Value.category]; done) | rfl
set_option maxRecDepth 65536 in
set_option maxHeartbeats 40000000 in
theorem rmWi (l : Launch) (Z : State) (a0 : Array Value) (hw : ∀ d ∈ tables_1, d.before a0 Z = true) (ws : List Jvm.Cond) (a : Addr) (z1 : UInt64) (z2 : UInt64)  (h0 : Heap) (n0 : Nat) (Z0 : n0 ≤ h0.size) (E7 : Exa Z h0 a "com/example/counterpath/counterpath/core/Window") (F1 : Fld Z h0 a "com/example/counterpath/counterpath/core/Window" "start" "D" (.double (0 : UInt64))) (F2 : Fld Z h0 a "com/example/counterpath/counterpath/core/Window" "end" "D" (.double (0 : UInt64))) (ga : n0 ≤ a) :
    MetFree l (⟨"com/example/counterpath/counterpath/core/Window", "<init>", "(DD)V"⟩ : MethodName) (head1 (Jvm.Cond.code (⟨"com/example/counterpath/counterpath/core/Window", "<init>", "(DD)V"⟩ : MethodName) prog_33_method_1_code 5 none :: ws) ({ frames := 1, cells := 0, slots := 0, locals := 12 } : Room)) (fun α U => α = #[(.ref a), (.double z1), (.double z2)] ∧ Z.Warmed39 U.vm ∧ U.heap = h0) (fun _ _ _ _ _ => True) (fun _ U ω U' => ∃ ν Λ, ω = .returned ν ∧ QW Z a z2 h0 n0 ν U'.heap Λ ∧ FrameEnd U ω U' Λ ({ frames := 1, cells := 0, slots := 0, locals := 12 } : Room).cells ({ frames := 1, cells := 0, slots := 0, locals := 12 } : Room).slots) := by
  refine MetFree.of_bodySF (plainFor_of_name own_pn_com_example_counterpath_counterpath_core_Window) hisR ?_
  intro p e s m args below meth c s₁ Bd hml0 hP hK
  obtain ⟨rfl, hZ, hh⟩ := hP
  have hx := Bd.exec
  have hby := Bd.bytes
  have hml : c.maxLocals = 5 := hml0
  have hown : s.vm.findClass "com/example/counterpath/counterpath/core/Window" = some m.cls := findClass_of_methodNamed Bd.named
  have hnm := (name_of_methodNamed Bd.named Bd.method).1
  have X0 : Stand p l e ({ frames := 1, cells := 0, slots := 0, locals := 12 } : Room) s m #[(.ref a), (.double z1), (.double z2)] below meth c s₁ [] 0 0 := Stand.of_body Bd
  have e0 : s₁.heap = h0 := by rw [← hh, Bd.state]; rfl
  have N0 := Fr.nil n0
  have KK0 : Keep h0 h0 [a] := Keep.refl h0 [a]
  obtain ⟨PS, hPS⟩ : ∃ P : State → Prop, P = fun τ => Steps p.tables e below (s₁.setTop (entryFrame m #[(.ref a), (.double z1), (.double z2)] 5)) τ := ⟨_, rfl⟩
  have pre0 : ∀ τ, Steps p.tables e below (s₁.setTop (mkF m 0 #[.val (.ref a), .val (.double z1), .second, .val (.double z2), .second] [])) τ → PS τ := by rw [hPS]; exact fun τ κ => castTop (own_ef1 m a z1 z2) κ
  obtain ⟨T1, X1, e1, st1⟩ := initO X0 hx hZ hown (own_W11 hw) (own_W12 hw) (own_W13 hw) e0 (g := (mkF m 1 #[.val (.ref a), .val (.double z1), .second, .val (.double z2), .second] [(.ref a)])) rfl (by rw [hml]; rfl) rfl (Jvm.hb hby d1_1) (by decide) (W := 0) (by show 2 * 0 + _ ≤ _; exact Nat.le_of_eq rfl) (by decide)
  have pre2 := fun (τ : State) kt => pre0 τ (by
    show Steps p.tables e below (s₁.setTop (mkF m 0 #[.val (.ref a), .val (.double z1), .second, .val (.double z2), .second] [])) τ
    refine XS.aloadN X0.here hx rfl (Jvm.hb hby d1_0) rfl rfl ?_
    exact st1 τ kt)
  obtain ⟨T3, h3, X3, e3, W3, st3⟩ := putF X1 hx hZ hown (host := "") (Or.inl (own_W14 hw)) Via.refl e1 F1 E7 (Or.inr ⟨(own_W15 hw), rfl, hnm⟩) (own_W6 hw) (ty := .double) (by decide) rfl rfl (g := (mkF m 6 #[.val (.ref a), .val (.double z1), .second, .val (.double z2), .second] [(.double z1), (.ref a)])) rfl rfl (Jvm.hb hby d1_6)
  have fw3 := Fld.same W3 F1
  have N3 := Fr.snoc X3 N0 ga
  have K3 : Keep h0 h3 [a] := KK0.wr W3 (Or.inl (by simp))
  have pre4 := fun (τ : State) kt => pre2 τ (by
    show Steps p.tables e below (T1.setTop (mkF m 4 #[.val (.ref a), .val (.double z1), .second, .val (.double z2), .second] [])) τ
    refine XS.aloadN X1.here hx rfl (Jvm.hb hby d1_4) rfl rfl ?_
    refine own_dloadN X1.here hx rfl (Jvm.hb hby d1_5) rfl ?_
    exact st3 τ kt)
  have f6 := (F2.other W3 (Or.inr (slot_ne (Or.inr (own_W17 hw)) (Or.inr (own_W15 hw)) (by decide) (t := .double) (t' := .double) (by decide) (by decide))))
  have f7 := E7.wr W3
  obtain ⟨T5, h5, X5, e5, W5, st5⟩ := putF X3 hx hZ hown (host := "") (Or.inl (own_W16 hw)) Via.refl e3 f6 f7 (Or.inr ⟨(own_W17 hw), rfl, hnm⟩) (own_W6 hw) (ty := .double) (by decide) rfl rfl (g := (mkF m 11 #[.val (.ref a), .val (.double z1), .second, .val (.double z2), .second] [(.double z2), (.ref a)])) rfl rfl (Jvm.hb hby d1_11)
  have fw5 := Fld.same W5 f6
  have N5 := Fr.snoc X5 N3 ga
  have K5 : Keep h0 h5 [a] := K3.wr W5 (Or.inl (by simp))
  have pre8 := fun (τ : State) kt => pre4 τ (by
    show Steps p.tables e below (T3.setTop (mkF m 9 #[.val (.ref a), .val (.double z1), .second, .val (.double z2), .second] [])) τ
    refine XS.aloadN X3.here hx rfl (Jvm.hb hby d1_9) rfl rfl ?_
    refine own_dloadN X3.here hx rfl (Jvm.hb hby d1_10) rfl ?_
    exact st5 τ kt)
  obtain ⟨fs, hrL, hrun, hended, hW, hsame⟩ := X5.leave (v := none) (fun _ => rfl)
  refine ⟨_, _, cast (congrFun hPS _) (pre8 _ ?_), hrun, hended, _, _, rfl, ?_, ⟨_, rfl⟩, hW, hsame.mono (by decide) (by decide)⟩
  · show Steps p.tables e below (T5.setTop (mkF m 14 #[.val (.ref a), .val (.double z1), .second, .val (.double z2), .second] [])) _
    exact X5.returnOut hx Bd.returns (Jvm.hb hby d1_14) hrL
  · show QW Z a z2 h0 n0 _ T5.heap _
    rw [e5]
    exact ⟨rfl, N5, K5, fw5⟩
theorem d3_0 : decode prog_33_method_3_code 0 = .ok (.aload_n 1, 1) := by decide +kernel
theorem d3_1 : decode prog_33_method_3_code 1 = .ok (.arraylength, 1) := by decide +kernel
theorem d3_2 : decode prog_33_method_3_code 2 = .ok (.newarray .int, 2) := by decide +kernel
theorem d3_4 : decode prog_33_method_3_code 4 = .ok (.astore_n 2, 1) := by decide +kernel
theorem d3_5 : decode prog_33_method_3_code 5 = .ok (.iconst 0, 1) := by decide +kernel
theorem d3_6 : decode prog_33_method_3_code 6 = .ok (.istore_n 3, 1) := by decide +kernel
theorem d3_7 : decode prog_33_method_3_code 7 = .ok (.iconst 0, 1) := by decide +kernel
theorem d3_8 : decode prog_33_method_3_code 8 = .ok (.istore 4, 2) := by decide +kernel
theorem d3_10 : decode prog_33_method_3_code 10 = .ok (.iload 4, 2) := by decide +kernel
theorem d3_12 : decode prog_33_method_3_code 12 = .ok (.aload_n 1, 1) := by decide +kernel
theorem d3_13 : decode prog_33_method_3_code 13 = .ok (.arraylength, 1) := by decide +kernel
theorem d3_14 : decode prog_33_method_3_code 14 = .ok (.if_icmp .ge 50, 3) := by decide +kernel
theorem d3_17 : decode prog_33_method_3_code 17 = .ok (.iload_n 3, 1) := by decide +kernel
theorem d3_18 : decode prog_33_method_3_code 18 = .ok (.iconst 1, 1) := by decide +kernel
theorem d3_19 : decode prog_33_method_3_code 19 = .ok (.iadd, 1) := by decide +kernel
theorem d3_20 : decode prog_33_method_3_code 20 = .ok (.aload_n 1, 1) := by decide +kernel
theorem d3_21 : decode prog_33_method_3_code 21 = .ok (.arraylength, 1) := by decide +kernel
theorem d3_22 : decode prog_33_method_3_code 22 = .ok (.if_icmp .ge 31, 3) := by decide +kernel
theorem d3_25 : decode prog_33_method_3_code 25 = .ok (.aload_n 1, 1) := by decide +kernel
theorem d3_26 : decode prog_33_method_3_code 26 = .ok (.iload_n 3, 1) := by decide +kernel
theorem d3_27 : decode prog_33_method_3_code 27 = .ok (.iconst 1, 1) := by decide +kernel
theorem d3_28 : decode prog_33_method_3_code 28 = .ok (.iadd, 1) := by decide +kernel
theorem d3_29 : decode prog_33_method_3_code 29 = .ok (.daload, 1) := by decide +kernel
theorem d3_30 : decode prog_33_method_3_code 30 = .ok (.aload_n 1, 1) := by decide +kernel
theorem d3_31 : decode prog_33_method_3_code 31 = .ok (.iload 4, 2) := by decide +kernel
theorem d3_33 : decode prog_33_method_3_code 33 = .ok (.daload, 1) := by decide +kernel
theorem d3_34 : decode prog_33_method_3_code 34 = .ok (.aload_n 0, 1) := by decide +kernel
theorem d3_35 : decode prog_33_method_3_code 35 = .ok (.getfield 13, 3) := by decide +kernel
theorem d3_38 : decode prog_33_method_3_code 38 = .ok (.dadd, 1) := by decide +kernel
theorem d3_39 : decode prog_33_method_3_code 39 = .ok (.ldc2_w 24, 3) := by decide +kernel
theorem d3_42 : decode prog_33_method_3_code 42 = .ok (.dadd, 1) := by decide +kernel
theorem d3_43 : decode prog_33_method_3_code 43 = .ok (.dcmp .g, 1) := by decide +kernel
theorem d3_44 : decode prog_33_method_3_code 44 = .ok (.ifCond .gt 9, 3) := by decide +kernel
theorem d3_47 : decode prog_33_method_3_code 47 = .ok (.iinc 3 1, 3) := by decide +kernel
theorem d3_50 : decode prog_33_method_3_code 50 = .ok (.goto (-33), 3) := by decide +kernel
theorem d3_53 : decode prog_33_method_3_code 53 = .ok (.aload_n 2, 1) := by decide +kernel
theorem d3_54 : decode prog_33_method_3_code 54 = .ok (.iload 4, 2) := by decide +kernel
theorem d3_56 : decode prog_33_method_3_code 56 = .ok (.iload_n 3, 1) := by decide +kernel
theorem d3_57 : decode prog_33_method_3_code 57 = .ok (.iastore, 1) := by decide +kernel
theorem d3_58 : decode prog_33_method_3_code 58 = .ok (.iinc 4 1, 3) := by decide +kernel
theorem d3_61 : decode prog_33_method_3_code 61 = .ok (.goto (-51), 3) := by decide +kernel
theorem d3_64 : decode prog_33_method_3_code 64 = .ok (.aload_n 2, 1) := by decide +kernel
theorem d3_65 : decode prog_33_method_3_code 65 = .ok (.areturn, 1) := by decide +kernel
theorem own_ef3 (m : MethodId) (x0 : Addr) (x1 : Addr) : entryFrame m #[(.ref x0), (.ref x1)] 5 = mkF m 0 #[.val (.ref x0), .val (.ref x1), .unset, .unset, .unset] [] := by first | (simp [entryFrame, mkF, argsToLocals, Value.category]; done) | rfl
def QL0 (Z : State)  (h0 : Heap) (n0 : Nat) (v : Option Value) (h : Heap) (L : List Loc) : Prop := ∃ (r : Addr) (kr : ClassId), v = some (.ref r) ∧ Fr n0 L ∧ Keep h0 h [] ∧ n0 ≤ r ∧ h0.size ≤ r ∧ Arv Z h r kr .int (0 : Int32) [] (.int (0 : Int32))
set_option maxRecDepth 65536 in
set_option maxHeartbeats 40000000 in
theorem rmL0 (l : Launch) (Z : State) (a0 : Array Value) (hw : ∀ d ∈ tables_1, d.before a0 Z = true) (ws : List Jvm.Cond) (a : Addr) (b : Addr) (kb : ClassId) (iv t0 t1 t2 t3 ev  : Int32) (en : UInt64) (h0 : Heap) (n0 : Nat) (Z0 : n0 ≤ h0.size) (E7 : Exa Z h0 a "com/example/counterpath/counterpath/core/Window") (F2 : Fld Z h0 a "com/example/counterpath/counterpath/core/Window" "end" "D" (.double en)) (VB : Arv Z h0 b kb .double (0 : Int32) [] (.double (0 : UInt64))) :
    MetFree l (⟨"com/example/counterpath/counterpath/core/Window", "lasts", "([D)[I"⟩ : MethodName) (head1 (Jvm.Cond.code (⟨"com/example/counterpath/counterpath/core/Window", "lasts", "([D)[I"⟩ : MethodName) prog_33_method_3_code 5 (some (.array .int)) :: ws) ({ frames := 0, cells := 1, slots := 0, locals := 0 } : Room)) (fun α U => α = #[(.ref a), (.ref b)] ∧ Z.Warmed39 U.vm ∧ U.heap = h0) (fun _ _ _ _ _ => True) (fun _ U ω U' => ∃ ν Λ, ω = .returned ν ∧ QL0 Z h0 n0 ν U'.heap Λ ∧ FrameEnd U ω U' Λ ({ frames := 0, cells := 1, slots := 0, locals := 0 } : Room).cells ({ frames := 0, cells := 1, slots := 0, locals := 0 } : Room).slots) := by
  refine MetFree.of_bodySF (plainFor_of_name own_pn_com_example_counterpath_counterpath_core_Window) hisR ?_
  intro p e s m args below meth c s₁ Bd hml0 hP hK
  obtain ⟨rfl, hZ, hh⟩ := hP
  have hx := Bd.exec
  have hby := Bd.bytes
  have hml : c.maxLocals = 5 := hml0
  have hown : s.vm.findClass "com/example/counterpath/counterpath/core/Window" = some m.cls := findClass_of_methodNamed Bd.named
  have hnm := (name_of_methodNamed Bd.named Bd.method).1
  have X0 : Stand p l e ({ frames := 0, cells := 1, slots := 0, locals := 0 } : Room) s m #[(.ref a), (.ref b)] below meth c s₁ [] 0 0 := Stand.of_body Bd
  have e0 : s₁.heap = h0 := by rw [← hh, Bd.state]; rfl
  have N0 := Fr.nil n0
  have KK0 : Keep h0 h0 [] := Keep.refl h0 []
  obtain ⟨PS, hPS⟩ : ∃ P : State → Prop, P = fun τ => Steps p.tables e below (s₁.setTop (entryFrame m #[(.ref a), (.ref b)] 5)) τ := ⟨_, rfl⟩
  have pre0 : ∀ τ, Steps p.tables e below (s₁.setTop (mkF m 0 #[.val (.ref a), .val (.ref b), .unset, .unset, .unset] [])) τ → PS τ := by rw [hPS]; exact fun τ κ => castTop (own_ef3 m a b) κ
  obtain ⟨cl9, Ar9, q9, S9, M9, H9, U9⟩ := id VB
  have pre10 := fun (τ : State) kt => pre0 τ (by
    show Steps p.tables e below (s₁.setTop (mkF m 0 #[.val (.ref a), .val (.ref b), .unset, .unset, .unset] [])) τ
    refine XS.aloadN X0.here hx rfl (Jvm.hb hby d3_0) rfl rfl ?_
    refine X0.arraylength hx ((congrArg (fun (HH : Heap) => HH[b]?) (e0 : s₁.heap = h0)).trans Ar9.1) (State.isArrayOf_alike hZ.alike Ar9.2.1) (g := (mkF m 1 #[.val (.ref a), .val (.ref b), .unset, .unset, .unset] [(.ref b)])) rfl rfl (Jvm.hb hby d3_1) _ ?_
    exact kt)
  have pre11 : ∀ τ, Steps p.tables e below (s₁.setTop (mkF m 2 #[.val (.ref a), .val (.ref b), .unset, .unset, .unset] [(.int (0 : Int32))])) τ → PS τ := by
    have hq := pre10
    rw [len_of S9 M9] at hq
    exact hq
  obtain ⟨T12, h12, k12, X12, e12, E12, A12, st12⟩ := newP (aty := .int) X0 hx hZ (own_W3 hw) e0 (g := (mkF m 2 #[.val (.ref a), .val (.ref b), .unset, .unset, .unset] [(.int (0 : Int32))])) rfl (Jvm.hb hby d3_2) rfl (by decide) (cap := 0) (by decide) (by decide) (by decide) (by decide)
  obtain ⟨r, g12⟩ : ∃ z, z = h0.size := ⟨_, rfl⟩
  rw [← g12] at A12 st12
  have ne_a_r : a ≠ r := Nat.ne_of_lt (Nat.lt_of_lt_of_le E7.lt (Nat.le_of_eq g12.symm))
  have ne_b_r : b ≠ r := Nat.ne_of_lt (Nat.lt_of_lt_of_le VB.lt (Nat.le_of_eq g12.symm))
  have g_r : n0 ≤ r := Nat.le_trans (Nat.le_trans Z0 KK0.1) (Nat.le_of_eq g12.symm)
  have sz_r : h0.size ≤ r := Nat.le_trans KK0.1 (Nat.le_of_eq g12.symm)
  have K12 : Keep h0 h12 [] := KK0.ext E12
  have V_r : Arv Z h12 r k12 .int (0 : Int32) [] (.int (0 : Int32)) := (Arv.new A12 (by decide)).pad (pad_rep [] (.int (0 : Int32)) 0)
  have pre13 := fun (τ : State) kt => pre11 τ (st12 τ kt)
  have f14 := VB.ext E12
  obtain ⟨cl15, Ar15, q15, S15, M15, H15, U15⟩ := id f14
  have pre16 := fun (τ : State) kt => pre13 τ (by
    show Steps p.tables e below (T12.setTop (mkF m 4 #[.val (.ref a), .val (.ref b), .unset, .unset, .unset] [(.ref r)])) τ
    refine XS.astoreN X12.here hx rfl (Jvm.hb hby d3_4) rfl rfl (l' := #[.val (.ref a), .val (.ref b), .val (.ref r), .unset, .unset]) rfl ?_
    refine XS.iconst X12.here hx rfl (Jvm.hb hby d3_5) ?_
    refine XS.istoreN X12.here hx rfl (Jvm.hb hby d3_6) rfl (l' := #[.val (.ref a), .val (.ref b), .val (.ref r), .val (.int (0 : Int32)), .unset]) rfl ?_
    refine XS.iconst X12.here hx rfl (Jvm.hb hby d3_7) ?_
    refine XS.istore X12.here hx rfl (Jvm.hb hby d3_8) rfl (l' := #[.val (.ref a), .val (.ref b), .val (.ref r), .val (.int (0 : Int32)), .val (.int (0 : Int32))]) rfl ?_
    refine XS.iload X12.here hx rfl (Jvm.hb hby d3_10) rfl ?_
    refine XS.aloadN X12.here hx rfl (Jvm.hb hby d3_12) rfl rfl ?_
    refine X12.arraylength hx ((congrArg (fun (HH : Heap) => HH[b]?) (e12 : T12.heap = h12)).trans Ar15.1) (State.isArrayOf_alike hZ.alike Ar15.2.1) (g := (mkF m 13 #[.val (.ref a), .val (.ref b), .val (.ref r), .val (.int (0 : Int32)), .val (.int (0 : Int32))] [(.ref b), (.int (0 : Int32))])) rfl rfl (Jvm.hb hby d3_13) _ ?_
    exact kt)
  have pre17 : ∀ τ, Steps p.tables e below (T12.setTop (mkF m 14 #[.val (.ref a), .val (.ref b), .val (.ref r), .val (.int (0 : Int32)), .val (.int (0 : Int32))] [(.int (0 : Int32)), (.int (0 : Int32))])) τ → PS τ := by
    have hq := pre16
    rw [len_of S15 M15] at hq
    exact hq
  have hres : Arv Z h12 r k12 .int (0 : Int32) [] (.int (0 : Int32)) := by
    exact V_r
  have pre18 := fun (τ : State) kt => pre17 τ (by
    show Steps p.tables e below (T12.setTop (mkF m 14 #[.val (.ref a), .val (.ref b), .val (.ref r), .val (.int (0 : Int32)), .val (.int (0 : Int32))] [(.int (0 : Int32)), (.int (0 : Int32))])) τ
    refine XS.icmpYes X12.here hx rfl (pc0 := 14) (pc' := 64) rfl (Jvm.hb hby d3_14) rfl (flt (by decide)).2.1 (by decide) (by decide) ?_
    refine XS.aloadN X12.here hx rfl (Jvm.hb hby d3_64) rfl rfl ?_
    exact kt)
  obtain ⟨fs, hrL, hrun, hended, hW, hsame⟩ := X12.leave (v := some (.ref r)) (fun h => by rw [Bd.returns] at h; cases h)
  refine ⟨_, _, cast (congrFun hPS _) (pre18 _ ?_), hrun, hended, _, _, rfl, ?_, ⟨_, rfl⟩, hW, hsame.mono (by decide) (by decide)⟩
  · show Steps p.tables e below (T12.setTop (mkF m 65 #[.val (.ref a), .val (.ref b), .val (.ref r), .val (.int (0 : Int32)), .val (.int (0 : Int32))] [(.ref r)])) _
    exact retOut X12 hx Bd.returns rfl (Or.inr (Or.inr (Or.inr (Or.inr ⟨rfl, rfl, rfl⟩)))) (Jvm.hb hby d3_65) hrL
  · show QL0 Z h0 n0 _ T12.heap _
    rw [e12]
    exact ⟨r, _, rfl, N0, K12, g_r, sz_r, hres⟩
def QL1 (Z : State) (lx0 : Int32) (h0 : Heap) (n0 : Nat) (v : Option Value) (h : Heap) (L : List Loc) : Prop := ∃ (r : Addr) (kr : ClassId), v = some (.ref r) ∧ Fr n0 L ∧ Keep h0 h [] ∧ n0 ≤ r ∧ h0.size ≤ r ∧ Arv Z h r kr .int (1 : Int32) [(.int lx0)] (.int (0 : Int32))
set_option maxRecDepth 65536 in
set_option maxHeartbeats 40000000 in
theorem rmL1 (l : Launch) (Z : State) (a0 : Array Value) (hw : ∀ d ∈ tables_1, d.before a0 Z = true) (ws : List Jvm.Cond) (a : Addr) (b : Addr) (kb : ClassId) (iv t0 t1 t2 t3 ev lx0 : Int32) (en : UInt64) (h0 : Heap) (n0 : Nat) (Z0 : n0 ≤ h0.size) (E7 : Exa Z h0 a "com/example/counterpath/counterpath/core/Window") (F2 : Fld Z h0 a "com/example/counterpath/counterpath/core/Window" "end" "D" (.double en)) (VB : Arv Z h0 b kb .double (1 : Int32) [(.double (FP.i2d t0))] (.double (0 : UInt64))) (w0 : own_row 1 iv t1 t2 t3 t0 ev en lx0) :
    MetFree l (⟨"com/example/counterpath/counterpath/core/Window", "lasts", "([D)[I"⟩ : MethodName) (head1 (Jvm.Cond.code (⟨"com/example/counterpath/counterpath/core/Window", "lasts", "([D)[I"⟩ : MethodName) prog_33_method_3_code 5 (some (.array .int)) :: ws) ({ frames := 0, cells := 1, slots := 1, locals := 0 } : Room)) (fun α U => α = #[(.ref a), (.ref b)] ∧ Z.Warmed39 U.vm ∧ U.heap = h0) (fun _ _ _ _ _ => True) (fun _ U ω U' => ∃ ν Λ, ω = .returned ν ∧ QL1 Z lx0 h0 n0 ν U'.heap Λ ∧ FrameEnd U ω U' Λ ({ frames := 0, cells := 1, slots := 1, locals := 0 } : Room).cells ({ frames := 0, cells := 1, slots := 1, locals := 0 } : Room).slots) := by
  refine MetFree.of_bodySF (plainFor_of_name own_pn_com_example_counterpath_counterpath_core_Window) hisR ?_
  intro p e s m args below meth c s₁ Bd hml0 hP hK
  obtain ⟨rfl, hZ, hh⟩ := hP
  have hx := Bd.exec
  have hby := Bd.bytes
  have hml : c.maxLocals = 5 := hml0
  have hown : s.vm.findClass "com/example/counterpath/counterpath/core/Window" = some m.cls := findClass_of_methodNamed Bd.named
  have hnm := (name_of_methodNamed Bd.named Bd.method).1
  have X0 : Stand p l e ({ frames := 0, cells := 1, slots := 1, locals := 0 } : Room) s m #[(.ref a), (.ref b)] below meth c s₁ [] 0 0 := Stand.of_body Bd
  have e0 : s₁.heap = h0 := by rw [← hh, Bd.state]; rfl
  have N0 := Fr.nil n0
  have KK0 : Keep h0 h0 [] := Keep.refl h0 []
  obtain ⟨PS, hPS⟩ : ∃ P : State → Prop, P = fun τ => Steps p.tables e below (s₁.setTop (entryFrame m #[(.ref a), (.ref b)] 5)) τ := ⟨_, rfl⟩
  have pre0 : ∀ τ, Steps p.tables e below (s₁.setTop (mkF m 0 #[.val (.ref a), .val (.ref b), .unset, .unset, .unset] [])) τ → PS τ := by rw [hPS]; exact fun τ κ => castTop (own_ef3 m a b) κ
  obtain ⟨cl19, Ar19, q19, S19, M19, H19, U19⟩ := id VB
  have pre20 := fun (τ : State) kt => pre0 τ (by
    show Steps p.tables e below (s₁.setTop (mkF m 0 #[.val (.ref a), .val (.ref b), .unset, .unset, .unset] [])) τ
    refine XS.aloadN X0.here hx rfl (Jvm.hb hby d3_0) rfl rfl ?_
    refine X0.arraylength hx ((congrArg (fun (HH : Heap) => HH[b]?) (e0 : s₁.heap = h0)).trans Ar19.1) (State.isArrayOf_alike hZ.alike Ar19.2.1) (g := (mkF m 1 #[.val (.ref a), .val (.ref b), .unset, .unset, .unset] [(.ref b)])) rfl rfl (Jvm.hb hby d3_1) _ ?_
    exact kt)
  have pre21 : ∀ τ, Steps p.tables e below (s₁.setTop (mkF m 2 #[.val (.ref a), .val (.ref b), .unset, .unset, .unset] [(.int (1 : Int32))])) τ → PS τ := by
    have hq := pre20
    rw [len_of S19 M19] at hq
    exact hq
  obtain ⟨T22, h22, k22, X22, e22, E22, A22, st22⟩ := newP (aty := .int) X0 hx hZ (own_W3 hw) e0 (g := (mkF m 2 #[.val (.ref a), .val (.ref b), .unset, .unset, .unset] [(.int (1 : Int32))])) rfl (Jvm.hb hby d3_2) rfl (by decide) (cap := 1) (by decide) (by decide) (by decide) (by decide)
  obtain ⟨r, g22⟩ : ∃ z, z = h0.size := ⟨_, rfl⟩
  rw [← g22] at A22 st22
  have ne_a_r : a ≠ r := Nat.ne_of_lt (Nat.lt_of_lt_of_le E7.lt (Nat.le_of_eq g22.symm))
  have ne_b_r : b ≠ r := Nat.ne_of_lt (Nat.lt_of_lt_of_le VB.lt (Nat.le_of_eq g22.symm))
  have g_r : n0 ≤ r := Nat.le_trans (Nat.le_trans Z0 KK0.1) (Nat.le_of_eq g22.symm)
  have sz_r : h0.size ≤ r := Nat.le_trans KK0.1 (Nat.le_of_eq g22.symm)
  have K22 : Keep h0 h22 [] := KK0.ext E22
  have V_r : Arv Z h22 r k22 .int (1 : Int32) [(.int (0 : Int32))] (.int (0 : Int32)) := (Arv.new A22 (by decide)).pad (pad_rep [] (.int (0 : Int32)) 1)
  have pre23 := fun (τ : State) kt => pre21 τ (st22 τ kt)
  have f24 := VB.ext E22
  obtain ⟨cl25, Ar25, q25, S25, M25, H25, U25⟩ := id f24
  have pre26 := fun (τ : State) kt => pre23 τ (by
    show Steps p.tables e below (T22.setTop (mkF m 4 #[.val (.ref a), .val (.ref b), .unset, .unset, .unset] [(.ref r)])) τ
    refine XS.astoreN X22.here hx rfl (Jvm.hb hby d3_4) rfl rfl (l' := #[.val (.ref a), .val (.ref b), .val (.ref r), .unset, .unset]) rfl ?_
    refine XS.iconst X22.here hx rfl (Jvm.hb hby d3_5) ?_
    refine XS.istoreN X22.here hx rfl (Jvm.hb hby d3_6) rfl (l' := #[.val (.ref a), .val (.ref b), .val (.ref r), .val (.int (0 : Int32)), .unset]) rfl ?_
    refine XS.iconst X22.here hx rfl (Jvm.hb hby d3_7) ?_
    refine XS.istore X22.here hx rfl (Jvm.hb hby d3_8) rfl (l' := #[.val (.ref a), .val (.ref b), .val (.ref r), .val (.int (0 : Int32)), .val (.int (0 : Int32))]) rfl ?_
    refine XS.iload X22.here hx rfl (Jvm.hb hby d3_10) rfl ?_
    refine XS.aloadN X22.here hx rfl (Jvm.hb hby d3_12) rfl rfl ?_
    refine X22.arraylength hx ((congrArg (fun (HH : Heap) => HH[b]?) (e22 : T22.heap = h22)).trans Ar25.1) (State.isArrayOf_alike hZ.alike Ar25.2.1) (g := (mkF m 13 #[.val (.ref a), .val (.ref b), .val (.ref r), .val (.int (0 : Int32)), .val (.int (0 : Int32))] [(.ref b), (.int (0 : Int32))])) rfl rfl (Jvm.hb hby d3_13) _ ?_
    exact kt)
  have pre27 : ∀ τ, Steps p.tables e below (T22.setTop (mkF m 14 #[.val (.ref a), .val (.ref b), .val (.ref r), .val (.int (0 : Int32)), .val (.int (0 : Int32))] [(.int (1 : Int32)), (.int (0 : Int32))])) τ → PS τ := by
    have hq := pre26
    rw [len_of S25 M25] at hq
    exact hq
  have pre28 := fun (τ : State) kt => pre27 τ (by
    show Steps p.tables e below (T22.setTop (mkF m 14 #[.val (.ref a), .val (.ref b), .val (.ref r), .val (.int (0 : Int32)), .val (.int (0 : Int32))] [(.int (1 : Int32)), (.int (0 : Int32))])) τ
    refine XS.icmpNo X22.here hx rfl (Jvm.hb hby d3_14) rfl (tlt (by decide)).2.1 ?_
    exact kt)
  obtain ⟨T29, h29, Lj29, j0, X29, e29, N29, K29, j29_0, j29_1, j29_2, j29_3, hj29, pre29⟩ : ∃ (T29 : State) (h29 : Heap) (Lj : List Loc) (j0 : Int32), Stand p l e ({ frames := 0, cells := 1, slots := 1, locals := 0 } : Room) s m #[(.ref a), (.ref b)] below meth c T29 Lj (1) (1) ∧ T29.heap = h29 ∧ Fr n0 Lj ∧ Keep h0 h29 [] ∧ Exa Z h29 a "com/example/counterpath/counterpath/core/Window" ∧ Fld Z h29 a "com/example/counterpath/counterpath/core/Window" "end" "D" (.double en) ∧ Arv Z h29 b kb .double (1 : Int32) [(.double (FP.i2d t0))] (.double (0 : UInt64)) ∧ Arv Z h29 r k22 .int (1 : Int32) [(.int (0 : Int32))] (.int (0 : Int32)) ∧ (j0 = lx0) ∧ ∀ τ, Steps p.tables e below (T29.setTop (mkF m 53 #[.val (.ref a), .val (.ref b), .val (.ref r), .val (.int j0), .val (.int (0 : Int32))] [])) τ → PS τ := by
    obtain ⟨cl30, Ar30, q30, S30, M30, H30, U30⟩ := id f24
    have pre31 := fun (τ : State) kt => pre28 τ (by
      show Steps p.tables e below (T22.setTop (mkF m 17 #[.val (.ref a), .val (.ref b), .val (.ref r), .val (.int (0 : Int32)), .val (.int (0 : Int32))] [])) τ
      refine XS.iloadN X22.here hx rfl (Jvm.hb hby d3_17) rfl ?_
      refine XS.iconst X22.here hx rfl (Jvm.hb hby d3_18) ?_
      refine XS.iadd X22.here hx rfl (Jvm.hb hby d3_19) rfl ?_
      refine XS.aloadN X22.here hx rfl (Jvm.hb hby d3_20) rfl rfl ?_
      refine X22.arraylength hx ((congrArg (fun (HH : Heap) => HH[b]?) (e22 : T22.heap = h22)).trans Ar30.1) (State.isArrayOf_alike hZ.alike Ar30.2.1) (g := (mkF m 21 #[.val (.ref a), .val (.ref b), .val (.ref r), .val (.int (0 : Int32)), .val (.int (0 : Int32))] [(.ref b), (.int (1 : Int32))])) rfl rfl (Jvm.hb hby d3_21) _ ?_
      exact kt)
    have pre32 : ∀ τ, Steps p.tables e below (T22.setTop (mkF m 22 #[.val (.ref a), .val (.ref b), .val (.ref r), .val (.int (0 : Int32)), .val (.int (0 : Int32))] [(.int (1 : Int32)), (.int (1 : Int32))])) τ → PS τ := by
      have hq := pre31
      rw [len_of S30 M30] at hq
      exact hq
    have pre33 := fun (τ : State) kt => pre32 τ (by
      show Steps p.tables e below (T22.setTop (mkF m 22 #[.val (.ref a), .val (.ref b), .val (.ref r), .val (.int (0 : Int32)), .val (.int (0 : Int32))] [(.int (1 : Int32)), (.int (1 : Int32))])) τ
      refine XS.icmpYes X22.here hx rfl (pc0 := 22) (pc' := 53) rfl (Jvm.hb hby d3_22) rfl (flt (by decide)).2.1 (by decide) (by decide) ?_
      exact kt)
    have f34 := E7.ext E22
    have f35 := F2.ext E22
    exact ⟨_, _, _, (0 : Int32), X22, e22, N0, K22, f34, f35, f24, V_r, own_fin (j := (0 : Int32)) (v := 0) (by decide) (w0.1.1) (by have := w0.1.2; omega), pre33⟩
  obtain ⟨cl36, Ar36, q36, S36, M36, H36, U36⟩ := id j29_3
  obtain ⟨T37, h37, X37, e37, W37, st37⟩ := stI X29 hx hZ e29 Ar36 (j := (0 : Int32)) (inb_of S36 ⟨by decide, by decide⟩) (g := (mkF m 57 #[.val (.ref a), .val (.ref b), .val (.ref r), .val (.int j0), .val (.int (0 : Int32))] [(.int j0), (.int (0 : Int32)), (.ref r)])) rfl rfl (Jvm.hb hby d3_57)
  have V37 : Arv Z h37 r k22 .int (1 : Int32) [(.int j0)] (.int (0 : Int32)) := Arv.set Ar36 q36 S36 M36 H36 U36 rfl W37 0 rfl (Nat.le_of_ble_eq_true rfl)
  have N37 := Fr.snoc X37 N29 g_r
  have K37 : Keep h0 h37 [] := K29.wr W37 (Or.inr sz_r)
  have pre38 := fun (τ : State) kt => pre29 τ (by
    show Steps p.tables e below (T29.setTop (mkF m 53 #[.val (.ref a), .val (.ref b), .val (.ref r), .val (.int j0), .val (.int (0 : Int32))] [])) τ
    refine XS.aloadN X29.here hx rfl (Jvm.hb hby d3_53) rfl rfl ?_
    refine XS.iload X29.here hx rfl (Jvm.hb hby d3_54) rfl ?_
    refine XS.iloadN X29.here hx rfl (Jvm.hb hby d3_56) rfl ?_
    exact st37 τ kt)
  have f39 := j29_2.other W37 ne_b_r
  obtain ⟨cl40, Ar40, q40, S40, M40, H40, U40⟩ := id f39
  have pre41 := fun (τ : State) kt => pre38 τ (by
    show Steps p.tables e below (T37.setTop (mkF m 58 #[.val (.ref a), .val (.ref b), .val (.ref r), .val (.int j0), .val (.int (0 : Int32))] [])) τ
    refine XS.iinc X37.here hx rfl (Jvm.hb hby d3_58) rfl (l' := #[.val (.ref a), .val (.ref b), .val (.ref r), .val (.int j0), .val (.int (1 : Int32))]) rfl ?_
    refine XS.goto X37.here hx rfl (pc0 := 61) (pc' := 10) rfl (Jvm.hb hby d3_61) (by decide) (by decide) ?_
    refine XS.iload X37.here hx rfl (Jvm.hb hby d3_10) rfl ?_
    refine XS.aloadN X37.here hx rfl (Jvm.hb hby d3_12) rfl rfl ?_
    refine X37.arraylength hx ((congrArg (fun (HH : Heap) => HH[b]?) (e37 : T37.heap = h37)).trans Ar40.1) (State.isArrayOf_alike hZ.alike Ar40.2.1) (g := (mkF m 13 #[.val (.ref a), .val (.ref b), .val (.ref r), .val (.int j0), .val (.int (1 : Int32))] [(.ref b), (.int (1 : Int32))])) rfl rfl (Jvm.hb hby d3_13) _ ?_
    exact kt)
  have pre42 : ∀ τ, Steps p.tables e below (T37.setTop (mkF m 14 #[.val (.ref a), .val (.ref b), .val (.ref r), .val (.int j0), .val (.int (1 : Int32))] [(.int (1 : Int32)), (.int (1 : Int32))])) τ → PS τ := by
    have hq := pre41
    rw [len_of S40 M40] at hq
    exact hq
  have hres : Arv Z h37 r k22 .int (1 : Int32) [(.int lx0)] (.int (0 : Int32)) := by
    rw [← hj29]
    exact V37
  have pre43 := fun (τ : State) kt => pre42 τ (by
    show Steps p.tables e below (T37.setTop (mkF m 14 #[.val (.ref a), .val (.ref b), .val (.ref r), .val (.int j0), .val (.int (1 : Int32))] [(.int (1 : Int32)), (.int (1 : Int32))])) τ
    refine XS.icmpYes X37.here hx rfl (pc0 := 14) (pc' := 64) rfl (Jvm.hb hby d3_14) rfl (flt (by decide)).2.1 (by decide) (by decide) ?_
    refine XS.aloadN X37.here hx rfl (Jvm.hb hby d3_64) rfl rfl ?_
    exact kt)
  obtain ⟨fs, hrL, hrun, hended, hW, hsame⟩ := X37.leave (v := some (.ref r)) (fun h => by rw [Bd.returns] at h; cases h)
  refine ⟨_, _, cast (congrFun hPS _) (pre43 _ ?_), hrun, hended, _, _, rfl, ?_, ⟨_, rfl⟩, hW, hsame.mono (by decide) (by decide)⟩
  · show Steps p.tables e below (T37.setTop (mkF m 65 #[.val (.ref a), .val (.ref b), .val (.ref r), .val (.int j0), .val (.int (1 : Int32))] [(.ref r)])) _
    exact retOut X37 hx Bd.returns rfl (Or.inr (Or.inr (Or.inr (Or.inr ⟨rfl, rfl, rfl⟩)))) (Jvm.hb hby d3_65) hrL
  · show QL1 Z lx0 h0 n0 _ T37.heap _
    rw [e37]
    exact ⟨r, _, rfl, N37, K37, g_r, sz_r, hres⟩
def QL2 (Z : State) (lx0 lx1 : Int32) (h0 : Heap) (n0 : Nat) (v : Option Value) (h : Heap) (L : List Loc) : Prop := ∃ (r : Addr) (kr : ClassId), v = some (.ref r) ∧ Fr n0 L ∧ Keep h0 h [] ∧ n0 ≤ r ∧ h0.size ≤ r ∧ Arv Z h r kr .int (2 : Int32) [(.int lx0), (.int lx1)] (.int (0 : Int32))
set_option maxRecDepth 65536 in
set_option maxHeartbeats 40000000 in
theorem rmL2 (l : Launch) (Z : State) (a0 : Array Value) (hw : ∀ d ∈ tables_1, d.before a0 Z = true) (ws : List Jvm.Cond) (a : Addr) (b : Addr) (kb : ClassId) (iv t0 t1 t2 t3 ev lx0 lx1 : Int32) (en : UInt64) (h0 : Heap) (n0 : Nat) (Z0 : n0 ≤ h0.size) (E7 : Exa Z h0 a "com/example/counterpath/counterpath/core/Window") (F2 : Fld Z h0 a "com/example/counterpath/counterpath/core/Window" "end" "D" (.double en)) (VB : Arv Z h0 b kb .double (2 : Int32) [(.double (FP.i2d t0)), (.double (FP.i2d t1))] (.double (0 : UInt64))) (w0 : own_row 2 iv t1 t2 t3 t0 ev en lx0) (w1 : own_row 2 iv t1 t2 t3 t1 ev en lx1) (m1 : lx0.toInt ≤ lx1.toInt) :
    MetFree l (⟨"com/example/counterpath/counterpath/core/Window", "lasts", "([D)[I"⟩ : MethodName) (head1 (Jvm.Cond.code (⟨"com/example/counterpath/counterpath/core/Window", "lasts", "([D)[I"⟩ : MethodName) prog_33_method_3_code 5 (some (.array .int)) :: ws) ({ frames := 0, cells := 1, slots := 2, locals := 0 } : Room)) (fun α U => α = #[(.ref a), (.ref b)] ∧ Z.Warmed39 U.vm ∧ U.heap = h0) (fun _ _ _ _ _ => True) (fun _ U ω U' => ∃ ν Λ, ω = .returned ν ∧ QL2 Z lx0 lx1 h0 n0 ν U'.heap Λ ∧ FrameEnd U ω U' Λ ({ frames := 0, cells := 1, slots := 2, locals := 0 } : Room).cells ({ frames := 0, cells := 1, slots := 2, locals := 0 } : Room).slots) := by
  refine MetFree.of_bodySF (plainFor_of_name own_pn_com_example_counterpath_counterpath_core_Window) hisR ?_
  intro p e s m args below meth c s₁ Bd hml0 hP hK
  obtain ⟨rfl, hZ, hh⟩ := hP
  have hx := Bd.exec
  have hby := Bd.bytes
  have hml : c.maxLocals = 5 := hml0
  have hown : s.vm.findClass "com/example/counterpath/counterpath/core/Window" = some m.cls := findClass_of_methodNamed Bd.named
  have hnm := (name_of_methodNamed Bd.named Bd.method).1
  have X0 : Stand p l e ({ frames := 0, cells := 1, slots := 2, locals := 0 } : Room) s m #[(.ref a), (.ref b)] below meth c s₁ [] 0 0 := Stand.of_body Bd
  have e0 : s₁.heap = h0 := by rw [← hh, Bd.state]; rfl
  have N0 := Fr.nil n0
  have KK0 : Keep h0 h0 [] := Keep.refl h0 []
  obtain ⟨PS, hPS⟩ : ∃ P : State → Prop, P = fun τ => Steps p.tables e below (s₁.setTop (entryFrame m #[(.ref a), (.ref b)] 5)) τ := ⟨_, rfl⟩
  have pre0 : ∀ τ, Steps p.tables e below (s₁.setTop (mkF m 0 #[.val (.ref a), .val (.ref b), .unset, .unset, .unset] [])) τ → PS τ := by rw [hPS]; exact fun τ κ => castTop (own_ef3 m a b) κ
  obtain ⟨cl44, Ar44, q44, S44, M44, H44, U44⟩ := id VB
  have pre45 := fun (τ : State) kt => pre0 τ (by
    show Steps p.tables e below (s₁.setTop (mkF m 0 #[.val (.ref a), .val (.ref b), .unset, .unset, .unset] [])) τ
    refine XS.aloadN X0.here hx rfl (Jvm.hb hby d3_0) rfl rfl ?_
    refine X0.arraylength hx ((congrArg (fun (HH : Heap) => HH[b]?) (e0 : s₁.heap = h0)).trans Ar44.1) (State.isArrayOf_alike hZ.alike Ar44.2.1) (g := (mkF m 1 #[.val (.ref a), .val (.ref b), .unset, .unset, .unset] [(.ref b)])) rfl rfl (Jvm.hb hby d3_1) _ ?_
    exact kt)
  have pre46 : ∀ τ, Steps p.tables e below (s₁.setTop (mkF m 2 #[.val (.ref a), .val (.ref b), .unset, .unset, .unset] [(.int (2 : Int32))])) τ → PS τ := by
    have hq := pre45
    rw [len_of S44 M44] at hq
    exact hq
  obtain ⟨T47, h47, k47, X47, e47, E47, A47, st47⟩ := newP (aty := .int) X0 hx hZ (own_W3 hw) e0 (g := (mkF m 2 #[.val (.ref a), .val (.ref b), .unset, .unset, .unset] [(.int (2 : Int32))])) rfl (Jvm.hb hby d3_2) rfl (by decide) (cap := 2) (by decide) (by decide) (by decide) (by decide)
  obtain ⟨r, g47⟩ : ∃ z, z = h0.size := ⟨_, rfl⟩
  rw [← g47] at A47 st47
  have ne_a_r : a ≠ r := Nat.ne_of_lt (Nat.lt_of_lt_of_le E7.lt (Nat.le_of_eq g47.symm))
  have ne_b_r : b ≠ r := Nat.ne_of_lt (Nat.lt_of_lt_of_le VB.lt (Nat.le_of_eq g47.symm))
  have g_r : n0 ≤ r := Nat.le_trans (Nat.le_trans Z0 KK0.1) (Nat.le_of_eq g47.symm)
  have sz_r : h0.size ≤ r := Nat.le_trans KK0.1 (Nat.le_of_eq g47.symm)
  have K47 : Keep h0 h47 [] := KK0.ext E47
  have V_r : Arv Z h47 r k47 .int (2 : Int32) [(.int (0 : Int32)), (.int (0 : Int32))] (.int (0 : Int32)) := (Arv.new A47 (by decide)).pad (pad_rep [] (.int (0 : Int32)) 2)
  have pre48 := fun (τ : State) kt => pre46 τ (st47 τ kt)
  have f49 := VB.ext E47
  obtain ⟨cl50, Ar50, q50, S50, M50, H50, U50⟩ := id f49
  have pre51 := fun (τ : State) kt => pre48 τ (by
    show Steps p.tables e below (T47.setTop (mkF m 4 #[.val (.ref a), .val (.ref b), .unset, .unset, .unset] [(.ref r)])) τ
    refine XS.astoreN X47.here hx rfl (Jvm.hb hby d3_4) rfl rfl (l' := #[.val (.ref a), .val (.ref b), .val (.ref r), .unset, .unset]) rfl ?_
    refine XS.iconst X47.here hx rfl (Jvm.hb hby d3_5) ?_
    refine XS.istoreN X47.here hx rfl (Jvm.hb hby d3_6) rfl (l' := #[.val (.ref a), .val (.ref b), .val (.ref r), .val (.int (0 : Int32)), .unset]) rfl ?_
    refine XS.iconst X47.here hx rfl (Jvm.hb hby d3_7) ?_
    refine XS.istore X47.here hx rfl (Jvm.hb hby d3_8) rfl (l' := #[.val (.ref a), .val (.ref b), .val (.ref r), .val (.int (0 : Int32)), .val (.int (0 : Int32))]) rfl ?_
    refine XS.iload X47.here hx rfl (Jvm.hb hby d3_10) rfl ?_
    refine XS.aloadN X47.here hx rfl (Jvm.hb hby d3_12) rfl rfl ?_
    refine X47.arraylength hx ((congrArg (fun (HH : Heap) => HH[b]?) (e47 : T47.heap = h47)).trans Ar50.1) (State.isArrayOf_alike hZ.alike Ar50.2.1) (g := (mkF m 13 #[.val (.ref a), .val (.ref b), .val (.ref r), .val (.int (0 : Int32)), .val (.int (0 : Int32))] [(.ref b), (.int (0 : Int32))])) rfl rfl (Jvm.hb hby d3_13) _ ?_
    exact kt)
  have pre52 : ∀ τ, Steps p.tables e below (T47.setTop (mkF m 14 #[.val (.ref a), .val (.ref b), .val (.ref r), .val (.int (0 : Int32)), .val (.int (0 : Int32))] [(.int (2 : Int32)), (.int (0 : Int32))])) τ → PS τ := by
    have hq := pre51
    rw [len_of S50 M50] at hq
    exact hq
  have pre53 := fun (τ : State) kt => pre52 τ (by
    show Steps p.tables e below (T47.setTop (mkF m 14 #[.val (.ref a), .val (.ref b), .val (.ref r), .val (.int (0 : Int32)), .val (.int (0 : Int32))] [(.int (2 : Int32)), (.int (0 : Int32))])) τ
    refine XS.icmpNo X47.here hx rfl (Jvm.hb hby d3_14) rfl (tlt (by decide)).2.1 ?_
    exact kt)
  obtain ⟨T54, h54, Lj54, j0, X54, e54, N54, K54, j54_0, j54_1, j54_2, j54_3, hj54, pre54⟩ : ∃ (T54 : State) (h54 : Heap) (Lj : List Loc) (j0 : Int32), Stand p l e ({ frames := 0, cells := 1, slots := 2, locals := 0 } : Room) s m #[(.ref a), (.ref b)] below meth c T54 Lj (1) (2) ∧ T54.heap = h54 ∧ Fr n0 Lj ∧ Keep h0 h54 [] ∧ Exa Z h54 a "com/example/counterpath/counterpath/core/Window" ∧ Fld Z h54 a "com/example/counterpath/counterpath/core/Window" "end" "D" (.double en) ∧ Arv Z h54 b kb .double (2 : Int32) [(.double (FP.i2d t0)), (.double (FP.i2d t1))] (.double (0 : UInt64)) ∧ Arv Z h54 r k47 .int (2 : Int32) [(.int (0 : Int32)), (.int (0 : Int32))] (.int (0 : Int32)) ∧ (j0 = lx0) ∧ ∀ τ, Steps p.tables e below (T54.setTop (mkF m 53 #[.val (.ref a), .val (.ref b), .val (.ref r), .val (.int j0), .val (.int (0 : Int32))] [])) τ → PS τ := by
    obtain ⟨cl55, Ar55, q55, S55, M55, H55, U55⟩ := id f49
    have pre56 := fun (τ : State) kt => pre53 τ (by
      show Steps p.tables e below (T47.setTop (mkF m 17 #[.val (.ref a), .val (.ref b), .val (.ref r), .val (.int (0 : Int32)), .val (.int (0 : Int32))] [])) τ
      refine XS.iloadN X47.here hx rfl (Jvm.hb hby d3_17) rfl ?_
      refine XS.iconst X47.here hx rfl (Jvm.hb hby d3_18) ?_
      refine XS.iadd X47.here hx rfl (Jvm.hb hby d3_19) rfl ?_
      refine XS.aloadN X47.here hx rfl (Jvm.hb hby d3_20) rfl rfl ?_
      refine X47.arraylength hx ((congrArg (fun (HH : Heap) => HH[b]?) (e47 : T47.heap = h47)).trans Ar55.1) (State.isArrayOf_alike hZ.alike Ar55.2.1) (g := (mkF m 21 #[.val (.ref a), .val (.ref b), .val (.ref r), .val (.int (0 : Int32)), .val (.int (0 : Int32))] [(.ref b), (.int (1 : Int32))])) rfl rfl (Jvm.hb hby d3_21) _ ?_
      exact kt)
    have pre57 : ∀ τ, Steps p.tables e below (T47.setTop (mkF m 22 #[.val (.ref a), .val (.ref b), .val (.ref r), .val (.int (0 : Int32)), .val (.int (0 : Int32))] [(.int (2 : Int32)), (.int (1 : Int32))])) τ → PS τ := by
      have hq := pre56
      rw [len_of S55 M55] at hq
      exact hq
    obtain ⟨cl58, Ar58, q58, S58, M58, H58, U58⟩ := id f49
    have in58 : ¬ ((1 : Int32) < 0 ∨ cl58.slots.size ≤ ((1 : Int32)).toNatClampNeg) := inb_of S58 ⟨by decide, by decide⟩
    obtain ⟨cl59, Ar59, q59, S59, M59, H59, U59⟩ := id f49
    have in59 : ¬ ((0 : Int32) < 0 ∨ cl59.slots.size ≤ ((0 : Int32)).toNatClampNeg) := inb_of S59 ⟨by decide, by decide⟩
    have f61 := F2.ext E47
    obtain ⟨T60, X60, e60, st60⟩ := getF X47 hx hZ hown (host := "") (Or.inl (own_W16 hw)) Via.refl e47 f61 (g := (mkF m 35 #[.val (.ref a), .val (.ref b), .val (.ref r), .val (.int (0 : Int32)), .val (.int (0 : Int32))] [(.ref a), (.double (FP.i2d t0)), (.double (FP.i2d t1))])) rfl rfl (Jvm.hb hby d3_35)
    have pre62 := fun (τ : State) kt => pre57 τ (by
      show Steps p.tables e below (T47.setTop (mkF m 22 #[.val (.ref a), .val (.ref b), .val (.ref r), .val (.int (0 : Int32)), .val (.int (0 : Int32))] [(.int (2 : Int32)), (.int (1 : Int32))])) τ
      refine XS.icmpNo X47.here hx rfl (Jvm.hb hby d3_22) rfl (tlt (by decide)).2.1 ?_
      refine XS.aloadN X47.here hx rfl (Jvm.hb hby d3_25) rfl rfl ?_
      refine XS.iloadN X47.here hx rfl (Jvm.hb hby d3_26) rfl ?_
      refine XS.iconst X47.here hx rfl (Jvm.hb hby d3_27) ?_
      refine XS.iadd X47.here hx rfl (Jvm.hb hby d3_28) rfl ?_
      refine X47.daload hx ((congrArg (fun (HH : Heap) => HH[b]?) (e47 : T47.heap = h47)).trans Ar58.1) (State.isArrayOf_alike hZ.alike Ar58.2.1) Ar58.2.2 in58 (H58.at in58 rfl) (g := (mkF m 29 #[.val (.ref a), .val (.ref b), .val (.ref r), .val (.int (0 : Int32)), .val (.int (0 : Int32))] [(.int (1 : Int32)), (.ref b)])) rfl rfl (Jvm.hb hby d3_29) _ ?_
      refine XS.aloadN X47.here hx rfl (Jvm.hb hby d3_30) rfl rfl ?_
      refine XS.iload X47.here hx rfl (Jvm.hb hby d3_31) rfl ?_
      refine X47.daload hx ((congrArg (fun (HH : Heap) => HH[b]?) (e47 : T47.heap = h47)).trans Ar59.1) (State.isArrayOf_alike hZ.alike Ar59.2.1) Ar59.2.2 in59 (H59.at in59 rfl) (g := (mkF m 33 #[.val (.ref a), .val (.ref b), .val (.ref r), .val (.int (0 : Int32)), .val (.int (0 : Int32))] [(.int (0 : Int32)), (.ref b), (.double (FP.i2d t1))])) rfl rfl (Jvm.hb hby d3_33) _ ?_
      refine XS.aloadN X47.here hx rfl (Jvm.hb hby d3_34) rfl rfl ?_
      exact st60 τ kt)
    have pre63 := fun (τ : State) kt => pre62 τ (by
      show Steps p.tables e below (T60.setTop (mkF m 38 #[.val (.ref a), .val (.ref b), .val (.ref r), .val (.int (0 : Int32)), .val (.int (0 : Int32))] [(.double en), (.double (FP.i2d t0)), (.double (FP.i2d t1))])) τ
      refine own_dadd X60.here hx rfl (Jvm.hb hby d3_38) rfl (w0.2.1.1) ?_
      refine X60.ldc2DoubleC hx hown (mvT hZ (own_W27 hw)) (g := (mkF m 39 #[.val (.ref a), .val (.ref b), .val (.ref r), .val (.int (0 : Int32)), .val (.int (0 : Int32))] [(.double (FP.dadd (FP.i2d t0) en)), (.double (FP.i2d t1))])) rfl (Jvm.hb hby d3_39) _ ?_
      refine own_dadd X60.here hx rfl (Jvm.hb hby d3_42) rfl (w0.2.1.2) ?_
      refine own_dcmp X60.here hx rfl (Jvm.hb hby d3_43) rfl ?_
      exact kt)
    by_cases q1 : (0 : Int32) < (cmpValue (FP.dcmp (FP.i2d t1) (FP.dadd (FP.dadd (FP.i2d t0) en) (4472406533629990549 : UInt64))) .g)
    · skip
      have pre64 := fun (τ : State) kt => pre63 τ (by
        show Steps p.tables e below (T60.setTop (mkF m 44 #[.val (.ref a), .val (.ref b), .val (.ref r), .val (.int (0 : Int32)), .val (.int (0 : Int32))] [(.int (cmpValue (FP.dcmp (FP.i2d t1) (FP.dadd (FP.dadd (FP.i2d t0) en) (4472406533629990549 : UInt64))) .g))])) τ
        refine XS.ifYes X60.here hx rfl (pc0 := 44) (pc' := 53) rfl (Jvm.hb hby d3_44) rfl ((if0 _ _).trans (tlt q1).2.2.1) (by decide) (by decide) ?_
        exact kt)
      have f65 := E7.ext E47
      exact ⟨_, _, _, (0 : Int32), X60, e60, N0, K47, f65, f61, f49, V_r, own_fin (j := (0 : Int32)) (v := 0) (by decide) (w0.1.1) ((w0.2.2.1.1 (by decide)).mp q1), pre64⟩
    · skip
      obtain ⟨cl66, Ar66, q66, S66, M66, H66, U66⟩ := id f49
      have pre67 := fun (τ : State) kt => pre63 τ (by
        show Steps p.tables e below (T60.setTop (mkF m 44 #[.val (.ref a), .val (.ref b), .val (.ref r), .val (.int (0 : Int32)), .val (.int (0 : Int32))] [(.int (cmpValue (FP.dcmp (FP.i2d t1) (FP.dadd (FP.dadd (FP.i2d t0) en) (4472406533629990549 : UInt64))) .g))])) τ
        refine XS.ifNo X60.here hx rfl (Jvm.hb hby d3_44) rfl ((if0 _ _).trans (flt q1).2.2.1) ?_
        refine XS.iinc X60.here hx rfl (Jvm.hb hby d3_47) rfl (l' := #[.val (.ref a), .val (.ref b), .val (.ref r), .val (.int (1 : Int32)), .val (.int (0 : Int32))]) rfl ?_
        refine XS.goto X60.here hx rfl (pc0 := 50) (pc' := 17) rfl (Jvm.hb hby d3_50) (by decide) (by decide) ?_
        refine XS.iloadN X60.here hx rfl (Jvm.hb hby d3_17) rfl ?_
        refine XS.iconst X60.here hx rfl (Jvm.hb hby d3_18) ?_
        refine XS.iadd X60.here hx rfl (Jvm.hb hby d3_19) rfl ?_
        refine XS.aloadN X60.here hx rfl (Jvm.hb hby d3_20) rfl rfl ?_
        refine X60.arraylength hx ((congrArg (fun (HH : Heap) => HH[b]?) (e60 : T60.heap = h47)).trans Ar66.1) (State.isArrayOf_alike hZ.alike Ar66.2.1) (g := (mkF m 21 #[.val (.ref a), .val (.ref b), .val (.ref r), .val (.int (1 : Int32)), .val (.int (0 : Int32))] [(.ref b), (.int (2 : Int32))])) rfl rfl (Jvm.hb hby d3_21) _ ?_
        exact kt)
      have pre68 : ∀ τ, Steps p.tables e below (T60.setTop (mkF m 22 #[.val (.ref a), .val (.ref b), .val (.ref r), .val (.int (1 : Int32)), .val (.int (0 : Int32))] [(.int (2 : Int32)), (.int (2 : Int32))])) τ → PS τ := by
        have hq := pre67
        rw [len_of S66 M66] at hq
        exact hq
      have pre69 := fun (τ : State) kt => pre68 τ (by
        show Steps p.tables e below (T60.setTop (mkF m 22 #[.val (.ref a), .val (.ref b), .val (.ref r), .val (.int (1 : Int32)), .val (.int (0 : Int32))] [(.int (2 : Int32)), (.int (2 : Int32))])) τ
        refine XS.icmpYes X60.here hx rfl (pc0 := 22) (pc' := 53) rfl (Jvm.hb hby d3_22) rfl (flt (by decide)).2.1 (by decide) (by decide) ?_
        exact kt)
      have f70 := E7.ext E47
      exact ⟨_, _, _, (1 : Int32), X60, e60, N0, K47, f70, f61, f49, V_r, own_fin (j := (1 : Int32)) (v := 1) (by decide) (Int.not_lt.mp (fun z => q1 ((w0.2.2.1.1 (by decide)).mpr z))) (by have := w0.1.2; omega), pre69⟩
  obtain ⟨cl71, Ar71, q71, S71, M71, H71, U71⟩ := id j54_3
  obtain ⟨T72, h72, X72, e72, W72, st72⟩ := stI X54 hx hZ e54 Ar71 (j := (0 : Int32)) (inb_of S71 ⟨by decide, by decide⟩) (g := (mkF m 57 #[.val (.ref a), .val (.ref b), .val (.ref r), .val (.int j0), .val (.int (0 : Int32))] [(.int j0), (.int (0 : Int32)), (.ref r)])) rfl rfl (Jvm.hb hby d3_57)
  have V72 : Arv Z h72 r k47 .int (2 : Int32) [(.int j0), (.int (0 : Int32))] (.int (0 : Int32)) := Arv.set Ar71 q71 S71 M71 H71 U71 rfl W72 0 rfl (Nat.le_of_ble_eq_true rfl)
  have N72 := Fr.snoc X72 N54 g_r
  have K72 : Keep h0 h72 [] := K54.wr W72 (Or.inr sz_r)
  have pre73 := fun (τ : State) kt => pre54 τ (by
    show Steps p.tables e below (T54.setTop (mkF m 53 #[.val (.ref a), .val (.ref b), .val (.ref r), .val (.int j0), .val (.int (0 : Int32))] [])) τ
    refine XS.aloadN X54.here hx rfl (Jvm.hb hby d3_53) rfl rfl ?_
    refine XS.iload X54.here hx rfl (Jvm.hb hby d3_54) rfl ?_
    refine XS.iloadN X54.here hx rfl (Jvm.hb hby d3_56) rfl ?_
    exact st72 τ kt)
  have f74 := j54_2.other W72 ne_b_r
  obtain ⟨cl75, Ar75, q75, S75, M75, H75, U75⟩ := id f74
  have pre76 := fun (τ : State) kt => pre73 τ (by
    show Steps p.tables e below (T72.setTop (mkF m 58 #[.val (.ref a), .val (.ref b), .val (.ref r), .val (.int j0), .val (.int (0 : Int32))] [])) τ
    refine XS.iinc X72.here hx rfl (Jvm.hb hby d3_58) rfl (l' := #[.val (.ref a), .val (.ref b), .val (.ref r), .val (.int j0), .val (.int (1 : Int32))]) rfl ?_
    refine XS.goto X72.here hx rfl (pc0 := 61) (pc' := 10) rfl (Jvm.hb hby d3_61) (by decide) (by decide) ?_
    refine XS.iload X72.here hx rfl (Jvm.hb hby d3_10) rfl ?_
    refine XS.aloadN X72.here hx rfl (Jvm.hb hby d3_12) rfl rfl ?_
    refine X72.arraylength hx ((congrArg (fun (HH : Heap) => HH[b]?) (e72 : T72.heap = h72)).trans Ar75.1) (State.isArrayOf_alike hZ.alike Ar75.2.1) (g := (mkF m 13 #[.val (.ref a), .val (.ref b), .val (.ref r), .val (.int j0), .val (.int (1 : Int32))] [(.ref b), (.int (1 : Int32))])) rfl rfl (Jvm.hb hby d3_13) _ ?_
    exact kt)
  have pre77 : ∀ τ, Steps p.tables e below (T72.setTop (mkF m 14 #[.val (.ref a), .val (.ref b), .val (.ref r), .val (.int j0), .val (.int (1 : Int32))] [(.int (2 : Int32)), (.int (1 : Int32))])) τ → PS τ := by
    have hq := pre76
    rw [len_of S75 M75] at hq
    exact hq
  have pre78 := fun (τ : State) kt => pre77 τ (by
    show Steps p.tables e below (T72.setTop (mkF m 14 #[.val (.ref a), .val (.ref b), .val (.ref r), .val (.int j0), .val (.int (1 : Int32))] [(.int (2 : Int32)), (.int (1 : Int32))])) τ
    refine XS.icmpNo X72.here hx rfl (Jvm.hb hby d3_14) rfl (tlt (by decide)).2.1 ?_
    exact kt)
  obtain ⟨T79, h79, Lj79, j1, X79, e79, N79, K79, j79_0, j79_1, j79_2, j79_3, hj79, pre79⟩ : ∃ (T79 : State) (h79 : Heap) (Lj : List Loc) (j1 : Int32), Stand p l e ({ frames := 0, cells := 1, slots := 2, locals := 0 } : Room) s m #[(.ref a), (.ref b)] below meth c T79 Lj (1) (2) ∧ T79.heap = h79 ∧ Fr n0 Lj ∧ Keep h0 h79 [] ∧ Exa Z h79 a "com/example/counterpath/counterpath/core/Window" ∧ Fld Z h79 a "com/example/counterpath/counterpath/core/Window" "end" "D" (.double en) ∧ Arv Z h79 b kb .double (2 : Int32) [(.double (FP.i2d t0)), (.double (FP.i2d t1))] (.double (0 : UInt64)) ∧ Arv Z h79 r k47 .int (2 : Int32) [(.int j0), (.int (0 : Int32))] (.int (0 : Int32)) ∧ (j1 = lx1) ∧ ∀ τ, Steps p.tables e below (T79.setTop (mkF m 53 #[.val (.ref a), .val (.ref b), .val (.ref r), .val (.int j1), .val (.int (1 : Int32))] [])) τ → PS τ := by
    rcases (own_c2 (x := j0) (by rw [hj54]; exact w0.1.1) (by rw [hj54]; exact w0.1.2)) with hc | hc
    · skip
      have pre80 : ∀ τ, Steps p.tables e below (T72.setTop (mkF m 17 #[.val (.ref a), .val (.ref b), .val (.ref r), .val (.int (0 : Int32)), .val (.int (1 : Int32))] [])) τ → PS τ := by have hq := pre78; rw [hc] at hq; exact hq
      obtain ⟨cl81, Ar81, q81, S81, M81, H81, U81⟩ := id f74
      have pre82 := fun (τ : State) kt => pre80 τ (by
        show Steps p.tables e below (T72.setTop (mkF m 17 #[.val (.ref a), .val (.ref b), .val (.ref r), .val (.int (0 : Int32)), .val (.int (1 : Int32))] [])) τ
        refine XS.iloadN X72.here hx rfl (Jvm.hb hby d3_17) rfl ?_
        refine XS.iconst X72.here hx rfl (Jvm.hb hby d3_18) ?_
        refine XS.iadd X72.here hx rfl (Jvm.hb hby d3_19) rfl ?_
        refine XS.aloadN X72.here hx rfl (Jvm.hb hby d3_20) rfl rfl ?_
        refine X72.arraylength hx ((congrArg (fun (HH : Heap) => HH[b]?) (e72 : T72.heap = h72)).trans Ar81.1) (State.isArrayOf_alike hZ.alike Ar81.2.1) (g := (mkF m 21 #[.val (.ref a), .val (.ref b), .val (.ref r), .val (.int (0 : Int32)), .val (.int (1 : Int32))] [(.ref b), (.int (1 : Int32))])) rfl rfl (Jvm.hb hby d3_21) _ ?_
        exact kt)
      have pre83 : ∀ τ, Steps p.tables e below (T72.setTop (mkF m 22 #[.val (.ref a), .val (.ref b), .val (.ref r), .val (.int (0 : Int32)), .val (.int (1 : Int32))] [(.int (2 : Int32)), (.int (1 : Int32))])) τ → PS τ := by
        have hq := pre82
        rw [len_of S81 M81] at hq
        exact hq
      obtain ⟨cl84, Ar84, q84, S84, M84, H84, U84⟩ := id f74
      have in84 : ¬ ((1 : Int32) < 0 ∨ cl84.slots.size ≤ ((1 : Int32)).toNatClampNeg) := inb_of S84 ⟨by decide, by decide⟩
      obtain ⟨cl85, Ar85, q85, S85, M85, H85, U85⟩ := id f74
      have in85 : ¬ ((1 : Int32) < 0 ∨ cl85.slots.size ≤ ((1 : Int32)).toNatClampNeg) := inb_of S85 ⟨by decide, by decide⟩
      have f87 := (j54_1.other W72 (Or.inl ne_a_r))
      obtain ⟨T86, X86, e86, st86⟩ := getF X72 hx hZ hown (host := "") (Or.inl (own_W16 hw)) Via.refl e72 f87 (g := (mkF m 35 #[.val (.ref a), .val (.ref b), .val (.ref r), .val (.int (0 : Int32)), .val (.int (1 : Int32))] [(.ref a), (.double (FP.i2d t1)), (.double (FP.i2d t1))])) rfl rfl (Jvm.hb hby d3_35)
      have pre88 := fun (τ : State) kt => pre83 τ (by
        show Steps p.tables e below (T72.setTop (mkF m 22 #[.val (.ref a), .val (.ref b), .val (.ref r), .val (.int (0 : Int32)), .val (.int (1 : Int32))] [(.int (2 : Int32)), (.int (1 : Int32))])) τ
        refine XS.icmpNo X72.here hx rfl (Jvm.hb hby d3_22) rfl (tlt (by decide)).2.1 ?_
        refine XS.aloadN X72.here hx rfl (Jvm.hb hby d3_25) rfl rfl ?_
        refine XS.iloadN X72.here hx rfl (Jvm.hb hby d3_26) rfl ?_
        refine XS.iconst X72.here hx rfl (Jvm.hb hby d3_27) ?_
        refine XS.iadd X72.here hx rfl (Jvm.hb hby d3_28) rfl ?_
        refine X72.daload hx ((congrArg (fun (HH : Heap) => HH[b]?) (e72 : T72.heap = h72)).trans Ar84.1) (State.isArrayOf_alike hZ.alike Ar84.2.1) Ar84.2.2 in84 (H84.at in84 rfl) (g := (mkF m 29 #[.val (.ref a), .val (.ref b), .val (.ref r), .val (.int (0 : Int32)), .val (.int (1 : Int32))] [(.int (1 : Int32)), (.ref b)])) rfl rfl (Jvm.hb hby d3_29) _ ?_
        refine XS.aloadN X72.here hx rfl (Jvm.hb hby d3_30) rfl rfl ?_
        refine XS.iload X72.here hx rfl (Jvm.hb hby d3_31) rfl ?_
        refine X72.daload hx ((congrArg (fun (HH : Heap) => HH[b]?) (e72 : T72.heap = h72)).trans Ar85.1) (State.isArrayOf_alike hZ.alike Ar85.2.1) Ar85.2.2 in85 (H85.at in85 rfl) (g := (mkF m 33 #[.val (.ref a), .val (.ref b), .val (.ref r), .val (.int (0 : Int32)), .val (.int (1 : Int32))] [(.int (1 : Int32)), (.ref b), (.double (FP.i2d t1))])) rfl rfl (Jvm.hb hby d3_33) _ ?_
        refine XS.aloadN X72.here hx rfl (Jvm.hb hby d3_34) rfl rfl ?_
        exact st86 τ kt)
      have pre89 := fun (τ : State) kt => pre88 τ (by
        show Steps p.tables e below (T86.setTop (mkF m 38 #[.val (.ref a), .val (.ref b), .val (.ref r), .val (.int (0 : Int32)), .val (.int (1 : Int32))] [(.double en), (.double (FP.i2d t1)), (.double (FP.i2d t1))])) τ
        refine own_dadd X86.here hx rfl (Jvm.hb hby d3_38) rfl (w1.2.1.1) ?_
        refine X86.ldc2DoubleC hx hown (mvT hZ (own_W27 hw)) (g := (mkF m 39 #[.val (.ref a), .val (.ref b), .val (.ref r), .val (.int (0 : Int32)), .val (.int (1 : Int32))] [(.double (FP.dadd (FP.i2d t1) en)), (.double (FP.i2d t1))])) rfl (Jvm.hb hby d3_39) _ ?_
        refine own_dadd X86.here hx rfl (Jvm.hb hby d3_42) rfl (w1.2.1.2) ?_
        refine own_dcmp X86.here hx rfl (Jvm.hb hby d3_43) rfl ?_
        exact kt)
      by_cases q1 : (0 : Int32) < (cmpValue (FP.dcmp (FP.i2d t1) (FP.dadd (FP.dadd (FP.i2d t1) en) (4472406533629990549 : UInt64))) .g)
      · skip
        have pre90 := fun (τ : State) kt => pre89 τ (by
          show Steps p.tables e below (T86.setTop (mkF m 44 #[.val (.ref a), .val (.ref b), .val (.ref r), .val (.int (0 : Int32)), .val (.int (1 : Int32))] [(.int (cmpValue (FP.dcmp (FP.i2d t1) (FP.dadd (FP.dadd (FP.i2d t1) en) (4472406533629990549 : UInt64))) .g))])) τ
          refine XS.ifYes X86.here hx rfl (pc0 := 44) (pc' := 53) rfl (Jvm.hb hby d3_44) rfl ((if0 _ _).trans (tlt q1).2.2.1) (by decide) (by decide) ?_
          exact kt)
        have f91 := j54_0.wr W72
        exact ⟨_, _, _, (0 : Int32), X86, e86, N72, K72, f91, f87, f74, V72, own_fin (j := (0 : Int32)) (v := 0) (by decide) (own_lo (by decide) hj54 hc m1) ((w1.2.2.1.1 (by decide)).mp q1), pre90⟩
      · skip
        obtain ⟨cl92, Ar92, q92, S92, M92, H92, U92⟩ := id f74
        have pre93 := fun (τ : State) kt => pre89 τ (by
          show Steps p.tables e below (T86.setTop (mkF m 44 #[.val (.ref a), .val (.ref b), .val (.ref r), .val (.int (0 : Int32)), .val (.int (1 : Int32))] [(.int (cmpValue (FP.dcmp (FP.i2d t1) (FP.dadd (FP.dadd (FP.i2d t1) en) (4472406533629990549 : UInt64))) .g))])) τ
          refine XS.ifNo X86.here hx rfl (Jvm.hb hby d3_44) rfl ((if0 _ _).trans (flt q1).2.2.1) ?_
          refine XS.iinc X86.here hx rfl (Jvm.hb hby d3_47) rfl (l' := #[.val (.ref a), .val (.ref b), .val (.ref r), .val (.int (1 : Int32)), .val (.int (1 : Int32))]) rfl ?_
          refine XS.goto X86.here hx rfl (pc0 := 50) (pc' := 17) rfl (Jvm.hb hby d3_50) (by decide) (by decide) ?_
          refine XS.iloadN X86.here hx rfl (Jvm.hb hby d3_17) rfl ?_
          refine XS.iconst X86.here hx rfl (Jvm.hb hby d3_18) ?_
          refine XS.iadd X86.here hx rfl (Jvm.hb hby d3_19) rfl ?_
          refine XS.aloadN X86.here hx rfl (Jvm.hb hby d3_20) rfl rfl ?_
          refine X86.arraylength hx ((congrArg (fun (HH : Heap) => HH[b]?) (e86 : T86.heap = h72)).trans Ar92.1) (State.isArrayOf_alike hZ.alike Ar92.2.1) (g := (mkF m 21 #[.val (.ref a), .val (.ref b), .val (.ref r), .val (.int (1 : Int32)), .val (.int (1 : Int32))] [(.ref b), (.int (2 : Int32))])) rfl rfl (Jvm.hb hby d3_21) _ ?_
          exact kt)
        have pre94 : ∀ τ, Steps p.tables e below (T86.setTop (mkF m 22 #[.val (.ref a), .val (.ref b), .val (.ref r), .val (.int (1 : Int32)), .val (.int (1 : Int32))] [(.int (2 : Int32)), (.int (2 : Int32))])) τ → PS τ := by
          have hq := pre93
          rw [len_of S92 M92] at hq
          exact hq
        have pre95 := fun (τ : State) kt => pre94 τ (by
          show Steps p.tables e below (T86.setTop (mkF m 22 #[.val (.ref a), .val (.ref b), .val (.ref r), .val (.int (1 : Int32)), .val (.int (1 : Int32))] [(.int (2 : Int32)), (.int (2 : Int32))])) τ
          refine XS.icmpYes X86.here hx rfl (pc0 := 22) (pc' := 53) rfl (Jvm.hb hby d3_22) rfl (flt (by decide)).2.1 (by decide) (by decide) ?_
          exact kt)
        have f96 := j54_0.wr W72
        exact ⟨_, _, _, (1 : Int32), X86, e86, N72, K72, f96, f87, f74, V72, own_fin (j := (1 : Int32)) (v := 1) (by decide) (Int.not_lt.mp (fun z => q1 ((w1.2.2.1.1 (by decide)).mpr z))) (by have := w1.1.2; omega), pre95⟩
    · skip
      have pre97 : ∀ τ, Steps p.tables e below (T72.setTop (mkF m 17 #[.val (.ref a), .val (.ref b), .val (.ref r), .val (.int (1 : Int32)), .val (.int (1 : Int32))] [])) τ → PS τ := by have hq := pre78; rw [hc] at hq; exact hq
      obtain ⟨cl98, Ar98, q98, S98, M98, H98, U98⟩ := id f74
      have pre99 := fun (τ : State) kt => pre97 τ (by
        show Steps p.tables e below (T72.setTop (mkF m 17 #[.val (.ref a), .val (.ref b), .val (.ref r), .val (.int (1 : Int32)), .val (.int (1 : Int32))] [])) τ
        refine XS.iloadN X72.here hx rfl (Jvm.hb hby d3_17) rfl ?_
        refine XS.iconst X72.here hx rfl (Jvm.hb hby d3_18) ?_
        refine XS.iadd X72.here hx rfl (Jvm.hb hby d3_19) rfl ?_
        refine XS.aloadN X72.here hx rfl (Jvm.hb hby d3_20) rfl rfl ?_
        refine X72.arraylength hx ((congrArg (fun (HH : Heap) => HH[b]?) (e72 : T72.heap = h72)).trans Ar98.1) (State.isArrayOf_alike hZ.alike Ar98.2.1) (g := (mkF m 21 #[.val (.ref a), .val (.ref b), .val (.ref r), .val (.int (1 : Int32)), .val (.int (1 : Int32))] [(.ref b), (.int (2 : Int32))])) rfl rfl (Jvm.hb hby d3_21) _ ?_
        exact kt)
      have pre100 : ∀ τ, Steps p.tables e below (T72.setTop (mkF m 22 #[.val (.ref a), .val (.ref b), .val (.ref r), .val (.int (1 : Int32)), .val (.int (1 : Int32))] [(.int (2 : Int32)), (.int (2 : Int32))])) τ → PS τ := by
        have hq := pre99
        rw [len_of S98 M98] at hq
        exact hq
      have pre101 := fun (τ : State) kt => pre100 τ (by
        show Steps p.tables e below (T72.setTop (mkF m 22 #[.val (.ref a), .val (.ref b), .val (.ref r), .val (.int (1 : Int32)), .val (.int (1 : Int32))] [(.int (2 : Int32)), (.int (2 : Int32))])) τ
        refine XS.icmpYes X72.here hx rfl (pc0 := 22) (pc' := 53) rfl (Jvm.hb hby d3_22) rfl (flt (by decide)).2.1 (by decide) (by decide) ?_
        exact kt)
      have f102 := j54_0.wr W72
      have f103 := (j54_1.other W72 (Or.inl ne_a_r))
      exact ⟨_, _, _, (1 : Int32), X72, e72, N72, K72, f102, f103, f74, V72, own_fin (j := (1 : Int32)) (v := 1) (by decide) (own_lo (by decide) hj54 hc m1) (by have := w1.1.2; omega), pre101⟩
  obtain ⟨cl104, Ar104, q104, S104, M104, H104, U104⟩ := id j79_3
  obtain ⟨T105, h105, X105, e105, W105, st105⟩ := stI X79 hx hZ e79 Ar104 (j := (1 : Int32)) (inb_of S104 ⟨by decide, by decide⟩) (g := (mkF m 57 #[.val (.ref a), .val (.ref b), .val (.ref r), .val (.int j1), .val (.int (1 : Int32))] [(.int j1), (.int (1 : Int32)), (.ref r)])) rfl rfl (Jvm.hb hby d3_57)
  have V105 : Arv Z h105 r k47 .int (2 : Int32) [(.int j0), (.int j1)] (.int (0 : Int32)) := Arv.set Ar104 q104 S104 M104 H104 U104 rfl W105 1 rfl (Nat.le_of_ble_eq_true rfl)
  have N105 := Fr.snoc X105 N79 g_r
  have K105 : Keep h0 h105 [] := K79.wr W105 (Or.inr sz_r)
  have pre106 := fun (τ : State) kt => pre79 τ (by
    show Steps p.tables e below (T79.setTop (mkF m 53 #[.val (.ref a), .val (.ref b), .val (.ref r), .val (.int j1), .val (.int (1 : Int32))] [])) τ
    refine XS.aloadN X79.here hx rfl (Jvm.hb hby d3_53) rfl rfl ?_
    refine XS.iload X79.here hx rfl (Jvm.hb hby d3_54) rfl ?_
    refine XS.iloadN X79.here hx rfl (Jvm.hb hby d3_56) rfl ?_
    exact st105 τ kt)
  have f107 := j79_2.other W105 ne_b_r
  obtain ⟨cl108, Ar108, q108, S108, M108, H108, U108⟩ := id f107
  have pre109 := fun (τ : State) kt => pre106 τ (by
    show Steps p.tables e below (T105.setTop (mkF m 58 #[.val (.ref a), .val (.ref b), .val (.ref r), .val (.int j1), .val (.int (1 : Int32))] [])) τ
    refine XS.iinc X105.here hx rfl (Jvm.hb hby d3_58) rfl (l' := #[.val (.ref a), .val (.ref b), .val (.ref r), .val (.int j1), .val (.int (2 : Int32))]) rfl ?_
    refine XS.goto X105.here hx rfl (pc0 := 61) (pc' := 10) rfl (Jvm.hb hby d3_61) (by decide) (by decide) ?_
    refine XS.iload X105.here hx rfl (Jvm.hb hby d3_10) rfl ?_
    refine XS.aloadN X105.here hx rfl (Jvm.hb hby d3_12) rfl rfl ?_
    refine X105.arraylength hx ((congrArg (fun (HH : Heap) => HH[b]?) (e105 : T105.heap = h105)).trans Ar108.1) (State.isArrayOf_alike hZ.alike Ar108.2.1) (g := (mkF m 13 #[.val (.ref a), .val (.ref b), .val (.ref r), .val (.int j1), .val (.int (2 : Int32))] [(.ref b), (.int (2 : Int32))])) rfl rfl (Jvm.hb hby d3_13) _ ?_
    exact kt)
  have pre110 : ∀ τ, Steps p.tables e below (T105.setTop (mkF m 14 #[.val (.ref a), .val (.ref b), .val (.ref r), .val (.int j1), .val (.int (2 : Int32))] [(.int (2 : Int32)), (.int (2 : Int32))])) τ → PS τ := by
    have hq := pre109
    rw [len_of S108 M108] at hq
    exact hq
  have hres : Arv Z h105 r k47 .int (2 : Int32) [(.int lx0), (.int lx1)] (.int (0 : Int32)) := by
    rw [← hj54, ← hj79]
    exact V105
  have pre111 := fun (τ : State) kt => pre110 τ (by
    show Steps p.tables e below (T105.setTop (mkF m 14 #[.val (.ref a), .val (.ref b), .val (.ref r), .val (.int j1), .val (.int (2 : Int32))] [(.int (2 : Int32)), (.int (2 : Int32))])) τ
    refine XS.icmpYes X105.here hx rfl (pc0 := 14) (pc' := 64) rfl (Jvm.hb hby d3_14) rfl (flt (by decide)).2.1 (by decide) (by decide) ?_
    refine XS.aloadN X105.here hx rfl (Jvm.hb hby d3_64) rfl rfl ?_
    exact kt)
  obtain ⟨fs, hrL, hrun, hended, hW, hsame⟩ := X105.leave (v := some (.ref r)) (fun h => by rw [Bd.returns] at h; cases h)
  refine ⟨_, _, cast (congrFun hPS _) (pre111 _ ?_), hrun, hended, _, _, rfl, ?_, ⟨_, rfl⟩, hW, hsame.mono (by decide) (by decide)⟩
  · show Steps p.tables e below (T105.setTop (mkF m 65 #[.val (.ref a), .val (.ref b), .val (.ref r), .val (.int j1), .val (.int (2 : Int32))] [(.ref r)])) _
    exact retOut X105 hx Bd.returns rfl (Or.inr (Or.inr (Or.inr (Or.inr ⟨rfl, rfl, rfl⟩)))) (Jvm.hb hby d3_65) hrL
  · show QL2 Z lx0 lx1 h0 n0 _ T105.heap _
    rw [e105]
    exact ⟨r, _, rfl, N105, K105, g_r, sz_r, hres⟩
def QL3 (Z : State) (lx0 lx1 lx2 : Int32) (h0 : Heap) (n0 : Nat) (v : Option Value) (h : Heap) (L : List Loc) : Prop := ∃ (r : Addr) (kr : ClassId), v = some (.ref r) ∧ Fr n0 L ∧ Keep h0 h [] ∧ n0 ≤ r ∧ h0.size ≤ r ∧ Arv Z h r kr .int (3 : Int32) [(.int lx0), (.int lx1), (.int lx2)] (.int (0 : Int32))
set_option maxRecDepth 65536 in
set_option maxHeartbeats 40000000 in
theorem rmL3 (l : Launch) (Z : State) (a0 : Array Value) (hw : ∀ d ∈ tables_1, d.before a0 Z = true) (ws : List Jvm.Cond) (a : Addr) (b : Addr) (kb : ClassId) (iv t0 t1 t2 t3 ev lx0 lx1 lx2 : Int32) (en : UInt64) (h0 : Heap) (n0 : Nat) (Z0 : n0 ≤ h0.size) (E7 : Exa Z h0 a "com/example/counterpath/counterpath/core/Window") (F2 : Fld Z h0 a "com/example/counterpath/counterpath/core/Window" "end" "D" (.double en)) (VB : Arv Z h0 b kb .double (3 : Int32) [(.double (FP.i2d t0)), (.double (FP.i2d t1)), (.double (FP.i2d t2))] (.double (0 : UInt64))) (w0 : own_row 3 iv t1 t2 t3 t0 ev en lx0) (w1 : own_row 3 iv t1 t2 t3 t1 ev en lx1) (w2 : own_row 3 iv t1 t2 t3 t2 ev en lx2) (m1 : lx0.toInt ≤ lx1.toInt) (m2 : lx1.toInt ≤ lx2.toInt) :
    MetFree l (⟨"com/example/counterpath/counterpath/core/Window", "lasts", "([D)[I"⟩ : MethodName) (head1 (Jvm.Cond.code (⟨"com/example/counterpath/counterpath/core/Window", "lasts", "([D)[I"⟩ : MethodName) prog_33_method_3_code 5 (some (.array .int)) :: ws) ({ frames := 0, cells := 1, slots := 3, locals := 0 } : Room)) (fun α U => α = #[(.ref a), (.ref b)] ∧ Z.Warmed39 U.vm ∧ U.heap = h0) (fun _ _ _ _ _ => True) (fun _ U ω U' => ∃ ν Λ, ω = .returned ν ∧ QL3 Z lx0 lx1 lx2 h0 n0 ν U'.heap Λ ∧ FrameEnd U ω U' Λ ({ frames := 0, cells := 1, slots := 3, locals := 0 } : Room).cells ({ frames := 0, cells := 1, slots := 3, locals := 0 } : Room).slots) := by
  refine MetFree.of_bodySF (plainFor_of_name own_pn_com_example_counterpath_counterpath_core_Window) hisR ?_
  intro p e s m args below meth c s₁ Bd hml0 hP hK
  obtain ⟨rfl, hZ, hh⟩ := hP
  have hx := Bd.exec
  have hby := Bd.bytes
  have hml : c.maxLocals = 5 := hml0
  have hown : s.vm.findClass "com/example/counterpath/counterpath/core/Window" = some m.cls := findClass_of_methodNamed Bd.named
  have hnm := (name_of_methodNamed Bd.named Bd.method).1
  have X0 : Stand p l e ({ frames := 0, cells := 1, slots := 3, locals := 0 } : Room) s m #[(.ref a), (.ref b)] below meth c s₁ [] 0 0 := Stand.of_body Bd
  have e0 : s₁.heap = h0 := by rw [← hh, Bd.state]; rfl
  have N0 := Fr.nil n0
  have KK0 : Keep h0 h0 [] := Keep.refl h0 []
  obtain ⟨PS, hPS⟩ : ∃ P : State → Prop, P = fun τ => Steps p.tables e below (s₁.setTop (entryFrame m #[(.ref a), (.ref b)] 5)) τ := ⟨_, rfl⟩
  have pre0 : ∀ τ, Steps p.tables e below (s₁.setTop (mkF m 0 #[.val (.ref a), .val (.ref b), .unset, .unset, .unset] [])) τ → PS τ := by rw [hPS]; exact fun τ κ => castTop (own_ef3 m a b) κ
  obtain ⟨cl112, Ar112, q112, S112, M112, H112, U112⟩ := id VB
  have pre113 := fun (τ : State) kt => pre0 τ (by
    show Steps p.tables e below (s₁.setTop (mkF m 0 #[.val (.ref a), .val (.ref b), .unset, .unset, .unset] [])) τ
    refine XS.aloadN X0.here hx rfl (Jvm.hb hby d3_0) rfl rfl ?_
    refine X0.arraylength hx ((congrArg (fun (HH : Heap) => HH[b]?) (e0 : s₁.heap = h0)).trans Ar112.1) (State.isArrayOf_alike hZ.alike Ar112.2.1) (g := (mkF m 1 #[.val (.ref a), .val (.ref b), .unset, .unset, .unset] [(.ref b)])) rfl rfl (Jvm.hb hby d3_1) _ ?_
    exact kt)
  have pre114 : ∀ τ, Steps p.tables e below (s₁.setTop (mkF m 2 #[.val (.ref a), .val (.ref b), .unset, .unset, .unset] [(.int (3 : Int32))])) τ → PS τ := by
    have hq := pre113
    rw [len_of S112 M112] at hq
    exact hq
  obtain ⟨T115, h115, k115, X115, e115, E115, A115, st115⟩ := newP (aty := .int) X0 hx hZ (own_W3 hw) e0 (g := (mkF m 2 #[.val (.ref a), .val (.ref b), .unset, .unset, .unset] [(.int (3 : Int32))])) rfl (Jvm.hb hby d3_2) rfl (by decide) (cap := 3) (by decide) (by decide) (by decide) (by decide)
  obtain ⟨r, g115⟩ : ∃ z, z = h0.size := ⟨_, rfl⟩
  rw [← g115] at A115 st115
  have ne_a_r : a ≠ r := Nat.ne_of_lt (Nat.lt_of_lt_of_le E7.lt (Nat.le_of_eq g115.symm))
  have ne_b_r : b ≠ r := Nat.ne_of_lt (Nat.lt_of_lt_of_le VB.lt (Nat.le_of_eq g115.symm))
  have g_r : n0 ≤ r := Nat.le_trans (Nat.le_trans Z0 KK0.1) (Nat.le_of_eq g115.symm)
  have sz_r : h0.size ≤ r := Nat.le_trans KK0.1 (Nat.le_of_eq g115.symm)
  have K115 : Keep h0 h115 [] := KK0.ext E115
  have V_r : Arv Z h115 r k115 .int (3 : Int32) [(.int (0 : Int32)), (.int (0 : Int32)), (.int (0 : Int32))] (.int (0 : Int32)) := (Arv.new A115 (by decide)).pad (pad_rep [] (.int (0 : Int32)) 3)
  have pre116 := fun (τ : State) kt => pre114 τ (st115 τ kt)
  have f117 := VB.ext E115
  obtain ⟨cl118, Ar118, q118, S118, M118, H118, U118⟩ := id f117
  have pre119 := fun (τ : State) kt => pre116 τ (by
    show Steps p.tables e below (T115.setTop (mkF m 4 #[.val (.ref a), .val (.ref b), .unset, .unset, .unset] [(.ref r)])) τ
    refine XS.astoreN X115.here hx rfl (Jvm.hb hby d3_4) rfl rfl (l' := #[.val (.ref a), .val (.ref b), .val (.ref r), .unset, .unset]) rfl ?_
    refine XS.iconst X115.here hx rfl (Jvm.hb hby d3_5) ?_
    refine XS.istoreN X115.here hx rfl (Jvm.hb hby d3_6) rfl (l' := #[.val (.ref a), .val (.ref b), .val (.ref r), .val (.int (0 : Int32)), .unset]) rfl ?_
    refine XS.iconst X115.here hx rfl (Jvm.hb hby d3_7) ?_
    refine XS.istore X115.here hx rfl (Jvm.hb hby d3_8) rfl (l' := #[.val (.ref a), .val (.ref b), .val (.ref r), .val (.int (0 : Int32)), .val (.int (0 : Int32))]) rfl ?_
    refine XS.iload X115.here hx rfl (Jvm.hb hby d3_10) rfl ?_
    refine XS.aloadN X115.here hx rfl (Jvm.hb hby d3_12) rfl rfl ?_
    refine X115.arraylength hx ((congrArg (fun (HH : Heap) => HH[b]?) (e115 : T115.heap = h115)).trans Ar118.1) (State.isArrayOf_alike hZ.alike Ar118.2.1) (g := (mkF m 13 #[.val (.ref a), .val (.ref b), .val (.ref r), .val (.int (0 : Int32)), .val (.int (0 : Int32))] [(.ref b), (.int (0 : Int32))])) rfl rfl (Jvm.hb hby d3_13) _ ?_
    exact kt)
  have pre120 : ∀ τ, Steps p.tables e below (T115.setTop (mkF m 14 #[.val (.ref a), .val (.ref b), .val (.ref r), .val (.int (0 : Int32)), .val (.int (0 : Int32))] [(.int (3 : Int32)), (.int (0 : Int32))])) τ → PS τ := by
    have hq := pre119
    rw [len_of S118 M118] at hq
    exact hq
  have pre121 := fun (τ : State) kt => pre120 τ (by
    show Steps p.tables e below (T115.setTop (mkF m 14 #[.val (.ref a), .val (.ref b), .val (.ref r), .val (.int (0 : Int32)), .val (.int (0 : Int32))] [(.int (3 : Int32)), (.int (0 : Int32))])) τ
    refine XS.icmpNo X115.here hx rfl (Jvm.hb hby d3_14) rfl (tlt (by decide)).2.1 ?_
    exact kt)
  obtain ⟨T122, h122, Lj122, j0, X122, e122, N122, K122, j122_0, j122_1, j122_2, j122_3, hj122, pre122⟩ : ∃ (T122 : State) (h122 : Heap) (Lj : List Loc) (j0 : Int32), Stand p l e ({ frames := 0, cells := 1, slots := 3, locals := 0 } : Room) s m #[(.ref a), (.ref b)] below meth c T122 Lj (1) (3) ∧ T122.heap = h122 ∧ Fr n0 Lj ∧ Keep h0 h122 [] ∧ Exa Z h122 a "com/example/counterpath/counterpath/core/Window" ∧ Fld Z h122 a "com/example/counterpath/counterpath/core/Window" "end" "D" (.double en) ∧ Arv Z h122 b kb .double (3 : Int32) [(.double (FP.i2d t0)), (.double (FP.i2d t1)), (.double (FP.i2d t2))] (.double (0 : UInt64)) ∧ Arv Z h122 r k115 .int (3 : Int32) [(.int (0 : Int32)), (.int (0 : Int32)), (.int (0 : Int32))] (.int (0 : Int32)) ∧ (j0 = lx0) ∧ ∀ τ, Steps p.tables e below (T122.setTop (mkF m 53 #[.val (.ref a), .val (.ref b), .val (.ref r), .val (.int j0), .val (.int (0 : Int32))] [])) τ → PS τ := by
    obtain ⟨cl123, Ar123, q123, S123, M123, H123, U123⟩ := id f117
    have pre124 := fun (τ : State) kt => pre121 τ (by
      show Steps p.tables e below (T115.setTop (mkF m 17 #[.val (.ref a), .val (.ref b), .val (.ref r), .val (.int (0 : Int32)), .val (.int (0 : Int32))] [])) τ
      refine XS.iloadN X115.here hx rfl (Jvm.hb hby d3_17) rfl ?_
      refine XS.iconst X115.here hx rfl (Jvm.hb hby d3_18) ?_
      refine XS.iadd X115.here hx rfl (Jvm.hb hby d3_19) rfl ?_
      refine XS.aloadN X115.here hx rfl (Jvm.hb hby d3_20) rfl rfl ?_
      refine X115.arraylength hx ((congrArg (fun (HH : Heap) => HH[b]?) (e115 : T115.heap = h115)).trans Ar123.1) (State.isArrayOf_alike hZ.alike Ar123.2.1) (g := (mkF m 21 #[.val (.ref a), .val (.ref b), .val (.ref r), .val (.int (0 : Int32)), .val (.int (0 : Int32))] [(.ref b), (.int (1 : Int32))])) rfl rfl (Jvm.hb hby d3_21) _ ?_
      exact kt)
    have pre125 : ∀ τ, Steps p.tables e below (T115.setTop (mkF m 22 #[.val (.ref a), .val (.ref b), .val (.ref r), .val (.int (0 : Int32)), .val (.int (0 : Int32))] [(.int (3 : Int32)), (.int (1 : Int32))])) τ → PS τ := by
      have hq := pre124
      rw [len_of S123 M123] at hq
      exact hq
    obtain ⟨cl126, Ar126, q126, S126, M126, H126, U126⟩ := id f117
    have in126 : ¬ ((1 : Int32) < 0 ∨ cl126.slots.size ≤ ((1 : Int32)).toNatClampNeg) := inb_of S126 ⟨by decide, by decide⟩
    obtain ⟨cl127, Ar127, q127, S127, M127, H127, U127⟩ := id f117
    have in127 : ¬ ((0 : Int32) < 0 ∨ cl127.slots.size ≤ ((0 : Int32)).toNatClampNeg) := inb_of S127 ⟨by decide, by decide⟩
    have f129 := F2.ext E115
    obtain ⟨T128, X128, e128, st128⟩ := getF X115 hx hZ hown (host := "") (Or.inl (own_W16 hw)) Via.refl e115 f129 (g := (mkF m 35 #[.val (.ref a), .val (.ref b), .val (.ref r), .val (.int (0 : Int32)), .val (.int (0 : Int32))] [(.ref a), (.double (FP.i2d t0)), (.double (FP.i2d t1))])) rfl rfl (Jvm.hb hby d3_35)
    have pre130 := fun (τ : State) kt => pre125 τ (by
      show Steps p.tables e below (T115.setTop (mkF m 22 #[.val (.ref a), .val (.ref b), .val (.ref r), .val (.int (0 : Int32)), .val (.int (0 : Int32))] [(.int (3 : Int32)), (.int (1 : Int32))])) τ
      refine XS.icmpNo X115.here hx rfl (Jvm.hb hby d3_22) rfl (tlt (by decide)).2.1 ?_
      refine XS.aloadN X115.here hx rfl (Jvm.hb hby d3_25) rfl rfl ?_
      refine XS.iloadN X115.here hx rfl (Jvm.hb hby d3_26) rfl ?_
      refine XS.iconst X115.here hx rfl (Jvm.hb hby d3_27) ?_
      refine XS.iadd X115.here hx rfl (Jvm.hb hby d3_28) rfl ?_
      refine X115.daload hx ((congrArg (fun (HH : Heap) => HH[b]?) (e115 : T115.heap = h115)).trans Ar126.1) (State.isArrayOf_alike hZ.alike Ar126.2.1) Ar126.2.2 in126 (H126.at in126 rfl) (g := (mkF m 29 #[.val (.ref a), .val (.ref b), .val (.ref r), .val (.int (0 : Int32)), .val (.int (0 : Int32))] [(.int (1 : Int32)), (.ref b)])) rfl rfl (Jvm.hb hby d3_29) _ ?_
      refine XS.aloadN X115.here hx rfl (Jvm.hb hby d3_30) rfl rfl ?_
      refine XS.iload X115.here hx rfl (Jvm.hb hby d3_31) rfl ?_
      refine X115.daload hx ((congrArg (fun (HH : Heap) => HH[b]?) (e115 : T115.heap = h115)).trans Ar127.1) (State.isArrayOf_alike hZ.alike Ar127.2.1) Ar127.2.2 in127 (H127.at in127 rfl) (g := (mkF m 33 #[.val (.ref a), .val (.ref b), .val (.ref r), .val (.int (0 : Int32)), .val (.int (0 : Int32))] [(.int (0 : Int32)), (.ref b), (.double (FP.i2d t1))])) rfl rfl (Jvm.hb hby d3_33) _ ?_
      refine XS.aloadN X115.here hx rfl (Jvm.hb hby d3_34) rfl rfl ?_
      exact st128 τ kt)
    have pre131 := fun (τ : State) kt => pre130 τ (by
      show Steps p.tables e below (T128.setTop (mkF m 38 #[.val (.ref a), .val (.ref b), .val (.ref r), .val (.int (0 : Int32)), .val (.int (0 : Int32))] [(.double en), (.double (FP.i2d t0)), (.double (FP.i2d t1))])) τ
      refine own_dadd X128.here hx rfl (Jvm.hb hby d3_38) rfl (w0.2.1.1) ?_
      refine X128.ldc2DoubleC hx hown (mvT hZ (own_W27 hw)) (g := (mkF m 39 #[.val (.ref a), .val (.ref b), .val (.ref r), .val (.int (0 : Int32)), .val (.int (0 : Int32))] [(.double (FP.dadd (FP.i2d t0) en)), (.double (FP.i2d t1))])) rfl (Jvm.hb hby d3_39) _ ?_
      refine own_dadd X128.here hx rfl (Jvm.hb hby d3_42) rfl (w0.2.1.2) ?_
      refine own_dcmp X128.here hx rfl (Jvm.hb hby d3_43) rfl ?_
      exact kt)
    by_cases q1 : (0 : Int32) < (cmpValue (FP.dcmp (FP.i2d t1) (FP.dadd (FP.dadd (FP.i2d t0) en) (4472406533629990549 : UInt64))) .g)
    · skip
      have pre132 := fun (τ : State) kt => pre131 τ (by
        show Steps p.tables e below (T128.setTop (mkF m 44 #[.val (.ref a), .val (.ref b), .val (.ref r), .val (.int (0 : Int32)), .val (.int (0 : Int32))] [(.int (cmpValue (FP.dcmp (FP.i2d t1) (FP.dadd (FP.dadd (FP.i2d t0) en) (4472406533629990549 : UInt64))) .g))])) τ
        refine XS.ifYes X128.here hx rfl (pc0 := 44) (pc' := 53) rfl (Jvm.hb hby d3_44) rfl ((if0 _ _).trans (tlt q1).2.2.1) (by decide) (by decide) ?_
        exact kt)
      have f133 := E7.ext E115
      exact ⟨_, _, _, (0 : Int32), X128, e128, N0, K115, f133, f129, f117, V_r, own_fin (j := (0 : Int32)) (v := 0) (by decide) (w0.1.1) ((w0.2.2.1.1 (by decide)).mp q1), pre132⟩
    · skip
      obtain ⟨cl134, Ar134, q134, S134, M134, H134, U134⟩ := id f117
      have pre135 := fun (τ : State) kt => pre131 τ (by
        show Steps p.tables e below (T128.setTop (mkF m 44 #[.val (.ref a), .val (.ref b), .val (.ref r), .val (.int (0 : Int32)), .val (.int (0 : Int32))] [(.int (cmpValue (FP.dcmp (FP.i2d t1) (FP.dadd (FP.dadd (FP.i2d t0) en) (4472406533629990549 : UInt64))) .g))])) τ
        refine XS.ifNo X128.here hx rfl (Jvm.hb hby d3_44) rfl ((if0 _ _).trans (flt q1).2.2.1) ?_
        refine XS.iinc X128.here hx rfl (Jvm.hb hby d3_47) rfl (l' := #[.val (.ref a), .val (.ref b), .val (.ref r), .val (.int (1 : Int32)), .val (.int (0 : Int32))]) rfl ?_
        refine XS.goto X128.here hx rfl (pc0 := 50) (pc' := 17) rfl (Jvm.hb hby d3_50) (by decide) (by decide) ?_
        refine XS.iloadN X128.here hx rfl (Jvm.hb hby d3_17) rfl ?_
        refine XS.iconst X128.here hx rfl (Jvm.hb hby d3_18) ?_
        refine XS.iadd X128.here hx rfl (Jvm.hb hby d3_19) rfl ?_
        refine XS.aloadN X128.here hx rfl (Jvm.hb hby d3_20) rfl rfl ?_
        refine X128.arraylength hx ((congrArg (fun (HH : Heap) => HH[b]?) (e128 : T128.heap = h115)).trans Ar134.1) (State.isArrayOf_alike hZ.alike Ar134.2.1) (g := (mkF m 21 #[.val (.ref a), .val (.ref b), .val (.ref r), .val (.int (1 : Int32)), .val (.int (0 : Int32))] [(.ref b), (.int (2 : Int32))])) rfl rfl (Jvm.hb hby d3_21) _ ?_
        exact kt)
      have pre136 : ∀ τ, Steps p.tables e below (T128.setTop (mkF m 22 #[.val (.ref a), .val (.ref b), .val (.ref r), .val (.int (1 : Int32)), .val (.int (0 : Int32))] [(.int (3 : Int32)), (.int (2 : Int32))])) τ → PS τ := by
        have hq := pre135
        rw [len_of S134 M134] at hq
        exact hq
      obtain ⟨cl137, Ar137, q137, S137, M137, H137, U137⟩ := id f117
      have in137 : ¬ ((2 : Int32) < 0 ∨ cl137.slots.size ≤ ((2 : Int32)).toNatClampNeg) := inb_of S137 ⟨by decide, by decide⟩
      obtain ⟨cl138, Ar138, q138, S138, M138, H138, U138⟩ := id f117
      have in138 : ¬ ((0 : Int32) < 0 ∨ cl138.slots.size ≤ ((0 : Int32)).toNatClampNeg) := inb_of S138 ⟨by decide, by decide⟩
      obtain ⟨T139, X139, e139, st139⟩ := getF X128 hx hZ hown (host := "") (Or.inl (own_W16 hw)) Via.refl e128 f129 (g := (mkF m 35 #[.val (.ref a), .val (.ref b), .val (.ref r), .val (.int (1 : Int32)), .val (.int (0 : Int32))] [(.ref a), (.double (FP.i2d t0)), (.double (FP.i2d t2))])) rfl rfl (Jvm.hb hby d3_35)
      have pre140 := fun (τ : State) kt => pre136 τ (by
        show Steps p.tables e below (T128.setTop (mkF m 22 #[.val (.ref a), .val (.ref b), .val (.ref r), .val (.int (1 : Int32)), .val (.int (0 : Int32))] [(.int (3 : Int32)), (.int (2 : Int32))])) τ
        refine XS.icmpNo X128.here hx rfl (Jvm.hb hby d3_22) rfl (tlt (by decide)).2.1 ?_
        refine XS.aloadN X128.here hx rfl (Jvm.hb hby d3_25) rfl rfl ?_
        refine XS.iloadN X128.here hx rfl (Jvm.hb hby d3_26) rfl ?_
        refine XS.iconst X128.here hx rfl (Jvm.hb hby d3_27) ?_
        refine XS.iadd X128.here hx rfl (Jvm.hb hby d3_28) rfl ?_
        refine X128.daload hx ((congrArg (fun (HH : Heap) => HH[b]?) (e128 : T128.heap = h115)).trans Ar137.1) (State.isArrayOf_alike hZ.alike Ar137.2.1) Ar137.2.2 in137 (H137.at in137 rfl) (g := (mkF m 29 #[.val (.ref a), .val (.ref b), .val (.ref r), .val (.int (1 : Int32)), .val (.int (0 : Int32))] [(.int (2 : Int32)), (.ref b)])) rfl rfl (Jvm.hb hby d3_29) _ ?_
        refine XS.aloadN X128.here hx rfl (Jvm.hb hby d3_30) rfl rfl ?_
        refine XS.iload X128.here hx rfl (Jvm.hb hby d3_31) rfl ?_
        refine X128.daload hx ((congrArg (fun (HH : Heap) => HH[b]?) (e128 : T128.heap = h115)).trans Ar138.1) (State.isArrayOf_alike hZ.alike Ar138.2.1) Ar138.2.2 in138 (H138.at in138 rfl) (g := (mkF m 33 #[.val (.ref a), .val (.ref b), .val (.ref r), .val (.int (1 : Int32)), .val (.int (0 : Int32))] [(.int (0 : Int32)), (.ref b), (.double (FP.i2d t2))])) rfl rfl (Jvm.hb hby d3_33) _ ?_
        refine XS.aloadN X128.here hx rfl (Jvm.hb hby d3_34) rfl rfl ?_
        exact st139 τ kt)
      have pre141 := fun (τ : State) kt => pre140 τ (by
        show Steps p.tables e below (T139.setTop (mkF m 38 #[.val (.ref a), .val (.ref b), .val (.ref r), .val (.int (1 : Int32)), .val (.int (0 : Int32))] [(.double en), (.double (FP.i2d t0)), (.double (FP.i2d t2))])) τ
        refine own_dadd X139.here hx rfl (Jvm.hb hby d3_38) rfl (w0.2.1.1) ?_
        refine X139.ldc2DoubleC hx hown (mvT hZ (own_W27 hw)) (g := (mkF m 39 #[.val (.ref a), .val (.ref b), .val (.ref r), .val (.int (1 : Int32)), .val (.int (0 : Int32))] [(.double (FP.dadd (FP.i2d t0) en)), (.double (FP.i2d t2))])) rfl (Jvm.hb hby d3_39) _ ?_
        refine own_dadd X139.here hx rfl (Jvm.hb hby d3_42) rfl (w0.2.1.2) ?_
        refine own_dcmp X139.here hx rfl (Jvm.hb hby d3_43) rfl ?_
        exact kt)
      by_cases q2 : (0 : Int32) < (cmpValue (FP.dcmp (FP.i2d t2) (FP.dadd (FP.dadd (FP.i2d t0) en) (4472406533629990549 : UInt64))) .g)
      · skip
        have pre142 := fun (τ : State) kt => pre141 τ (by
          show Steps p.tables e below (T139.setTop (mkF m 44 #[.val (.ref a), .val (.ref b), .val (.ref r), .val (.int (1 : Int32)), .val (.int (0 : Int32))] [(.int (cmpValue (FP.dcmp (FP.i2d t2) (FP.dadd (FP.dadd (FP.i2d t0) en) (4472406533629990549 : UInt64))) .g))])) τ
          refine XS.ifYes X139.here hx rfl (pc0 := 44) (pc' := 53) rfl (Jvm.hb hby d3_44) rfl ((if0 _ _).trans (tlt q2).2.2.1) (by decide) (by decide) ?_
          exact kt)
        have f143 := E7.ext E115
        exact ⟨_, _, _, (1 : Int32), X139, e139, N0, K115, f143, f129, f117, V_r, own_fin (j := (1 : Int32)) (v := 1) (by decide) (Int.not_lt.mp (fun z => q1 ((w0.2.2.1.1 (by decide)).mpr z))) ((w0.2.2.1.2.1 (by decide)).mp q2), pre142⟩
      · skip
        obtain ⟨cl144, Ar144, q144, S144, M144, H144, U144⟩ := id f117
        have pre145 := fun (τ : State) kt => pre141 τ (by
          show Steps p.tables e below (T139.setTop (mkF m 44 #[.val (.ref a), .val (.ref b), .val (.ref r), .val (.int (1 : Int32)), .val (.int (0 : Int32))] [(.int (cmpValue (FP.dcmp (FP.i2d t2) (FP.dadd (FP.dadd (FP.i2d t0) en) (4472406533629990549 : UInt64))) .g))])) τ
          refine XS.ifNo X139.here hx rfl (Jvm.hb hby d3_44) rfl ((if0 _ _).trans (flt q2).2.2.1) ?_
          refine XS.iinc X139.here hx rfl (Jvm.hb hby d3_47) rfl (l' := #[.val (.ref a), .val (.ref b), .val (.ref r), .val (.int (2 : Int32)), .val (.int (0 : Int32))]) rfl ?_
          refine XS.goto X139.here hx rfl (pc0 := 50) (pc' := 17) rfl (Jvm.hb hby d3_50) (by decide) (by decide) ?_
          refine XS.iloadN X139.here hx rfl (Jvm.hb hby d3_17) rfl ?_
          refine XS.iconst X139.here hx rfl (Jvm.hb hby d3_18) ?_
          refine XS.iadd X139.here hx rfl (Jvm.hb hby d3_19) rfl ?_
          refine XS.aloadN X139.here hx rfl (Jvm.hb hby d3_20) rfl rfl ?_
          refine X139.arraylength hx ((congrArg (fun (HH : Heap) => HH[b]?) (e139 : T139.heap = h115)).trans Ar144.1) (State.isArrayOf_alike hZ.alike Ar144.2.1) (g := (mkF m 21 #[.val (.ref a), .val (.ref b), .val (.ref r), .val (.int (2 : Int32)), .val (.int (0 : Int32))] [(.ref b), (.int (3 : Int32))])) rfl rfl (Jvm.hb hby d3_21) _ ?_
          exact kt)
        have pre146 : ∀ τ, Steps p.tables e below (T139.setTop (mkF m 22 #[.val (.ref a), .val (.ref b), .val (.ref r), .val (.int (2 : Int32)), .val (.int (0 : Int32))] [(.int (3 : Int32)), (.int (3 : Int32))])) τ → PS τ := by
          have hq := pre145
          rw [len_of S144 M144] at hq
          exact hq
        have pre147 := fun (τ : State) kt => pre146 τ (by
          show Steps p.tables e below (T139.setTop (mkF m 22 #[.val (.ref a), .val (.ref b), .val (.ref r), .val (.int (2 : Int32)), .val (.int (0 : Int32))] [(.int (3 : Int32)), (.int (3 : Int32))])) τ
          refine XS.icmpYes X139.here hx rfl (pc0 := 22) (pc' := 53) rfl (Jvm.hb hby d3_22) rfl (flt (by decide)).2.1 (by decide) (by decide) ?_
          exact kt)
        have f148 := E7.ext E115
        exact ⟨_, _, _, (2 : Int32), X139, e139, N0, K115, f148, f129, f117, V_r, own_fin (j := (2 : Int32)) (v := 2) (by decide) (Int.not_lt.mp (fun z => q2 ((w0.2.2.1.2.1 (by decide)).mpr z))) (by have := w0.1.2; omega), pre147⟩
  obtain ⟨cl149, Ar149, q149, S149, M149, H149, U149⟩ := id j122_3
  obtain ⟨T150, h150, X150, e150, W150, st150⟩ := stI X122 hx hZ e122 Ar149 (j := (0 : Int32)) (inb_of S149 ⟨by decide, by decide⟩) (g := (mkF m 57 #[.val (.ref a), .val (.ref b), .val (.ref r), .val (.int j0), .val (.int (0 : Int32))] [(.int j0), (.int (0 : Int32)), (.ref r)])) rfl rfl (Jvm.hb hby d3_57)
  have V150 : Arv Z h150 r k115 .int (3 : Int32) [(.int j0), (.int (0 : Int32)), (.int (0 : Int32))] (.int (0 : Int32)) := Arv.set Ar149 q149 S149 M149 H149 U149 rfl W150 0 rfl (Nat.le_of_ble_eq_true rfl)
  have N150 := Fr.snoc X150 N122 g_r
  have K150 : Keep h0 h150 [] := K122.wr W150 (Or.inr sz_r)
  have pre151 := fun (τ : State) kt => pre122 τ (by
    show Steps p.tables e below (T122.setTop (mkF m 53 #[.val (.ref a), .val (.ref b), .val (.ref r), .val (.int j0), .val (.int (0 : Int32))] [])) τ
    refine XS.aloadN X122.here hx rfl (Jvm.hb hby d3_53) rfl rfl ?_
    refine XS.iload X122.here hx rfl (Jvm.hb hby d3_54) rfl ?_
    refine XS.iloadN X122.here hx rfl (Jvm.hb hby d3_56) rfl ?_
    exact st150 τ kt)
  have f152 := j122_2.other W150 ne_b_r
  obtain ⟨cl153, Ar153, q153, S153, M153, H153, U153⟩ := id f152
  have pre154 := fun (τ : State) kt => pre151 τ (by
    show Steps p.tables e below (T150.setTop (mkF m 58 #[.val (.ref a), .val (.ref b), .val (.ref r), .val (.int j0), .val (.int (0 : Int32))] [])) τ
    refine XS.iinc X150.here hx rfl (Jvm.hb hby d3_58) rfl (l' := #[.val (.ref a), .val (.ref b), .val (.ref r), .val (.int j0), .val (.int (1 : Int32))]) rfl ?_
    refine XS.goto X150.here hx rfl (pc0 := 61) (pc' := 10) rfl (Jvm.hb hby d3_61) (by decide) (by decide) ?_
    refine XS.iload X150.here hx rfl (Jvm.hb hby d3_10) rfl ?_
    refine XS.aloadN X150.here hx rfl (Jvm.hb hby d3_12) rfl rfl ?_
    refine X150.arraylength hx ((congrArg (fun (HH : Heap) => HH[b]?) (e150 : T150.heap = h150)).trans Ar153.1) (State.isArrayOf_alike hZ.alike Ar153.2.1) (g := (mkF m 13 #[.val (.ref a), .val (.ref b), .val (.ref r), .val (.int j0), .val (.int (1 : Int32))] [(.ref b), (.int (1 : Int32))])) rfl rfl (Jvm.hb hby d3_13) _ ?_
    exact kt)
  have pre155 : ∀ τ, Steps p.tables e below (T150.setTop (mkF m 14 #[.val (.ref a), .val (.ref b), .val (.ref r), .val (.int j0), .val (.int (1 : Int32))] [(.int (3 : Int32)), (.int (1 : Int32))])) τ → PS τ := by
    have hq := pre154
    rw [len_of S153 M153] at hq
    exact hq
  have pre156 := fun (τ : State) kt => pre155 τ (by
    show Steps p.tables e below (T150.setTop (mkF m 14 #[.val (.ref a), .val (.ref b), .val (.ref r), .val (.int j0), .val (.int (1 : Int32))] [(.int (3 : Int32)), (.int (1 : Int32))])) τ
    refine XS.icmpNo X150.here hx rfl (Jvm.hb hby d3_14) rfl (tlt (by decide)).2.1 ?_
    exact kt)
  obtain ⟨T157, h157, Lj157, j1, X157, e157, N157, K157, j157_0, j157_1, j157_2, j157_3, hj157, pre157⟩ : ∃ (T157 : State) (h157 : Heap) (Lj : List Loc) (j1 : Int32), Stand p l e ({ frames := 0, cells := 1, slots := 3, locals := 0 } : Room) s m #[(.ref a), (.ref b)] below meth c T157 Lj (1) (3) ∧ T157.heap = h157 ∧ Fr n0 Lj ∧ Keep h0 h157 [] ∧ Exa Z h157 a "com/example/counterpath/counterpath/core/Window" ∧ Fld Z h157 a "com/example/counterpath/counterpath/core/Window" "end" "D" (.double en) ∧ Arv Z h157 b kb .double (3 : Int32) [(.double (FP.i2d t0)), (.double (FP.i2d t1)), (.double (FP.i2d t2))] (.double (0 : UInt64)) ∧ Arv Z h157 r k115 .int (3 : Int32) [(.int j0), (.int (0 : Int32)), (.int (0 : Int32))] (.int (0 : Int32)) ∧ (j1 = lx1) ∧ ∀ τ, Steps p.tables e below (T157.setTop (mkF m 53 #[.val (.ref a), .val (.ref b), .val (.ref r), .val (.int j1), .val (.int (1 : Int32))] [])) τ → PS τ := by
    rcases (own_c3 (x := j0) (by rw [hj122]; exact w0.1.1) (by rw [hj122]; exact w0.1.2)) with hc | hc | hc
    · skip
      have pre158 : ∀ τ, Steps p.tables e below (T150.setTop (mkF m 17 #[.val (.ref a), .val (.ref b), .val (.ref r), .val (.int (0 : Int32)), .val (.int (1 : Int32))] [])) τ → PS τ := by have hq := pre156; rw [hc] at hq; exact hq
      obtain ⟨cl159, Ar159, q159, S159, M159, H159, U159⟩ := id f152
      have pre160 := fun (τ : State) kt => pre158 τ (by
        show Steps p.tables e below (T150.setTop (mkF m 17 #[.val (.ref a), .val (.ref b), .val (.ref r), .val (.int (0 : Int32)), .val (.int (1 : Int32))] [])) τ
        refine XS.iloadN X150.here hx rfl (Jvm.hb hby d3_17) rfl ?_
        refine XS.iconst X150.here hx rfl (Jvm.hb hby d3_18) ?_
        refine XS.iadd X150.here hx rfl (Jvm.hb hby d3_19) rfl ?_
        refine XS.aloadN X150.here hx rfl (Jvm.hb hby d3_20) rfl rfl ?_
        refine X150.arraylength hx ((congrArg (fun (HH : Heap) => HH[b]?) (e150 : T150.heap = h150)).trans Ar159.1) (State.isArrayOf_alike hZ.alike Ar159.2.1) (g := (mkF m 21 #[.val (.ref a), .val (.ref b), .val (.ref r), .val (.int (0 : Int32)), .val (.int (1 : Int32))] [(.ref b), (.int (1 : Int32))])) rfl rfl (Jvm.hb hby d3_21) _ ?_
        exact kt)
      have pre161 : ∀ τ, Steps p.tables e below (T150.setTop (mkF m 22 #[.val (.ref a), .val (.ref b), .val (.ref r), .val (.int (0 : Int32)), .val (.int (1 : Int32))] [(.int (3 : Int32)), (.int (1 : Int32))])) τ → PS τ := by
        have hq := pre160
        rw [len_of S159 M159] at hq
        exact hq
      obtain ⟨cl162, Ar162, q162, S162, M162, H162, U162⟩ := id f152
      have in162 : ¬ ((1 : Int32) < 0 ∨ cl162.slots.size ≤ ((1 : Int32)).toNatClampNeg) := inb_of S162 ⟨by decide, by decide⟩
      obtain ⟨cl163, Ar163, q163, S163, M163, H163, U163⟩ := id f152
      have in163 : ¬ ((1 : Int32) < 0 ∨ cl163.slots.size ≤ ((1 : Int32)).toNatClampNeg) := inb_of S163 ⟨by decide, by decide⟩
      have f165 := (j122_1.other W150 (Or.inl ne_a_r))
      obtain ⟨T164, X164, e164, st164⟩ := getF X150 hx hZ hown (host := "") (Or.inl (own_W16 hw)) Via.refl e150 f165 (g := (mkF m 35 #[.val (.ref a), .val (.ref b), .val (.ref r), .val (.int (0 : Int32)), .val (.int (1 : Int32))] [(.ref a), (.double (FP.i2d t1)), (.double (FP.i2d t1))])) rfl rfl (Jvm.hb hby d3_35)
      have pre166 := fun (τ : State) kt => pre161 τ (by
        show Steps p.tables e below (T150.setTop (mkF m 22 #[.val (.ref a), .val (.ref b), .val (.ref r), .val (.int (0 : Int32)), .val (.int (1 : Int32))] [(.int (3 : Int32)), (.int (1 : Int32))])) τ
        refine XS.icmpNo X150.here hx rfl (Jvm.hb hby d3_22) rfl (tlt (by decide)).2.1 ?_
        refine XS.aloadN X150.here hx rfl (Jvm.hb hby d3_25) rfl rfl ?_
        refine XS.iloadN X150.here hx rfl (Jvm.hb hby d3_26) rfl ?_
        refine XS.iconst X150.here hx rfl (Jvm.hb hby d3_27) ?_
        refine XS.iadd X150.here hx rfl (Jvm.hb hby d3_28) rfl ?_
        refine X150.daload hx ((congrArg (fun (HH : Heap) => HH[b]?) (e150 : T150.heap = h150)).trans Ar162.1) (State.isArrayOf_alike hZ.alike Ar162.2.1) Ar162.2.2 in162 (H162.at in162 rfl) (g := (mkF m 29 #[.val (.ref a), .val (.ref b), .val (.ref r), .val (.int (0 : Int32)), .val (.int (1 : Int32))] [(.int (1 : Int32)), (.ref b)])) rfl rfl (Jvm.hb hby d3_29) _ ?_
        refine XS.aloadN X150.here hx rfl (Jvm.hb hby d3_30) rfl rfl ?_
        refine XS.iload X150.here hx rfl (Jvm.hb hby d3_31) rfl ?_
        refine X150.daload hx ((congrArg (fun (HH : Heap) => HH[b]?) (e150 : T150.heap = h150)).trans Ar163.1) (State.isArrayOf_alike hZ.alike Ar163.2.1) Ar163.2.2 in163 (H163.at in163 rfl) (g := (mkF m 33 #[.val (.ref a), .val (.ref b), .val (.ref r), .val (.int (0 : Int32)), .val (.int (1 : Int32))] [(.int (1 : Int32)), (.ref b), (.double (FP.i2d t1))])) rfl rfl (Jvm.hb hby d3_33) _ ?_
        refine XS.aloadN X150.here hx rfl (Jvm.hb hby d3_34) rfl rfl ?_
        exact st164 τ kt)
      have pre167 := fun (τ : State) kt => pre166 τ (by
        show Steps p.tables e below (T164.setTop (mkF m 38 #[.val (.ref a), .val (.ref b), .val (.ref r), .val (.int (0 : Int32)), .val (.int (1 : Int32))] [(.double en), (.double (FP.i2d t1)), (.double (FP.i2d t1))])) τ
        refine own_dadd X164.here hx rfl (Jvm.hb hby d3_38) rfl (w1.2.1.1) ?_
        refine X164.ldc2DoubleC hx hown (mvT hZ (own_W27 hw)) (g := (mkF m 39 #[.val (.ref a), .val (.ref b), .val (.ref r), .val (.int (0 : Int32)), .val (.int (1 : Int32))] [(.double (FP.dadd (FP.i2d t1) en)), (.double (FP.i2d t1))])) rfl (Jvm.hb hby d3_39) _ ?_
        refine own_dadd X164.here hx rfl (Jvm.hb hby d3_42) rfl (w1.2.1.2) ?_
        refine own_dcmp X164.here hx rfl (Jvm.hb hby d3_43) rfl ?_
        exact kt)
      by_cases q1 : (0 : Int32) < (cmpValue (FP.dcmp (FP.i2d t1) (FP.dadd (FP.dadd (FP.i2d t1) en) (4472406533629990549 : UInt64))) .g)
      · skip
        have pre168 := fun (τ : State) kt => pre167 τ (by
          show Steps p.tables e below (T164.setTop (mkF m 44 #[.val (.ref a), .val (.ref b), .val (.ref r), .val (.int (0 : Int32)), .val (.int (1 : Int32))] [(.int (cmpValue (FP.dcmp (FP.i2d t1) (FP.dadd (FP.dadd (FP.i2d t1) en) (4472406533629990549 : UInt64))) .g))])) τ
          refine XS.ifYes X164.here hx rfl (pc0 := 44) (pc' := 53) rfl (Jvm.hb hby d3_44) rfl ((if0 _ _).trans (tlt q1).2.2.1) (by decide) (by decide) ?_
          exact kt)
        have f169 := j122_0.wr W150
        exact ⟨_, _, _, (0 : Int32), X164, e164, N150, K150, f169, f165, f152, V150, own_fin (j := (0 : Int32)) (v := 0) (by decide) (own_lo (by decide) hj122 hc m1) ((w1.2.2.1.1 (by decide)).mp q1), pre168⟩
      · skip
        obtain ⟨cl170, Ar170, q170, S170, M170, H170, U170⟩ := id f152
        have pre171 := fun (τ : State) kt => pre167 τ (by
          show Steps p.tables e below (T164.setTop (mkF m 44 #[.val (.ref a), .val (.ref b), .val (.ref r), .val (.int (0 : Int32)), .val (.int (1 : Int32))] [(.int (cmpValue (FP.dcmp (FP.i2d t1) (FP.dadd (FP.dadd (FP.i2d t1) en) (4472406533629990549 : UInt64))) .g))])) τ
          refine XS.ifNo X164.here hx rfl (Jvm.hb hby d3_44) rfl ((if0 _ _).trans (flt q1).2.2.1) ?_
          refine XS.iinc X164.here hx rfl (Jvm.hb hby d3_47) rfl (l' := #[.val (.ref a), .val (.ref b), .val (.ref r), .val (.int (1 : Int32)), .val (.int (1 : Int32))]) rfl ?_
          refine XS.goto X164.here hx rfl (pc0 := 50) (pc' := 17) rfl (Jvm.hb hby d3_50) (by decide) (by decide) ?_
          refine XS.iloadN X164.here hx rfl (Jvm.hb hby d3_17) rfl ?_
          refine XS.iconst X164.here hx rfl (Jvm.hb hby d3_18) ?_
          refine XS.iadd X164.here hx rfl (Jvm.hb hby d3_19) rfl ?_
          refine XS.aloadN X164.here hx rfl (Jvm.hb hby d3_20) rfl rfl ?_
          refine X164.arraylength hx ((congrArg (fun (HH : Heap) => HH[b]?) (e164 : T164.heap = h150)).trans Ar170.1) (State.isArrayOf_alike hZ.alike Ar170.2.1) (g := (mkF m 21 #[.val (.ref a), .val (.ref b), .val (.ref r), .val (.int (1 : Int32)), .val (.int (1 : Int32))] [(.ref b), (.int (2 : Int32))])) rfl rfl (Jvm.hb hby d3_21) _ ?_
          exact kt)
        have pre172 : ∀ τ, Steps p.tables e below (T164.setTop (mkF m 22 #[.val (.ref a), .val (.ref b), .val (.ref r), .val (.int (1 : Int32)), .val (.int (1 : Int32))] [(.int (3 : Int32)), (.int (2 : Int32))])) τ → PS τ := by
          have hq := pre171
          rw [len_of S170 M170] at hq
          exact hq
        obtain ⟨cl173, Ar173, q173, S173, M173, H173, U173⟩ := id f152
        have in173 : ¬ ((2 : Int32) < 0 ∨ cl173.slots.size ≤ ((2 : Int32)).toNatClampNeg) := inb_of S173 ⟨by decide, by decide⟩
        obtain ⟨cl174, Ar174, q174, S174, M174, H174, U174⟩ := id f152
        have in174 : ¬ ((1 : Int32) < 0 ∨ cl174.slots.size ≤ ((1 : Int32)).toNatClampNeg) := inb_of S174 ⟨by decide, by decide⟩
        obtain ⟨T175, X175, e175, st175⟩ := getF X164 hx hZ hown (host := "") (Or.inl (own_W16 hw)) Via.refl e164 f165 (g := (mkF m 35 #[.val (.ref a), .val (.ref b), .val (.ref r), .val (.int (1 : Int32)), .val (.int (1 : Int32))] [(.ref a), (.double (FP.i2d t1)), (.double (FP.i2d t2))])) rfl rfl (Jvm.hb hby d3_35)
        have pre176 := fun (τ : State) kt => pre172 τ (by
          show Steps p.tables e below (T164.setTop (mkF m 22 #[.val (.ref a), .val (.ref b), .val (.ref r), .val (.int (1 : Int32)), .val (.int (1 : Int32))] [(.int (3 : Int32)), (.int (2 : Int32))])) τ
          refine XS.icmpNo X164.here hx rfl (Jvm.hb hby d3_22) rfl (tlt (by decide)).2.1 ?_
          refine XS.aloadN X164.here hx rfl (Jvm.hb hby d3_25) rfl rfl ?_
          refine XS.iloadN X164.here hx rfl (Jvm.hb hby d3_26) rfl ?_
          refine XS.iconst X164.here hx rfl (Jvm.hb hby d3_27) ?_
          refine XS.iadd X164.here hx rfl (Jvm.hb hby d3_28) rfl ?_
          refine X164.daload hx ((congrArg (fun (HH : Heap) => HH[b]?) (e164 : T164.heap = h150)).trans Ar173.1) (State.isArrayOf_alike hZ.alike Ar173.2.1) Ar173.2.2 in173 (H173.at in173 rfl) (g := (mkF m 29 #[.val (.ref a), .val (.ref b), .val (.ref r), .val (.int (1 : Int32)), .val (.int (1 : Int32))] [(.int (2 : Int32)), (.ref b)])) rfl rfl (Jvm.hb hby d3_29) _ ?_
          refine XS.aloadN X164.here hx rfl (Jvm.hb hby d3_30) rfl rfl ?_
          refine XS.iload X164.here hx rfl (Jvm.hb hby d3_31) rfl ?_
          refine X164.daload hx ((congrArg (fun (HH : Heap) => HH[b]?) (e164 : T164.heap = h150)).trans Ar174.1) (State.isArrayOf_alike hZ.alike Ar174.2.1) Ar174.2.2 in174 (H174.at in174 rfl) (g := (mkF m 33 #[.val (.ref a), .val (.ref b), .val (.ref r), .val (.int (1 : Int32)), .val (.int (1 : Int32))] [(.int (1 : Int32)), (.ref b), (.double (FP.i2d t2))])) rfl rfl (Jvm.hb hby d3_33) _ ?_
          refine XS.aloadN X164.here hx rfl (Jvm.hb hby d3_34) rfl rfl ?_
          exact st175 τ kt)
        have pre177 := fun (τ : State) kt => pre176 τ (by
          show Steps p.tables e below (T175.setTop (mkF m 38 #[.val (.ref a), .val (.ref b), .val (.ref r), .val (.int (1 : Int32)), .val (.int (1 : Int32))] [(.double en), (.double (FP.i2d t1)), (.double (FP.i2d t2))])) τ
          refine own_dadd X175.here hx rfl (Jvm.hb hby d3_38) rfl (w1.2.1.1) ?_
          refine X175.ldc2DoubleC hx hown (mvT hZ (own_W27 hw)) (g := (mkF m 39 #[.val (.ref a), .val (.ref b), .val (.ref r), .val (.int (1 : Int32)), .val (.int (1 : Int32))] [(.double (FP.dadd (FP.i2d t1) en)), (.double (FP.i2d t2))])) rfl (Jvm.hb hby d3_39) _ ?_
          refine own_dadd X175.here hx rfl (Jvm.hb hby d3_42) rfl (w1.2.1.2) ?_
          refine own_dcmp X175.here hx rfl (Jvm.hb hby d3_43) rfl ?_
          exact kt)
        by_cases q2 : (0 : Int32) < (cmpValue (FP.dcmp (FP.i2d t2) (FP.dadd (FP.dadd (FP.i2d t1) en) (4472406533629990549 : UInt64))) .g)
        · skip
          have pre178 := fun (τ : State) kt => pre177 τ (by
            show Steps p.tables e below (T175.setTop (mkF m 44 #[.val (.ref a), .val (.ref b), .val (.ref r), .val (.int (1 : Int32)), .val (.int (1 : Int32))] [(.int (cmpValue (FP.dcmp (FP.i2d t2) (FP.dadd (FP.dadd (FP.i2d t1) en) (4472406533629990549 : UInt64))) .g))])) τ
            refine XS.ifYes X175.here hx rfl (pc0 := 44) (pc' := 53) rfl (Jvm.hb hby d3_44) rfl ((if0 _ _).trans (tlt q2).2.2.1) (by decide) (by decide) ?_
            exact kt)
          have f179 := j122_0.wr W150
          exact ⟨_, _, _, (1 : Int32), X175, e175, N150, K150, f179, f165, f152, V150, own_fin (j := (1 : Int32)) (v := 1) (by decide) (Int.not_lt.mp (fun z => q1 ((w1.2.2.1.1 (by decide)).mpr z))) ((w1.2.2.1.2.1 (by decide)).mp q2), pre178⟩
        · skip
          obtain ⟨cl180, Ar180, q180, S180, M180, H180, U180⟩ := id f152
          have pre181 := fun (τ : State) kt => pre177 τ (by
            show Steps p.tables e below (T175.setTop (mkF m 44 #[.val (.ref a), .val (.ref b), .val (.ref r), .val (.int (1 : Int32)), .val (.int (1 : Int32))] [(.int (cmpValue (FP.dcmp (FP.i2d t2) (FP.dadd (FP.dadd (FP.i2d t1) en) (4472406533629990549 : UInt64))) .g))])) τ
            refine XS.ifNo X175.here hx rfl (Jvm.hb hby d3_44) rfl ((if0 _ _).trans (flt q2).2.2.1) ?_
            refine XS.iinc X175.here hx rfl (Jvm.hb hby d3_47) rfl (l' := #[.val (.ref a), .val (.ref b), .val (.ref r), .val (.int (2 : Int32)), .val (.int (1 : Int32))]) rfl ?_
            refine XS.goto X175.here hx rfl (pc0 := 50) (pc' := 17) rfl (Jvm.hb hby d3_50) (by decide) (by decide) ?_
            refine XS.iloadN X175.here hx rfl (Jvm.hb hby d3_17) rfl ?_
            refine XS.iconst X175.here hx rfl (Jvm.hb hby d3_18) ?_
            refine XS.iadd X175.here hx rfl (Jvm.hb hby d3_19) rfl ?_
            refine XS.aloadN X175.here hx rfl (Jvm.hb hby d3_20) rfl rfl ?_
            refine X175.arraylength hx ((congrArg (fun (HH : Heap) => HH[b]?) (e175 : T175.heap = h150)).trans Ar180.1) (State.isArrayOf_alike hZ.alike Ar180.2.1) (g := (mkF m 21 #[.val (.ref a), .val (.ref b), .val (.ref r), .val (.int (2 : Int32)), .val (.int (1 : Int32))] [(.ref b), (.int (3 : Int32))])) rfl rfl (Jvm.hb hby d3_21) _ ?_
            exact kt)
          have pre182 : ∀ τ, Steps p.tables e below (T175.setTop (mkF m 22 #[.val (.ref a), .val (.ref b), .val (.ref r), .val (.int (2 : Int32)), .val (.int (1 : Int32))] [(.int (3 : Int32)), (.int (3 : Int32))])) τ → PS τ := by
            have hq := pre181
            rw [len_of S180 M180] at hq
            exact hq
          have pre183 := fun (τ : State) kt => pre182 τ (by
            show Steps p.tables e below (T175.setTop (mkF m 22 #[.val (.ref a), .val (.ref b), .val (.ref r), .val (.int (2 : Int32)), .val (.int (1 : Int32))] [(.int (3 : Int32)), (.int (3 : Int32))])) τ
            refine XS.icmpYes X175.here hx rfl (pc0 := 22) (pc' := 53) rfl (Jvm.hb hby d3_22) rfl (flt (by decide)).2.1 (by decide) (by decide) ?_
            exact kt)
          have f184 := j122_0.wr W150
          exact ⟨_, _, _, (2 : Int32), X175, e175, N150, K150, f184, f165, f152, V150, own_fin (j := (2 : Int32)) (v := 2) (by decide) (Int.not_lt.mp (fun z => q2 ((w1.2.2.1.2.1 (by decide)).mpr z))) (by have := w1.1.2; omega), pre183⟩
    · skip
      have pre185 : ∀ τ, Steps p.tables e below (T150.setTop (mkF m 17 #[.val (.ref a), .val (.ref b), .val (.ref r), .val (.int (1 : Int32)), .val (.int (1 : Int32))] [])) τ → PS τ := by have hq := pre156; rw [hc] at hq; exact hq
      obtain ⟨cl186, Ar186, q186, S186, M186, H186, U186⟩ := id f152
      have pre187 := fun (τ : State) kt => pre185 τ (by
        show Steps p.tables e below (T150.setTop (mkF m 17 #[.val (.ref a), .val (.ref b), .val (.ref r), .val (.int (1 : Int32)), .val (.int (1 : Int32))] [])) τ
        refine XS.iloadN X150.here hx rfl (Jvm.hb hby d3_17) rfl ?_
        refine XS.iconst X150.here hx rfl (Jvm.hb hby d3_18) ?_
        refine XS.iadd X150.here hx rfl (Jvm.hb hby d3_19) rfl ?_
        refine XS.aloadN X150.here hx rfl (Jvm.hb hby d3_20) rfl rfl ?_
        refine X150.arraylength hx ((congrArg (fun (HH : Heap) => HH[b]?) (e150 : T150.heap = h150)).trans Ar186.1) (State.isArrayOf_alike hZ.alike Ar186.2.1) (g := (mkF m 21 #[.val (.ref a), .val (.ref b), .val (.ref r), .val (.int (1 : Int32)), .val (.int (1 : Int32))] [(.ref b), (.int (2 : Int32))])) rfl rfl (Jvm.hb hby d3_21) _ ?_
        exact kt)
      have pre188 : ∀ τ, Steps p.tables e below (T150.setTop (mkF m 22 #[.val (.ref a), .val (.ref b), .val (.ref r), .val (.int (1 : Int32)), .val (.int (1 : Int32))] [(.int (3 : Int32)), (.int (2 : Int32))])) τ → PS τ := by
        have hq := pre187
        rw [len_of S186 M186] at hq
        exact hq
      obtain ⟨cl189, Ar189, q189, S189, M189, H189, U189⟩ := id f152
      have in189 : ¬ ((2 : Int32) < 0 ∨ cl189.slots.size ≤ ((2 : Int32)).toNatClampNeg) := inb_of S189 ⟨by decide, by decide⟩
      obtain ⟨cl190, Ar190, q190, S190, M190, H190, U190⟩ := id f152
      have in190 : ¬ ((1 : Int32) < 0 ∨ cl190.slots.size ≤ ((1 : Int32)).toNatClampNeg) := inb_of S190 ⟨by decide, by decide⟩
      have f192 := (j122_1.other W150 (Or.inl ne_a_r))
      obtain ⟨T191, X191, e191, st191⟩ := getF X150 hx hZ hown (host := "") (Or.inl (own_W16 hw)) Via.refl e150 f192 (g := (mkF m 35 #[.val (.ref a), .val (.ref b), .val (.ref r), .val (.int (1 : Int32)), .val (.int (1 : Int32))] [(.ref a), (.double (FP.i2d t1)), (.double (FP.i2d t2))])) rfl rfl (Jvm.hb hby d3_35)
      have pre193 := fun (τ : State) kt => pre188 τ (by
        show Steps p.tables e below (T150.setTop (mkF m 22 #[.val (.ref a), .val (.ref b), .val (.ref r), .val (.int (1 : Int32)), .val (.int (1 : Int32))] [(.int (3 : Int32)), (.int (2 : Int32))])) τ
        refine XS.icmpNo X150.here hx rfl (Jvm.hb hby d3_22) rfl (tlt (by decide)).2.1 ?_
        refine XS.aloadN X150.here hx rfl (Jvm.hb hby d3_25) rfl rfl ?_
        refine XS.iloadN X150.here hx rfl (Jvm.hb hby d3_26) rfl ?_
        refine XS.iconst X150.here hx rfl (Jvm.hb hby d3_27) ?_
        refine XS.iadd X150.here hx rfl (Jvm.hb hby d3_28) rfl ?_
        refine X150.daload hx ((congrArg (fun (HH : Heap) => HH[b]?) (e150 : T150.heap = h150)).trans Ar189.1) (State.isArrayOf_alike hZ.alike Ar189.2.1) Ar189.2.2 in189 (H189.at in189 rfl) (g := (mkF m 29 #[.val (.ref a), .val (.ref b), .val (.ref r), .val (.int (1 : Int32)), .val (.int (1 : Int32))] [(.int (2 : Int32)), (.ref b)])) rfl rfl (Jvm.hb hby d3_29) _ ?_
        refine XS.aloadN X150.here hx rfl (Jvm.hb hby d3_30) rfl rfl ?_
        refine XS.iload X150.here hx rfl (Jvm.hb hby d3_31) rfl ?_
        refine X150.daload hx ((congrArg (fun (HH : Heap) => HH[b]?) (e150 : T150.heap = h150)).trans Ar190.1) (State.isArrayOf_alike hZ.alike Ar190.2.1) Ar190.2.2 in190 (H190.at in190 rfl) (g := (mkF m 33 #[.val (.ref a), .val (.ref b), .val (.ref r), .val (.int (1 : Int32)), .val (.int (1 : Int32))] [(.int (1 : Int32)), (.ref b), (.double (FP.i2d t2))])) rfl rfl (Jvm.hb hby d3_33) _ ?_
        refine XS.aloadN X150.here hx rfl (Jvm.hb hby d3_34) rfl rfl ?_
        exact st191 τ kt)
      have pre194 := fun (τ : State) kt => pre193 τ (by
        show Steps p.tables e below (T191.setTop (mkF m 38 #[.val (.ref a), .val (.ref b), .val (.ref r), .val (.int (1 : Int32)), .val (.int (1 : Int32))] [(.double en), (.double (FP.i2d t1)), (.double (FP.i2d t2))])) τ
        refine own_dadd X191.here hx rfl (Jvm.hb hby d3_38) rfl (w1.2.1.1) ?_
        refine X191.ldc2DoubleC hx hown (mvT hZ (own_W27 hw)) (g := (mkF m 39 #[.val (.ref a), .val (.ref b), .val (.ref r), .val (.int (1 : Int32)), .val (.int (1 : Int32))] [(.double (FP.dadd (FP.i2d t1) en)), (.double (FP.i2d t2))])) rfl (Jvm.hb hby d3_39) _ ?_
        refine own_dadd X191.here hx rfl (Jvm.hb hby d3_42) rfl (w1.2.1.2) ?_
        refine own_dcmp X191.here hx rfl (Jvm.hb hby d3_43) rfl ?_
        exact kt)
      by_cases q2 : (0 : Int32) < (cmpValue (FP.dcmp (FP.i2d t2) (FP.dadd (FP.dadd (FP.i2d t1) en) (4472406533629990549 : UInt64))) .g)
      · skip
        have pre195 := fun (τ : State) kt => pre194 τ (by
          show Steps p.tables e below (T191.setTop (mkF m 44 #[.val (.ref a), .val (.ref b), .val (.ref r), .val (.int (1 : Int32)), .val (.int (1 : Int32))] [(.int (cmpValue (FP.dcmp (FP.i2d t2) (FP.dadd (FP.dadd (FP.i2d t1) en) (4472406533629990549 : UInt64))) .g))])) τ
          refine XS.ifYes X191.here hx rfl (pc0 := 44) (pc' := 53) rfl (Jvm.hb hby d3_44) rfl ((if0 _ _).trans (tlt q2).2.2.1) (by decide) (by decide) ?_
          exact kt)
        have f196 := j122_0.wr W150
        exact ⟨_, _, _, (1 : Int32), X191, e191, N150, K150, f196, f192, f152, V150, own_fin (j := (1 : Int32)) (v := 1) (by decide) (own_lo (by decide) hj122 hc m1) ((w1.2.2.1.2.1 (by decide)).mp q2), pre195⟩
      · skip
        obtain ⟨cl197, Ar197, q197, S197, M197, H197, U197⟩ := id f152
        have pre198 := fun (τ : State) kt => pre194 τ (by
          show Steps p.tables e below (T191.setTop (mkF m 44 #[.val (.ref a), .val (.ref b), .val (.ref r), .val (.int (1 : Int32)), .val (.int (1 : Int32))] [(.int (cmpValue (FP.dcmp (FP.i2d t2) (FP.dadd (FP.dadd (FP.i2d t1) en) (4472406533629990549 : UInt64))) .g))])) τ
          refine XS.ifNo X191.here hx rfl (Jvm.hb hby d3_44) rfl ((if0 _ _).trans (flt q2).2.2.1) ?_
          refine XS.iinc X191.here hx rfl (Jvm.hb hby d3_47) rfl (l' := #[.val (.ref a), .val (.ref b), .val (.ref r), .val (.int (2 : Int32)), .val (.int (1 : Int32))]) rfl ?_
          refine XS.goto X191.here hx rfl (pc0 := 50) (pc' := 17) rfl (Jvm.hb hby d3_50) (by decide) (by decide) ?_
          refine XS.iloadN X191.here hx rfl (Jvm.hb hby d3_17) rfl ?_
          refine XS.iconst X191.here hx rfl (Jvm.hb hby d3_18) ?_
          refine XS.iadd X191.here hx rfl (Jvm.hb hby d3_19) rfl ?_
          refine XS.aloadN X191.here hx rfl (Jvm.hb hby d3_20) rfl rfl ?_
          refine X191.arraylength hx ((congrArg (fun (HH : Heap) => HH[b]?) (e191 : T191.heap = h150)).trans Ar197.1) (State.isArrayOf_alike hZ.alike Ar197.2.1) (g := (mkF m 21 #[.val (.ref a), .val (.ref b), .val (.ref r), .val (.int (2 : Int32)), .val (.int (1 : Int32))] [(.ref b), (.int (3 : Int32))])) rfl rfl (Jvm.hb hby d3_21) _ ?_
          exact kt)
        have pre199 : ∀ τ, Steps p.tables e below (T191.setTop (mkF m 22 #[.val (.ref a), .val (.ref b), .val (.ref r), .val (.int (2 : Int32)), .val (.int (1 : Int32))] [(.int (3 : Int32)), (.int (3 : Int32))])) τ → PS τ := by
          have hq := pre198
          rw [len_of S197 M197] at hq
          exact hq
        have pre200 := fun (τ : State) kt => pre199 τ (by
          show Steps p.tables e below (T191.setTop (mkF m 22 #[.val (.ref a), .val (.ref b), .val (.ref r), .val (.int (2 : Int32)), .val (.int (1 : Int32))] [(.int (3 : Int32)), (.int (3 : Int32))])) τ
          refine XS.icmpYes X191.here hx rfl (pc0 := 22) (pc' := 53) rfl (Jvm.hb hby d3_22) rfl (flt (by decide)).2.1 (by decide) (by decide) ?_
          exact kt)
        have f201 := j122_0.wr W150
        exact ⟨_, _, _, (2 : Int32), X191, e191, N150, K150, f201, f192, f152, V150, own_fin (j := (2 : Int32)) (v := 2) (by decide) (Int.not_lt.mp (fun z => q2 ((w1.2.2.1.2.1 (by decide)).mpr z))) (by have := w1.1.2; omega), pre200⟩
    · skip
      have pre202 : ∀ τ, Steps p.tables e below (T150.setTop (mkF m 17 #[.val (.ref a), .val (.ref b), .val (.ref r), .val (.int (2 : Int32)), .val (.int (1 : Int32))] [])) τ → PS τ := by have hq := pre156; rw [hc] at hq; exact hq
      obtain ⟨cl203, Ar203, q203, S203, M203, H203, U203⟩ := id f152
      have pre204 := fun (τ : State) kt => pre202 τ (by
        show Steps p.tables e below (T150.setTop (mkF m 17 #[.val (.ref a), .val (.ref b), .val (.ref r), .val (.int (2 : Int32)), .val (.int (1 : Int32))] [])) τ
        refine XS.iloadN X150.here hx rfl (Jvm.hb hby d3_17) rfl ?_
        refine XS.iconst X150.here hx rfl (Jvm.hb hby d3_18) ?_
        refine XS.iadd X150.here hx rfl (Jvm.hb hby d3_19) rfl ?_
        refine XS.aloadN X150.here hx rfl (Jvm.hb hby d3_20) rfl rfl ?_
        refine X150.arraylength hx ((congrArg (fun (HH : Heap) => HH[b]?) (e150 : T150.heap = h150)).trans Ar203.1) (State.isArrayOf_alike hZ.alike Ar203.2.1) (g := (mkF m 21 #[.val (.ref a), .val (.ref b), .val (.ref r), .val (.int (2 : Int32)), .val (.int (1 : Int32))] [(.ref b), (.int (3 : Int32))])) rfl rfl (Jvm.hb hby d3_21) _ ?_
        exact kt)
      have pre205 : ∀ τ, Steps p.tables e below (T150.setTop (mkF m 22 #[.val (.ref a), .val (.ref b), .val (.ref r), .val (.int (2 : Int32)), .val (.int (1 : Int32))] [(.int (3 : Int32)), (.int (3 : Int32))])) τ → PS τ := by
        have hq := pre204
        rw [len_of S203 M203] at hq
        exact hq
      have pre206 := fun (τ : State) kt => pre205 τ (by
        show Steps p.tables e below (T150.setTop (mkF m 22 #[.val (.ref a), .val (.ref b), .val (.ref r), .val (.int (2 : Int32)), .val (.int (1 : Int32))] [(.int (3 : Int32)), (.int (3 : Int32))])) τ
        refine XS.icmpYes X150.here hx rfl (pc0 := 22) (pc' := 53) rfl (Jvm.hb hby d3_22) rfl (flt (by decide)).2.1 (by decide) (by decide) ?_
        exact kt)
      have f207 := j122_0.wr W150
      have f208 := (j122_1.other W150 (Or.inl ne_a_r))
      exact ⟨_, _, _, (2 : Int32), X150, e150, N150, K150, f207, f208, f152, V150, own_fin (j := (2 : Int32)) (v := 2) (by decide) (own_lo (by decide) hj122 hc m1) (by have := w1.1.2; omega), pre206⟩
  obtain ⟨cl209, Ar209, q209, S209, M209, H209, U209⟩ := id j157_3
  obtain ⟨T210, h210, X210, e210, W210, st210⟩ := stI X157 hx hZ e157 Ar209 (j := (1 : Int32)) (inb_of S209 ⟨by decide, by decide⟩) (g := (mkF m 57 #[.val (.ref a), .val (.ref b), .val (.ref r), .val (.int j1), .val (.int (1 : Int32))] [(.int j1), (.int (1 : Int32)), (.ref r)])) rfl rfl (Jvm.hb hby d3_57)
  have V210 : Arv Z h210 r k115 .int (3 : Int32) [(.int j0), (.int j1), (.int (0 : Int32))] (.int (0 : Int32)) := Arv.set Ar209 q209 S209 M209 H209 U209 rfl W210 1 rfl (Nat.le_of_ble_eq_true rfl)
  have N210 := Fr.snoc X210 N157 g_r
  have K210 : Keep h0 h210 [] := K157.wr W210 (Or.inr sz_r)
  have pre211 := fun (τ : State) kt => pre157 τ (by
    show Steps p.tables e below (T157.setTop (mkF m 53 #[.val (.ref a), .val (.ref b), .val (.ref r), .val (.int j1), .val (.int (1 : Int32))] [])) τ
    refine XS.aloadN X157.here hx rfl (Jvm.hb hby d3_53) rfl rfl ?_
    refine XS.iload X157.here hx rfl (Jvm.hb hby d3_54) rfl ?_
    refine XS.iloadN X157.here hx rfl (Jvm.hb hby d3_56) rfl ?_
    exact st210 τ kt)
  have f212 := j157_2.other W210 ne_b_r
  obtain ⟨cl213, Ar213, q213, S213, M213, H213, U213⟩ := id f212
  have pre214 := fun (τ : State) kt => pre211 τ (by
    show Steps p.tables e below (T210.setTop (mkF m 58 #[.val (.ref a), .val (.ref b), .val (.ref r), .val (.int j1), .val (.int (1 : Int32))] [])) τ
    refine XS.iinc X210.here hx rfl (Jvm.hb hby d3_58) rfl (l' := #[.val (.ref a), .val (.ref b), .val (.ref r), .val (.int j1), .val (.int (2 : Int32))]) rfl ?_
    refine XS.goto X210.here hx rfl (pc0 := 61) (pc' := 10) rfl (Jvm.hb hby d3_61) (by decide) (by decide) ?_
    refine XS.iload X210.here hx rfl (Jvm.hb hby d3_10) rfl ?_
    refine XS.aloadN X210.here hx rfl (Jvm.hb hby d3_12) rfl rfl ?_
    refine X210.arraylength hx ((congrArg (fun (HH : Heap) => HH[b]?) (e210 : T210.heap = h210)).trans Ar213.1) (State.isArrayOf_alike hZ.alike Ar213.2.1) (g := (mkF m 13 #[.val (.ref a), .val (.ref b), .val (.ref r), .val (.int j1), .val (.int (2 : Int32))] [(.ref b), (.int (2 : Int32))])) rfl rfl (Jvm.hb hby d3_13) _ ?_
    exact kt)
  have pre215 : ∀ τ, Steps p.tables e below (T210.setTop (mkF m 14 #[.val (.ref a), .val (.ref b), .val (.ref r), .val (.int j1), .val (.int (2 : Int32))] [(.int (3 : Int32)), (.int (2 : Int32))])) τ → PS τ := by
    have hq := pre214
    rw [len_of S213 M213] at hq
    exact hq
  have pre216 := fun (τ : State) kt => pre215 τ (by
    show Steps p.tables e below (T210.setTop (mkF m 14 #[.val (.ref a), .val (.ref b), .val (.ref r), .val (.int j1), .val (.int (2 : Int32))] [(.int (3 : Int32)), (.int (2 : Int32))])) τ
    refine XS.icmpNo X210.here hx rfl (Jvm.hb hby d3_14) rfl (tlt (by decide)).2.1 ?_
    exact kt)
  obtain ⟨T217, h217, Lj217, j2, X217, e217, N217, K217, j217_0, j217_1, j217_2, j217_3, hj217, pre217⟩ : ∃ (T217 : State) (h217 : Heap) (Lj : List Loc) (j2 : Int32), Stand p l e ({ frames := 0, cells := 1, slots := 3, locals := 0 } : Room) s m #[(.ref a), (.ref b)] below meth c T217 Lj (1) (3) ∧ T217.heap = h217 ∧ Fr n0 Lj ∧ Keep h0 h217 [] ∧ Exa Z h217 a "com/example/counterpath/counterpath/core/Window" ∧ Fld Z h217 a "com/example/counterpath/counterpath/core/Window" "end" "D" (.double en) ∧ Arv Z h217 b kb .double (3 : Int32) [(.double (FP.i2d t0)), (.double (FP.i2d t1)), (.double (FP.i2d t2))] (.double (0 : UInt64)) ∧ Arv Z h217 r k115 .int (3 : Int32) [(.int j0), (.int j1), (.int (0 : Int32))] (.int (0 : Int32)) ∧ (j2 = lx2) ∧ ∀ τ, Steps p.tables e below (T217.setTop (mkF m 53 #[.val (.ref a), .val (.ref b), .val (.ref r), .val (.int j2), .val (.int (2 : Int32))] [])) τ → PS τ := by
    rcases (own_c3 (x := j1) (by rw [hj157]; exact w1.1.1) (by rw [hj157]; exact w1.1.2)) with hc | hc | hc
    · skip
      have pre218 : ∀ τ, Steps p.tables e below (T210.setTop (mkF m 17 #[.val (.ref a), .val (.ref b), .val (.ref r), .val (.int (0 : Int32)), .val (.int (2 : Int32))] [])) τ → PS τ := by have hq := pre216; rw [hc] at hq; exact hq
      obtain ⟨cl219, Ar219, q219, S219, M219, H219, U219⟩ := id f212
      have pre220 := fun (τ : State) kt => pre218 τ (by
        show Steps p.tables e below (T210.setTop (mkF m 17 #[.val (.ref a), .val (.ref b), .val (.ref r), .val (.int (0 : Int32)), .val (.int (2 : Int32))] [])) τ
        refine XS.iloadN X210.here hx rfl (Jvm.hb hby d3_17) rfl ?_
        refine XS.iconst X210.here hx rfl (Jvm.hb hby d3_18) ?_
        refine XS.iadd X210.here hx rfl (Jvm.hb hby d3_19) rfl ?_
        refine XS.aloadN X210.here hx rfl (Jvm.hb hby d3_20) rfl rfl ?_
        refine X210.arraylength hx ((congrArg (fun (HH : Heap) => HH[b]?) (e210 : T210.heap = h210)).trans Ar219.1) (State.isArrayOf_alike hZ.alike Ar219.2.1) (g := (mkF m 21 #[.val (.ref a), .val (.ref b), .val (.ref r), .val (.int (0 : Int32)), .val (.int (2 : Int32))] [(.ref b), (.int (1 : Int32))])) rfl rfl (Jvm.hb hby d3_21) _ ?_
        exact kt)
      have pre221 : ∀ τ, Steps p.tables e below (T210.setTop (mkF m 22 #[.val (.ref a), .val (.ref b), .val (.ref r), .val (.int (0 : Int32)), .val (.int (2 : Int32))] [(.int (3 : Int32)), (.int (1 : Int32))])) τ → PS τ := by
        have hq := pre220
        rw [len_of S219 M219] at hq
        exact hq
      obtain ⟨cl222, Ar222, q222, S222, M222, H222, U222⟩ := id f212
      have in222 : ¬ ((1 : Int32) < 0 ∨ cl222.slots.size ≤ ((1 : Int32)).toNatClampNeg) := inb_of S222 ⟨by decide, by decide⟩
      obtain ⟨cl223, Ar223, q223, S223, M223, H223, U223⟩ := id f212
      have in223 : ¬ ((2 : Int32) < 0 ∨ cl223.slots.size ≤ ((2 : Int32)).toNatClampNeg) := inb_of S223 ⟨by decide, by decide⟩
      have f225 := (j157_1.other W210 (Or.inl ne_a_r))
      obtain ⟨T224, X224, e224, st224⟩ := getF X210 hx hZ hown (host := "") (Or.inl (own_W16 hw)) Via.refl e210 f225 (g := (mkF m 35 #[.val (.ref a), .val (.ref b), .val (.ref r), .val (.int (0 : Int32)), .val (.int (2 : Int32))] [(.ref a), (.double (FP.i2d t2)), (.double (FP.i2d t1))])) rfl rfl (Jvm.hb hby d3_35)
      have pre226 := fun (τ : State) kt => pre221 τ (by
        show Steps p.tables e below (T210.setTop (mkF m 22 #[.val (.ref a), .val (.ref b), .val (.ref r), .val (.int (0 : Int32)), .val (.int (2 : Int32))] [(.int (3 : Int32)), (.int (1 : Int32))])) τ
        refine XS.icmpNo X210.here hx rfl (Jvm.hb hby d3_22) rfl (tlt (by decide)).2.1 ?_
        refine XS.aloadN X210.here hx rfl (Jvm.hb hby d3_25) rfl rfl ?_
        refine XS.iloadN X210.here hx rfl (Jvm.hb hby d3_26) rfl ?_
        refine XS.iconst X210.here hx rfl (Jvm.hb hby d3_27) ?_
        refine XS.iadd X210.here hx rfl (Jvm.hb hby d3_28) rfl ?_
        refine X210.daload hx ((congrArg (fun (HH : Heap) => HH[b]?) (e210 : T210.heap = h210)).trans Ar222.1) (State.isArrayOf_alike hZ.alike Ar222.2.1) Ar222.2.2 in222 (H222.at in222 rfl) (g := (mkF m 29 #[.val (.ref a), .val (.ref b), .val (.ref r), .val (.int (0 : Int32)), .val (.int (2 : Int32))] [(.int (1 : Int32)), (.ref b)])) rfl rfl (Jvm.hb hby d3_29) _ ?_
        refine XS.aloadN X210.here hx rfl (Jvm.hb hby d3_30) rfl rfl ?_
        refine XS.iload X210.here hx rfl (Jvm.hb hby d3_31) rfl ?_
        refine X210.daload hx ((congrArg (fun (HH : Heap) => HH[b]?) (e210 : T210.heap = h210)).trans Ar223.1) (State.isArrayOf_alike hZ.alike Ar223.2.1) Ar223.2.2 in223 (H223.at in223 rfl) (g := (mkF m 33 #[.val (.ref a), .val (.ref b), .val (.ref r), .val (.int (0 : Int32)), .val (.int (2 : Int32))] [(.int (2 : Int32)), (.ref b), (.double (FP.i2d t1))])) rfl rfl (Jvm.hb hby d3_33) _ ?_
        refine XS.aloadN X210.here hx rfl (Jvm.hb hby d3_34) rfl rfl ?_
        exact st224 τ kt)
      have pre227 := fun (τ : State) kt => pre226 τ (by
        show Steps p.tables e below (T224.setTop (mkF m 38 #[.val (.ref a), .val (.ref b), .val (.ref r), .val (.int (0 : Int32)), .val (.int (2 : Int32))] [(.double en), (.double (FP.i2d t2)), (.double (FP.i2d t1))])) τ
        refine own_dadd X224.here hx rfl (Jvm.hb hby d3_38) rfl (w2.2.1.1) ?_
        refine X224.ldc2DoubleC hx hown (mvT hZ (own_W27 hw)) (g := (mkF m 39 #[.val (.ref a), .val (.ref b), .val (.ref r), .val (.int (0 : Int32)), .val (.int (2 : Int32))] [(.double (FP.dadd (FP.i2d t2) en)), (.double (FP.i2d t1))])) rfl (Jvm.hb hby d3_39) _ ?_
        refine own_dadd X224.here hx rfl (Jvm.hb hby d3_42) rfl (w2.2.1.2) ?_
        refine own_dcmp X224.here hx rfl (Jvm.hb hby d3_43) rfl ?_
        exact kt)
      by_cases q1 : (0 : Int32) < (cmpValue (FP.dcmp (FP.i2d t1) (FP.dadd (FP.dadd (FP.i2d t2) en) (4472406533629990549 : UInt64))) .g)
      · skip
        have pre228 := fun (τ : State) kt => pre227 τ (by
          show Steps p.tables e below (T224.setTop (mkF m 44 #[.val (.ref a), .val (.ref b), .val (.ref r), .val (.int (0 : Int32)), .val (.int (2 : Int32))] [(.int (cmpValue (FP.dcmp (FP.i2d t1) (FP.dadd (FP.dadd (FP.i2d t2) en) (4472406533629990549 : UInt64))) .g))])) τ
          refine XS.ifYes X224.here hx rfl (pc0 := 44) (pc' := 53) rfl (Jvm.hb hby d3_44) rfl ((if0 _ _).trans (tlt q1).2.2.1) (by decide) (by decide) ?_
          exact kt)
        have f229 := j157_0.wr W210
        exact ⟨_, _, _, (0 : Int32), X224, e224, N210, K210, f229, f225, f212, V210, own_fin (j := (0 : Int32)) (v := 0) (by decide) (own_lo (by decide) hj157 hc m2) ((w2.2.2.1.1 (by decide)).mp q1), pre228⟩
      · skip
        obtain ⟨cl230, Ar230, q230, S230, M230, H230, U230⟩ := id f212
        have pre231 := fun (τ : State) kt => pre227 τ (by
          show Steps p.tables e below (T224.setTop (mkF m 44 #[.val (.ref a), .val (.ref b), .val (.ref r), .val (.int (0 : Int32)), .val (.int (2 : Int32))] [(.int (cmpValue (FP.dcmp (FP.i2d t1) (FP.dadd (FP.dadd (FP.i2d t2) en) (4472406533629990549 : UInt64))) .g))])) τ
          refine XS.ifNo X224.here hx rfl (Jvm.hb hby d3_44) rfl ((if0 _ _).trans (flt q1).2.2.1) ?_
          refine XS.iinc X224.here hx rfl (Jvm.hb hby d3_47) rfl (l' := #[.val (.ref a), .val (.ref b), .val (.ref r), .val (.int (1 : Int32)), .val (.int (2 : Int32))]) rfl ?_
          refine XS.goto X224.here hx rfl (pc0 := 50) (pc' := 17) rfl (Jvm.hb hby d3_50) (by decide) (by decide) ?_
          refine XS.iloadN X224.here hx rfl (Jvm.hb hby d3_17) rfl ?_
          refine XS.iconst X224.here hx rfl (Jvm.hb hby d3_18) ?_
          refine XS.iadd X224.here hx rfl (Jvm.hb hby d3_19) rfl ?_
          refine XS.aloadN X224.here hx rfl (Jvm.hb hby d3_20) rfl rfl ?_
          refine X224.arraylength hx ((congrArg (fun (HH : Heap) => HH[b]?) (e224 : T224.heap = h210)).trans Ar230.1) (State.isArrayOf_alike hZ.alike Ar230.2.1) (g := (mkF m 21 #[.val (.ref a), .val (.ref b), .val (.ref r), .val (.int (1 : Int32)), .val (.int (2 : Int32))] [(.ref b), (.int (2 : Int32))])) rfl rfl (Jvm.hb hby d3_21) _ ?_
          exact kt)
        have pre232 : ∀ τ, Steps p.tables e below (T224.setTop (mkF m 22 #[.val (.ref a), .val (.ref b), .val (.ref r), .val (.int (1 : Int32)), .val (.int (2 : Int32))] [(.int (3 : Int32)), (.int (2 : Int32))])) τ → PS τ := by
          have hq := pre231
          rw [len_of S230 M230] at hq
          exact hq
        obtain ⟨cl233, Ar233, q233, S233, M233, H233, U233⟩ := id f212
        have in233 : ¬ ((2 : Int32) < 0 ∨ cl233.slots.size ≤ ((2 : Int32)).toNatClampNeg) := inb_of S233 ⟨by decide, by decide⟩
        obtain ⟨cl234, Ar234, q234, S234, M234, H234, U234⟩ := id f212
        have in234 : ¬ ((2 : Int32) < 0 ∨ cl234.slots.size ≤ ((2 : Int32)).toNatClampNeg) := inb_of S234 ⟨by decide, by decide⟩
        obtain ⟨T235, X235, e235, st235⟩ := getF X224 hx hZ hown (host := "") (Or.inl (own_W16 hw)) Via.refl e224 f225 (g := (mkF m 35 #[.val (.ref a), .val (.ref b), .val (.ref r), .val (.int (1 : Int32)), .val (.int (2 : Int32))] [(.ref a), (.double (FP.i2d t2)), (.double (FP.i2d t2))])) rfl rfl (Jvm.hb hby d3_35)
        have pre236 := fun (τ : State) kt => pre232 τ (by
          show Steps p.tables e below (T224.setTop (mkF m 22 #[.val (.ref a), .val (.ref b), .val (.ref r), .val (.int (1 : Int32)), .val (.int (2 : Int32))] [(.int (3 : Int32)), (.int (2 : Int32))])) τ
          refine XS.icmpNo X224.here hx rfl (Jvm.hb hby d3_22) rfl (tlt (by decide)).2.1 ?_
          refine XS.aloadN X224.here hx rfl (Jvm.hb hby d3_25) rfl rfl ?_
          refine XS.iloadN X224.here hx rfl (Jvm.hb hby d3_26) rfl ?_
          refine XS.iconst X224.here hx rfl (Jvm.hb hby d3_27) ?_
          refine XS.iadd X224.here hx rfl (Jvm.hb hby d3_28) rfl ?_
          refine X224.daload hx ((congrArg (fun (HH : Heap) => HH[b]?) (e224 : T224.heap = h210)).trans Ar233.1) (State.isArrayOf_alike hZ.alike Ar233.2.1) Ar233.2.2 in233 (H233.at in233 rfl) (g := (mkF m 29 #[.val (.ref a), .val (.ref b), .val (.ref r), .val (.int (1 : Int32)), .val (.int (2 : Int32))] [(.int (2 : Int32)), (.ref b)])) rfl rfl (Jvm.hb hby d3_29) _ ?_
          refine XS.aloadN X224.here hx rfl (Jvm.hb hby d3_30) rfl rfl ?_
          refine XS.iload X224.here hx rfl (Jvm.hb hby d3_31) rfl ?_
          refine X224.daload hx ((congrArg (fun (HH : Heap) => HH[b]?) (e224 : T224.heap = h210)).trans Ar234.1) (State.isArrayOf_alike hZ.alike Ar234.2.1) Ar234.2.2 in234 (H234.at in234 rfl) (g := (mkF m 33 #[.val (.ref a), .val (.ref b), .val (.ref r), .val (.int (1 : Int32)), .val (.int (2 : Int32))] [(.int (2 : Int32)), (.ref b), (.double (FP.i2d t2))])) rfl rfl (Jvm.hb hby d3_33) _ ?_
          refine XS.aloadN X224.here hx rfl (Jvm.hb hby d3_34) rfl rfl ?_
          exact st235 τ kt)
        have pre237 := fun (τ : State) kt => pre236 τ (by
          show Steps p.tables e below (T235.setTop (mkF m 38 #[.val (.ref a), .val (.ref b), .val (.ref r), .val (.int (1 : Int32)), .val (.int (2 : Int32))] [(.double en), (.double (FP.i2d t2)), (.double (FP.i2d t2))])) τ
          refine own_dadd X235.here hx rfl (Jvm.hb hby d3_38) rfl (w2.2.1.1) ?_
          refine X235.ldc2DoubleC hx hown (mvT hZ (own_W27 hw)) (g := (mkF m 39 #[.val (.ref a), .val (.ref b), .val (.ref r), .val (.int (1 : Int32)), .val (.int (2 : Int32))] [(.double (FP.dadd (FP.i2d t2) en)), (.double (FP.i2d t2))])) rfl (Jvm.hb hby d3_39) _ ?_
          refine own_dadd X235.here hx rfl (Jvm.hb hby d3_42) rfl (w2.2.1.2) ?_
          refine own_dcmp X235.here hx rfl (Jvm.hb hby d3_43) rfl ?_
          exact kt)
        by_cases q2 : (0 : Int32) < (cmpValue (FP.dcmp (FP.i2d t2) (FP.dadd (FP.dadd (FP.i2d t2) en) (4472406533629990549 : UInt64))) .g)
        · skip
          have pre238 := fun (τ : State) kt => pre237 τ (by
            show Steps p.tables e below (T235.setTop (mkF m 44 #[.val (.ref a), .val (.ref b), .val (.ref r), .val (.int (1 : Int32)), .val (.int (2 : Int32))] [(.int (cmpValue (FP.dcmp (FP.i2d t2) (FP.dadd (FP.dadd (FP.i2d t2) en) (4472406533629990549 : UInt64))) .g))])) τ
            refine XS.ifYes X235.here hx rfl (pc0 := 44) (pc' := 53) rfl (Jvm.hb hby d3_44) rfl ((if0 _ _).trans (tlt q2).2.2.1) (by decide) (by decide) ?_
            exact kt)
          have f239 := j157_0.wr W210
          exact ⟨_, _, _, (1 : Int32), X235, e235, N210, K210, f239, f225, f212, V210, own_fin (j := (1 : Int32)) (v := 1) (by decide) (Int.not_lt.mp (fun z => q1 ((w2.2.2.1.1 (by decide)).mpr z))) ((w2.2.2.1.2.1 (by decide)).mp q2), pre238⟩
        · skip
          obtain ⟨cl240, Ar240, q240, S240, M240, H240, U240⟩ := id f212
          have pre241 := fun (τ : State) kt => pre237 τ (by
            show Steps p.tables e below (T235.setTop (mkF m 44 #[.val (.ref a), .val (.ref b), .val (.ref r), .val (.int (1 : Int32)), .val (.int (2 : Int32))] [(.int (cmpValue (FP.dcmp (FP.i2d t2) (FP.dadd (FP.dadd (FP.i2d t2) en) (4472406533629990549 : UInt64))) .g))])) τ
            refine XS.ifNo X235.here hx rfl (Jvm.hb hby d3_44) rfl ((if0 _ _).trans (flt q2).2.2.1) ?_
            refine XS.iinc X235.here hx rfl (Jvm.hb hby d3_47) rfl (l' := #[.val (.ref a), .val (.ref b), .val (.ref r), .val (.int (2 : Int32)), .val (.int (2 : Int32))]) rfl ?_
            refine XS.goto X235.here hx rfl (pc0 := 50) (pc' := 17) rfl (Jvm.hb hby d3_50) (by decide) (by decide) ?_
            refine XS.iloadN X235.here hx rfl (Jvm.hb hby d3_17) rfl ?_
            refine XS.iconst X235.here hx rfl (Jvm.hb hby d3_18) ?_
            refine XS.iadd X235.here hx rfl (Jvm.hb hby d3_19) rfl ?_
            refine XS.aloadN X235.here hx rfl (Jvm.hb hby d3_20) rfl rfl ?_
            refine X235.arraylength hx ((congrArg (fun (HH : Heap) => HH[b]?) (e235 : T235.heap = h210)).trans Ar240.1) (State.isArrayOf_alike hZ.alike Ar240.2.1) (g := (mkF m 21 #[.val (.ref a), .val (.ref b), .val (.ref r), .val (.int (2 : Int32)), .val (.int (2 : Int32))] [(.ref b), (.int (3 : Int32))])) rfl rfl (Jvm.hb hby d3_21) _ ?_
            exact kt)
          have pre242 : ∀ τ, Steps p.tables e below (T235.setTop (mkF m 22 #[.val (.ref a), .val (.ref b), .val (.ref r), .val (.int (2 : Int32)), .val (.int (2 : Int32))] [(.int (3 : Int32)), (.int (3 : Int32))])) τ → PS τ := by
            have hq := pre241
            rw [len_of S240 M240] at hq
            exact hq
          have pre243 := fun (τ : State) kt => pre242 τ (by
            show Steps p.tables e below (T235.setTop (mkF m 22 #[.val (.ref a), .val (.ref b), .val (.ref r), .val (.int (2 : Int32)), .val (.int (2 : Int32))] [(.int (3 : Int32)), (.int (3 : Int32))])) τ
            refine XS.icmpYes X235.here hx rfl (pc0 := 22) (pc' := 53) rfl (Jvm.hb hby d3_22) rfl (flt (by decide)).2.1 (by decide) (by decide) ?_
            exact kt)
          have f244 := j157_0.wr W210
          exact ⟨_, _, _, (2 : Int32), X235, e235, N210, K210, f244, f225, f212, V210, own_fin (j := (2 : Int32)) (v := 2) (by decide) (Int.not_lt.mp (fun z => q2 ((w2.2.2.1.2.1 (by decide)).mpr z))) (by have := w2.1.2; omega), pre243⟩
    · skip
      have pre245 : ∀ τ, Steps p.tables e below (T210.setTop (mkF m 17 #[.val (.ref a), .val (.ref b), .val (.ref r), .val (.int (1 : Int32)), .val (.int (2 : Int32))] [])) τ → PS τ := by have hq := pre216; rw [hc] at hq; exact hq
      obtain ⟨cl246, Ar246, q246, S246, M246, H246, U246⟩ := id f212
      have pre247 := fun (τ : State) kt => pre245 τ (by
        show Steps p.tables e below (T210.setTop (mkF m 17 #[.val (.ref a), .val (.ref b), .val (.ref r), .val (.int (1 : Int32)), .val (.int (2 : Int32))] [])) τ
        refine XS.iloadN X210.here hx rfl (Jvm.hb hby d3_17) rfl ?_
        refine XS.iconst X210.here hx rfl (Jvm.hb hby d3_18) ?_
        refine XS.iadd X210.here hx rfl (Jvm.hb hby d3_19) rfl ?_
        refine XS.aloadN X210.here hx rfl (Jvm.hb hby d3_20) rfl rfl ?_
        refine X210.arraylength hx ((congrArg (fun (HH : Heap) => HH[b]?) (e210 : T210.heap = h210)).trans Ar246.1) (State.isArrayOf_alike hZ.alike Ar246.2.1) (g := (mkF m 21 #[.val (.ref a), .val (.ref b), .val (.ref r), .val (.int (1 : Int32)), .val (.int (2 : Int32))] [(.ref b), (.int (2 : Int32))])) rfl rfl (Jvm.hb hby d3_21) _ ?_
        exact kt)
      have pre248 : ∀ τ, Steps p.tables e below (T210.setTop (mkF m 22 #[.val (.ref a), .val (.ref b), .val (.ref r), .val (.int (1 : Int32)), .val (.int (2 : Int32))] [(.int (3 : Int32)), (.int (2 : Int32))])) τ → PS τ := by
        have hq := pre247
        rw [len_of S246 M246] at hq
        exact hq
      obtain ⟨cl249, Ar249, q249, S249, M249, H249, U249⟩ := id f212
      have in249 : ¬ ((2 : Int32) < 0 ∨ cl249.slots.size ≤ ((2 : Int32)).toNatClampNeg) := inb_of S249 ⟨by decide, by decide⟩
      obtain ⟨cl250, Ar250, q250, S250, M250, H250, U250⟩ := id f212
      have in250 : ¬ ((2 : Int32) < 0 ∨ cl250.slots.size ≤ ((2 : Int32)).toNatClampNeg) := inb_of S250 ⟨by decide, by decide⟩
      have f252 := (j157_1.other W210 (Or.inl ne_a_r))
      obtain ⟨T251, X251, e251, st251⟩ := getF X210 hx hZ hown (host := "") (Or.inl (own_W16 hw)) Via.refl e210 f252 (g := (mkF m 35 #[.val (.ref a), .val (.ref b), .val (.ref r), .val (.int (1 : Int32)), .val (.int (2 : Int32))] [(.ref a), (.double (FP.i2d t2)), (.double (FP.i2d t2))])) rfl rfl (Jvm.hb hby d3_35)
      have pre253 := fun (τ : State) kt => pre248 τ (by
        show Steps p.tables e below (T210.setTop (mkF m 22 #[.val (.ref a), .val (.ref b), .val (.ref r), .val (.int (1 : Int32)), .val (.int (2 : Int32))] [(.int (3 : Int32)), (.int (2 : Int32))])) τ
        refine XS.icmpNo X210.here hx rfl (Jvm.hb hby d3_22) rfl (tlt (by decide)).2.1 ?_
        refine XS.aloadN X210.here hx rfl (Jvm.hb hby d3_25) rfl rfl ?_
        refine XS.iloadN X210.here hx rfl (Jvm.hb hby d3_26) rfl ?_
        refine XS.iconst X210.here hx rfl (Jvm.hb hby d3_27) ?_
        refine XS.iadd X210.here hx rfl (Jvm.hb hby d3_28) rfl ?_
        refine X210.daload hx ((congrArg (fun (HH : Heap) => HH[b]?) (e210 : T210.heap = h210)).trans Ar249.1) (State.isArrayOf_alike hZ.alike Ar249.2.1) Ar249.2.2 in249 (H249.at in249 rfl) (g := (mkF m 29 #[.val (.ref a), .val (.ref b), .val (.ref r), .val (.int (1 : Int32)), .val (.int (2 : Int32))] [(.int (2 : Int32)), (.ref b)])) rfl rfl (Jvm.hb hby d3_29) _ ?_
        refine XS.aloadN X210.here hx rfl (Jvm.hb hby d3_30) rfl rfl ?_
        refine XS.iload X210.here hx rfl (Jvm.hb hby d3_31) rfl ?_
        refine X210.daload hx ((congrArg (fun (HH : Heap) => HH[b]?) (e210 : T210.heap = h210)).trans Ar250.1) (State.isArrayOf_alike hZ.alike Ar250.2.1) Ar250.2.2 in250 (H250.at in250 rfl) (g := (mkF m 33 #[.val (.ref a), .val (.ref b), .val (.ref r), .val (.int (1 : Int32)), .val (.int (2 : Int32))] [(.int (2 : Int32)), (.ref b), (.double (FP.i2d t2))])) rfl rfl (Jvm.hb hby d3_33) _ ?_
        refine XS.aloadN X210.here hx rfl (Jvm.hb hby d3_34) rfl rfl ?_
        exact st251 τ kt)
      have pre254 := fun (τ : State) kt => pre253 τ (by
        show Steps p.tables e below (T251.setTop (mkF m 38 #[.val (.ref a), .val (.ref b), .val (.ref r), .val (.int (1 : Int32)), .val (.int (2 : Int32))] [(.double en), (.double (FP.i2d t2)), (.double (FP.i2d t2))])) τ
        refine own_dadd X251.here hx rfl (Jvm.hb hby d3_38) rfl (w2.2.1.1) ?_
        refine X251.ldc2DoubleC hx hown (mvT hZ (own_W27 hw)) (g := (mkF m 39 #[.val (.ref a), .val (.ref b), .val (.ref r), .val (.int (1 : Int32)), .val (.int (2 : Int32))] [(.double (FP.dadd (FP.i2d t2) en)), (.double (FP.i2d t2))])) rfl (Jvm.hb hby d3_39) _ ?_
        refine own_dadd X251.here hx rfl (Jvm.hb hby d3_42) rfl (w2.2.1.2) ?_
        refine own_dcmp X251.here hx rfl (Jvm.hb hby d3_43) rfl ?_
        exact kt)
      by_cases q2 : (0 : Int32) < (cmpValue (FP.dcmp (FP.i2d t2) (FP.dadd (FP.dadd (FP.i2d t2) en) (4472406533629990549 : UInt64))) .g)
      · skip
        have pre255 := fun (τ : State) kt => pre254 τ (by
          show Steps p.tables e below (T251.setTop (mkF m 44 #[.val (.ref a), .val (.ref b), .val (.ref r), .val (.int (1 : Int32)), .val (.int (2 : Int32))] [(.int (cmpValue (FP.dcmp (FP.i2d t2) (FP.dadd (FP.dadd (FP.i2d t2) en) (4472406533629990549 : UInt64))) .g))])) τ
          refine XS.ifYes X251.here hx rfl (pc0 := 44) (pc' := 53) rfl (Jvm.hb hby d3_44) rfl ((if0 _ _).trans (tlt q2).2.2.1) (by decide) (by decide) ?_
          exact kt)
        have f256 := j157_0.wr W210
        exact ⟨_, _, _, (1 : Int32), X251, e251, N210, K210, f256, f252, f212, V210, own_fin (j := (1 : Int32)) (v := 1) (by decide) (own_lo (by decide) hj157 hc m2) ((w2.2.2.1.2.1 (by decide)).mp q2), pre255⟩
      · skip
        obtain ⟨cl257, Ar257, q257, S257, M257, H257, U257⟩ := id f212
        have pre258 := fun (τ : State) kt => pre254 τ (by
          show Steps p.tables e below (T251.setTop (mkF m 44 #[.val (.ref a), .val (.ref b), .val (.ref r), .val (.int (1 : Int32)), .val (.int (2 : Int32))] [(.int (cmpValue (FP.dcmp (FP.i2d t2) (FP.dadd (FP.dadd (FP.i2d t2) en) (4472406533629990549 : UInt64))) .g))])) τ
          refine XS.ifNo X251.here hx rfl (Jvm.hb hby d3_44) rfl ((if0 _ _).trans (flt q2).2.2.1) ?_
          refine XS.iinc X251.here hx rfl (Jvm.hb hby d3_47) rfl (l' := #[.val (.ref a), .val (.ref b), .val (.ref r), .val (.int (2 : Int32)), .val (.int (2 : Int32))]) rfl ?_
          refine XS.goto X251.here hx rfl (pc0 := 50) (pc' := 17) rfl (Jvm.hb hby d3_50) (by decide) (by decide) ?_
          refine XS.iloadN X251.here hx rfl (Jvm.hb hby d3_17) rfl ?_
          refine XS.iconst X251.here hx rfl (Jvm.hb hby d3_18) ?_
          refine XS.iadd X251.here hx rfl (Jvm.hb hby d3_19) rfl ?_
          refine XS.aloadN X251.here hx rfl (Jvm.hb hby d3_20) rfl rfl ?_
          refine X251.arraylength hx ((congrArg (fun (HH : Heap) => HH[b]?) (e251 : T251.heap = h210)).trans Ar257.1) (State.isArrayOf_alike hZ.alike Ar257.2.1) (g := (mkF m 21 #[.val (.ref a), .val (.ref b), .val (.ref r), .val (.int (2 : Int32)), .val (.int (2 : Int32))] [(.ref b), (.int (3 : Int32))])) rfl rfl (Jvm.hb hby d3_21) _ ?_
          exact kt)
        have pre259 : ∀ τ, Steps p.tables e below (T251.setTop (mkF m 22 #[.val (.ref a), .val (.ref b), .val (.ref r), .val (.int (2 : Int32)), .val (.int (2 : Int32))] [(.int (3 : Int32)), (.int (3 : Int32))])) τ → PS τ := by
          have hq := pre258
          rw [len_of S257 M257] at hq
          exact hq
        have pre260 := fun (τ : State) kt => pre259 τ (by
          show Steps p.tables e below (T251.setTop (mkF m 22 #[.val (.ref a), .val (.ref b), .val (.ref r), .val (.int (2 : Int32)), .val (.int (2 : Int32))] [(.int (3 : Int32)), (.int (3 : Int32))])) τ
          refine XS.icmpYes X251.here hx rfl (pc0 := 22) (pc' := 53) rfl (Jvm.hb hby d3_22) rfl (flt (by decide)).2.1 (by decide) (by decide) ?_
          exact kt)
        have f261 := j157_0.wr W210
        exact ⟨_, _, _, (2 : Int32), X251, e251, N210, K210, f261, f252, f212, V210, own_fin (j := (2 : Int32)) (v := 2) (by decide) (Int.not_lt.mp (fun z => q2 ((w2.2.2.1.2.1 (by decide)).mpr z))) (by have := w2.1.2; omega), pre260⟩
    · skip
      have pre262 : ∀ τ, Steps p.tables e below (T210.setTop (mkF m 17 #[.val (.ref a), .val (.ref b), .val (.ref r), .val (.int (2 : Int32)), .val (.int (2 : Int32))] [])) τ → PS τ := by have hq := pre216; rw [hc] at hq; exact hq
      obtain ⟨cl263, Ar263, q263, S263, M263, H263, U263⟩ := id f212
      have pre264 := fun (τ : State) kt => pre262 τ (by
        show Steps p.tables e below (T210.setTop (mkF m 17 #[.val (.ref a), .val (.ref b), .val (.ref r), .val (.int (2 : Int32)), .val (.int (2 : Int32))] [])) τ
        refine XS.iloadN X210.here hx rfl (Jvm.hb hby d3_17) rfl ?_
        refine XS.iconst X210.here hx rfl (Jvm.hb hby d3_18) ?_
        refine XS.iadd X210.here hx rfl (Jvm.hb hby d3_19) rfl ?_
        refine XS.aloadN X210.here hx rfl (Jvm.hb hby d3_20) rfl rfl ?_
        refine X210.arraylength hx ((congrArg (fun (HH : Heap) => HH[b]?) (e210 : T210.heap = h210)).trans Ar263.1) (State.isArrayOf_alike hZ.alike Ar263.2.1) (g := (mkF m 21 #[.val (.ref a), .val (.ref b), .val (.ref r), .val (.int (2 : Int32)), .val (.int (2 : Int32))] [(.ref b), (.int (3 : Int32))])) rfl rfl (Jvm.hb hby d3_21) _ ?_
        exact kt)
      have pre265 : ∀ τ, Steps p.tables e below (T210.setTop (mkF m 22 #[.val (.ref a), .val (.ref b), .val (.ref r), .val (.int (2 : Int32)), .val (.int (2 : Int32))] [(.int (3 : Int32)), (.int (3 : Int32))])) τ → PS τ := by
        have hq := pre264
        rw [len_of S263 M263] at hq
        exact hq
      have pre266 := fun (τ : State) kt => pre265 τ (by
        show Steps p.tables e below (T210.setTop (mkF m 22 #[.val (.ref a), .val (.ref b), .val (.ref r), .val (.int (2 : Int32)), .val (.int (2 : Int32))] [(.int (3 : Int32)), (.int (3 : Int32))])) τ
        refine XS.icmpYes X210.here hx rfl (pc0 := 22) (pc' := 53) rfl (Jvm.hb hby d3_22) rfl (flt (by decide)).2.1 (by decide) (by decide) ?_
        exact kt)
      have f267 := j157_0.wr W210
      have f268 := (j157_1.other W210 (Or.inl ne_a_r))
      exact ⟨_, _, _, (2 : Int32), X210, e210, N210, K210, f267, f268, f212, V210, own_fin (j := (2 : Int32)) (v := 2) (by decide) (own_lo (by decide) hj157 hc m2) (by have := w2.1.2; omega), pre266⟩
  obtain ⟨cl269, Ar269, q269, S269, M269, H269, U269⟩ := id j217_3
  obtain ⟨T270, h270, X270, e270, W270, st270⟩ := stI X217 hx hZ e217 Ar269 (j := (2 : Int32)) (inb_of S269 ⟨by decide, by decide⟩) (g := (mkF m 57 #[.val (.ref a), .val (.ref b), .val (.ref r), .val (.int j2), .val (.int (2 : Int32))] [(.int j2), (.int (2 : Int32)), (.ref r)])) rfl rfl (Jvm.hb hby d3_57)
  have V270 : Arv Z h270 r k115 .int (3 : Int32) [(.int j0), (.int j1), (.int j2)] (.int (0 : Int32)) := Arv.set Ar269 q269 S269 M269 H269 U269 rfl W270 2 rfl (Nat.le_of_ble_eq_true rfl)
  have N270 := Fr.snoc X270 N217 g_r
  have K270 : Keep h0 h270 [] := K217.wr W270 (Or.inr sz_r)
  have pre271 := fun (τ : State) kt => pre217 τ (by
    show Steps p.tables e below (T217.setTop (mkF m 53 #[.val (.ref a), .val (.ref b), .val (.ref r), .val (.int j2), .val (.int (2 : Int32))] [])) τ
    refine XS.aloadN X217.here hx rfl (Jvm.hb hby d3_53) rfl rfl ?_
    refine XS.iload X217.here hx rfl (Jvm.hb hby d3_54) rfl ?_
    refine XS.iloadN X217.here hx rfl (Jvm.hb hby d3_56) rfl ?_
    exact st270 τ kt)
  have f272 := j217_2.other W270 ne_b_r
  obtain ⟨cl273, Ar273, q273, S273, M273, H273, U273⟩ := id f272
  have pre274 := fun (τ : State) kt => pre271 τ (by
    show Steps p.tables e below (T270.setTop (mkF m 58 #[.val (.ref a), .val (.ref b), .val (.ref r), .val (.int j2), .val (.int (2 : Int32))] [])) τ
    refine XS.iinc X270.here hx rfl (Jvm.hb hby d3_58) rfl (l' := #[.val (.ref a), .val (.ref b), .val (.ref r), .val (.int j2), .val (.int (3 : Int32))]) rfl ?_
    refine XS.goto X270.here hx rfl (pc0 := 61) (pc' := 10) rfl (Jvm.hb hby d3_61) (by decide) (by decide) ?_
    refine XS.iload X270.here hx rfl (Jvm.hb hby d3_10) rfl ?_
    refine XS.aloadN X270.here hx rfl (Jvm.hb hby d3_12) rfl rfl ?_
    refine X270.arraylength hx ((congrArg (fun (HH : Heap) => HH[b]?) (e270 : T270.heap = h270)).trans Ar273.1) (State.isArrayOf_alike hZ.alike Ar273.2.1) (g := (mkF m 13 #[.val (.ref a), .val (.ref b), .val (.ref r), .val (.int j2), .val (.int (3 : Int32))] [(.ref b), (.int (3 : Int32))])) rfl rfl (Jvm.hb hby d3_13) _ ?_
    exact kt)
  have pre275 : ∀ τ, Steps p.tables e below (T270.setTop (mkF m 14 #[.val (.ref a), .val (.ref b), .val (.ref r), .val (.int j2), .val (.int (3 : Int32))] [(.int (3 : Int32)), (.int (3 : Int32))])) τ → PS τ := by
    have hq := pre274
    rw [len_of S273 M273] at hq
    exact hq
  have hres : Arv Z h270 r k115 .int (3 : Int32) [(.int lx0), (.int lx1), (.int lx2)] (.int (0 : Int32)) := by
    rw [← hj122, ← hj157, ← hj217]
    exact V270
  have pre276 := fun (τ : State) kt => pre275 τ (by
    show Steps p.tables e below (T270.setTop (mkF m 14 #[.val (.ref a), .val (.ref b), .val (.ref r), .val (.int j2), .val (.int (3 : Int32))] [(.int (3 : Int32)), (.int (3 : Int32))])) τ
    refine XS.icmpYes X270.here hx rfl (pc0 := 14) (pc' := 64) rfl (Jvm.hb hby d3_14) rfl (flt (by decide)).2.1 (by decide) (by decide) ?_
    refine XS.aloadN X270.here hx rfl (Jvm.hb hby d3_64) rfl rfl ?_
    exact kt)
  obtain ⟨fs, hrL, hrun, hended, hW, hsame⟩ := X270.leave (v := some (.ref r)) (fun h => by rw [Bd.returns] at h; cases h)
  refine ⟨_, _, cast (congrFun hPS _) (pre276 _ ?_), hrun, hended, _, _, rfl, ?_, ⟨_, rfl⟩, hW, hsame.mono (by decide) (by decide)⟩
  · show Steps p.tables e below (T270.setTop (mkF m 65 #[.val (.ref a), .val (.ref b), .val (.ref r), .val (.int j2), .val (.int (3 : Int32))] [(.ref r)])) _
    exact retOut X270 hx Bd.returns rfl (Or.inr (Or.inr (Or.inr (Or.inr ⟨rfl, rfl, rfl⟩)))) (Jvm.hb hby d3_65) hrL
  · show QL3 Z lx0 lx1 lx2 h0 n0 _ T270.heap _
    rw [e270]
    exact ⟨r, _, rfl, N270, K270, g_r, sz_r, hres⟩
def QL4 (Z : State) (lx0 lx1 lx2 lx3 : Int32) (h0 : Heap) (n0 : Nat) (v : Option Value) (h : Heap) (L : List Loc) : Prop := ∃ (r : Addr) (kr : ClassId), v = some (.ref r) ∧ Fr n0 L ∧ Keep h0 h [] ∧ n0 ≤ r ∧ h0.size ≤ r ∧ Arv Z h r kr .int (4 : Int32) [(.int lx0), (.int lx1), (.int lx2), (.int lx3)] (.int (0 : Int32))
set_option maxRecDepth 65536 in
set_option maxHeartbeats 40000000 in
theorem rmL4 (l : Launch) (Z : State) (a0 : Array Value) (hw : ∀ d ∈ tables_1, d.before a0 Z = true) (ws : List Jvm.Cond) (a : Addr) (b : Addr) (kb : ClassId) (iv t0 t1 t2 t3 ev lx0 lx1 lx2 lx3 : Int32) (en : UInt64) (h0 : Heap) (n0 : Nat) (Z0 : n0 ≤ h0.size) (E7 : Exa Z h0 a "com/example/counterpath/counterpath/core/Window") (F2 : Fld Z h0 a "com/example/counterpath/counterpath/core/Window" "end" "D" (.double en)) (VB : Arv Z h0 b kb .double (4 : Int32) [(.double (FP.i2d t0)), (.double (FP.i2d t1)), (.double (FP.i2d t2)), (.double (FP.i2d t3))] (.double (0 : UInt64))) (w0 : own_row 4 iv t1 t2 t3 t0 ev en lx0) (w1 : own_row 4 iv t1 t2 t3 t1 ev en lx1) (w2 : own_row 4 iv t1 t2 t3 t2 ev en lx2) (w3 : own_row 4 iv t1 t2 t3 t3 ev en lx3) (m1 : lx0.toInt ≤ lx1.toInt) (m2 : lx1.toInt ≤ lx2.toInt) (m3 : lx2.toInt ≤ lx3.toInt) :
    MetFree l (⟨"com/example/counterpath/counterpath/core/Window", "lasts", "([D)[I"⟩ : MethodName) (head1 (Jvm.Cond.code (⟨"com/example/counterpath/counterpath/core/Window", "lasts", "([D)[I"⟩ : MethodName) prog_33_method_3_code 5 (some (.array .int)) :: ws) ({ frames := 0, cells := 1, slots := 4, locals := 0 } : Room)) (fun α U => α = #[(.ref a), (.ref b)] ∧ Z.Warmed39 U.vm ∧ U.heap = h0) (fun _ _ _ _ _ => True) (fun _ U ω U' => ∃ ν Λ, ω = .returned ν ∧ QL4 Z lx0 lx1 lx2 lx3 h0 n0 ν U'.heap Λ ∧ FrameEnd U ω U' Λ ({ frames := 0, cells := 1, slots := 4, locals := 0 } : Room).cells ({ frames := 0, cells := 1, slots := 4, locals := 0 } : Room).slots) := by
  refine MetFree.of_bodySF (plainFor_of_name own_pn_com_example_counterpath_counterpath_core_Window) hisR ?_
  intro p e s m args below meth c s₁ Bd hml0 hP hK
  obtain ⟨rfl, hZ, hh⟩ := hP
  have hx := Bd.exec
  have hby := Bd.bytes
  have hml : c.maxLocals = 5 := hml0
  have hown : s.vm.findClass "com/example/counterpath/counterpath/core/Window" = some m.cls := findClass_of_methodNamed Bd.named
  have hnm := (name_of_methodNamed Bd.named Bd.method).1
  have X0 : Stand p l e ({ frames := 0, cells := 1, slots := 4, locals := 0 } : Room) s m #[(.ref a), (.ref b)] below meth c s₁ [] 0 0 := Stand.of_body Bd
  have e0 : s₁.heap = h0 := by rw [← hh, Bd.state]; rfl
  have N0 := Fr.nil n0
  have KK0 : Keep h0 h0 [] := Keep.refl h0 []
  obtain ⟨PS, hPS⟩ : ∃ P : State → Prop, P = fun τ => Steps p.tables e below (s₁.setTop (entryFrame m #[(.ref a), (.ref b)] 5)) τ := ⟨_, rfl⟩
  have pre0 : ∀ τ, Steps p.tables e below (s₁.setTop (mkF m 0 #[.val (.ref a), .val (.ref b), .unset, .unset, .unset] [])) τ → PS τ := by rw [hPS]; exact fun τ κ => castTop (own_ef3 m a b) κ
  obtain ⟨cl277, Ar277, q277, S277, M277, H277, U277⟩ := id VB
  have pre278 := fun (τ : State) kt => pre0 τ (by
    show Steps p.tables e below (s₁.setTop (mkF m 0 #[.val (.ref a), .val (.ref b), .unset, .unset, .unset] [])) τ
    refine XS.aloadN X0.here hx rfl (Jvm.hb hby d3_0) rfl rfl ?_
    refine X0.arraylength hx ((congrArg (fun (HH : Heap) => HH[b]?) (e0 : s₁.heap = h0)).trans Ar277.1) (State.isArrayOf_alike hZ.alike Ar277.2.1) (g := (mkF m 1 #[.val (.ref a), .val (.ref b), .unset, .unset, .unset] [(.ref b)])) rfl rfl (Jvm.hb hby d3_1) _ ?_
    exact kt)
  have pre279 : ∀ τ, Steps p.tables e below (s₁.setTop (mkF m 2 #[.val (.ref a), .val (.ref b), .unset, .unset, .unset] [(.int (4 : Int32))])) τ → PS τ := by
    have hq := pre278
    rw [len_of S277 M277] at hq
    exact hq
  obtain ⟨T280, h280, k280, X280, e280, E280, A280, st280⟩ := newP (aty := .int) X0 hx hZ (own_W3 hw) e0 (g := (mkF m 2 #[.val (.ref a), .val (.ref b), .unset, .unset, .unset] [(.int (4 : Int32))])) rfl (Jvm.hb hby d3_2) rfl (by decide) (cap := 4) (by decide) (by decide) (by decide) (by decide)
  obtain ⟨r, g280⟩ : ∃ z, z = h0.size := ⟨_, rfl⟩
  rw [← g280] at A280 st280
  have ne_a_r : a ≠ r := Nat.ne_of_lt (Nat.lt_of_lt_of_le E7.lt (Nat.le_of_eq g280.symm))
  have ne_b_r : b ≠ r := Nat.ne_of_lt (Nat.lt_of_lt_of_le VB.lt (Nat.le_of_eq g280.symm))
  have g_r : n0 ≤ r := Nat.le_trans (Nat.le_trans Z0 KK0.1) (Nat.le_of_eq g280.symm)
  have sz_r : h0.size ≤ r := Nat.le_trans KK0.1 (Nat.le_of_eq g280.symm)
  have K280 : Keep h0 h280 [] := KK0.ext E280
  have V_r : Arv Z h280 r k280 .int (4 : Int32) [(.int (0 : Int32)), (.int (0 : Int32)), (.int (0 : Int32)), (.int (0 : Int32))] (.int (0 : Int32)) := (Arv.new A280 (by decide)).pad (pad_rep [] (.int (0 : Int32)) 4)
  have pre281 := fun (τ : State) kt => pre279 τ (st280 τ kt)
  have f282 := VB.ext E280
  obtain ⟨cl283, Ar283, q283, S283, M283, H283, U283⟩ := id f282
  have pre284 := fun (τ : State) kt => pre281 τ (by
    show Steps p.tables e below (T280.setTop (mkF m 4 #[.val (.ref a), .val (.ref b), .unset, .unset, .unset] [(.ref r)])) τ
    refine XS.astoreN X280.here hx rfl (Jvm.hb hby d3_4) rfl rfl (l' := #[.val (.ref a), .val (.ref b), .val (.ref r), .unset, .unset]) rfl ?_
    refine XS.iconst X280.here hx rfl (Jvm.hb hby d3_5) ?_
    refine XS.istoreN X280.here hx rfl (Jvm.hb hby d3_6) rfl (l' := #[.val (.ref a), .val (.ref b), .val (.ref r), .val (.int (0 : Int32)), .unset]) rfl ?_
    refine XS.iconst X280.here hx rfl (Jvm.hb hby d3_7) ?_
    refine XS.istore X280.here hx rfl (Jvm.hb hby d3_8) rfl (l' := #[.val (.ref a), .val (.ref b), .val (.ref r), .val (.int (0 : Int32)), .val (.int (0 : Int32))]) rfl ?_
    refine XS.iload X280.here hx rfl (Jvm.hb hby d3_10) rfl ?_
    refine XS.aloadN X280.here hx rfl (Jvm.hb hby d3_12) rfl rfl ?_
    refine X280.arraylength hx ((congrArg (fun (HH : Heap) => HH[b]?) (e280 : T280.heap = h280)).trans Ar283.1) (State.isArrayOf_alike hZ.alike Ar283.2.1) (g := (mkF m 13 #[.val (.ref a), .val (.ref b), .val (.ref r), .val (.int (0 : Int32)), .val (.int (0 : Int32))] [(.ref b), (.int (0 : Int32))])) rfl rfl (Jvm.hb hby d3_13) _ ?_
    exact kt)
  have pre285 : ∀ τ, Steps p.tables e below (T280.setTop (mkF m 14 #[.val (.ref a), .val (.ref b), .val (.ref r), .val (.int (0 : Int32)), .val (.int (0 : Int32))] [(.int (4 : Int32)), (.int (0 : Int32))])) τ → PS τ := by
    have hq := pre284
    rw [len_of S283 M283] at hq
    exact hq
  have pre286 := fun (τ : State) kt => pre285 τ (by
    show Steps p.tables e below (T280.setTop (mkF m 14 #[.val (.ref a), .val (.ref b), .val (.ref r), .val (.int (0 : Int32)), .val (.int (0 : Int32))] [(.int (4 : Int32)), (.int (0 : Int32))])) τ
    refine XS.icmpNo X280.here hx rfl (Jvm.hb hby d3_14) rfl (tlt (by decide)).2.1 ?_
    exact kt)
  obtain ⟨T287, h287, Lj287, j0, X287, e287, N287, K287, j287_0, j287_1, j287_2, j287_3, hj287, pre287⟩ : ∃ (T287 : State) (h287 : Heap) (Lj : List Loc) (j0 : Int32), Stand p l e ({ frames := 0, cells := 1, slots := 4, locals := 0 } : Room) s m #[(.ref a), (.ref b)] below meth c T287 Lj (1) (4) ∧ T287.heap = h287 ∧ Fr n0 Lj ∧ Keep h0 h287 [] ∧ Exa Z h287 a "com/example/counterpath/counterpath/core/Window" ∧ Fld Z h287 a "com/example/counterpath/counterpath/core/Window" "end" "D" (.double en) ∧ Arv Z h287 b kb .double (4 : Int32) [(.double (FP.i2d t0)), (.double (FP.i2d t1)), (.double (FP.i2d t2)), (.double (FP.i2d t3))] (.double (0 : UInt64)) ∧ Arv Z h287 r k280 .int (4 : Int32) [(.int (0 : Int32)), (.int (0 : Int32)), (.int (0 : Int32)), (.int (0 : Int32))] (.int (0 : Int32)) ∧ (j0 = lx0) ∧ ∀ τ, Steps p.tables e below (T287.setTop (mkF m 53 #[.val (.ref a), .val (.ref b), .val (.ref r), .val (.int j0), .val (.int (0 : Int32))] [])) τ → PS τ := by
    obtain ⟨cl288, Ar288, q288, S288, M288, H288, U288⟩ := id f282
    have pre289 := fun (τ : State) kt => pre286 τ (by
      show Steps p.tables e below (T280.setTop (mkF m 17 #[.val (.ref a), .val (.ref b), .val (.ref r), .val (.int (0 : Int32)), .val (.int (0 : Int32))] [])) τ
      refine XS.iloadN X280.here hx rfl (Jvm.hb hby d3_17) rfl ?_
      refine XS.iconst X280.here hx rfl (Jvm.hb hby d3_18) ?_
      refine XS.iadd X280.here hx rfl (Jvm.hb hby d3_19) rfl ?_
      refine XS.aloadN X280.here hx rfl (Jvm.hb hby d3_20) rfl rfl ?_
      refine X280.arraylength hx ((congrArg (fun (HH : Heap) => HH[b]?) (e280 : T280.heap = h280)).trans Ar288.1) (State.isArrayOf_alike hZ.alike Ar288.2.1) (g := (mkF m 21 #[.val (.ref a), .val (.ref b), .val (.ref r), .val (.int (0 : Int32)), .val (.int (0 : Int32))] [(.ref b), (.int (1 : Int32))])) rfl rfl (Jvm.hb hby d3_21) _ ?_
      exact kt)
    have pre290 : ∀ τ, Steps p.tables e below (T280.setTop (mkF m 22 #[.val (.ref a), .val (.ref b), .val (.ref r), .val (.int (0 : Int32)), .val (.int (0 : Int32))] [(.int (4 : Int32)), (.int (1 : Int32))])) τ → PS τ := by
      have hq := pre289
      rw [len_of S288 M288] at hq
      exact hq
    obtain ⟨cl291, Ar291, q291, S291, M291, H291, U291⟩ := id f282
    have in291 : ¬ ((1 : Int32) < 0 ∨ cl291.slots.size ≤ ((1 : Int32)).toNatClampNeg) := inb_of S291 ⟨by decide, by decide⟩
    obtain ⟨cl292, Ar292, q292, S292, M292, H292, U292⟩ := id f282
    have in292 : ¬ ((0 : Int32) < 0 ∨ cl292.slots.size ≤ ((0 : Int32)).toNatClampNeg) := inb_of S292 ⟨by decide, by decide⟩
    have f294 := F2.ext E280
    obtain ⟨T293, X293, e293, st293⟩ := getF X280 hx hZ hown (host := "") (Or.inl (own_W16 hw)) Via.refl e280 f294 (g := (mkF m 35 #[.val (.ref a), .val (.ref b), .val (.ref r), .val (.int (0 : Int32)), .val (.int (0 : Int32))] [(.ref a), (.double (FP.i2d t0)), (.double (FP.i2d t1))])) rfl rfl (Jvm.hb hby d3_35)
    have pre295 := fun (τ : State) kt => pre290 τ (by
      show Steps p.tables e below (T280.setTop (mkF m 22 #[.val (.ref a), .val (.ref b), .val (.ref r), .val (.int (0 : Int32)), .val (.int (0 : Int32))] [(.int (4 : Int32)), (.int (1 : Int32))])) τ
      refine XS.icmpNo X280.here hx rfl (Jvm.hb hby d3_22) rfl (tlt (by decide)).2.1 ?_
      refine XS.aloadN X280.here hx rfl (Jvm.hb hby d3_25) rfl rfl ?_
      refine XS.iloadN X280.here hx rfl (Jvm.hb hby d3_26) rfl ?_
      refine XS.iconst X280.here hx rfl (Jvm.hb hby d3_27) ?_
      refine XS.iadd X280.here hx rfl (Jvm.hb hby d3_28) rfl ?_
      refine X280.daload hx ((congrArg (fun (HH : Heap) => HH[b]?) (e280 : T280.heap = h280)).trans Ar291.1) (State.isArrayOf_alike hZ.alike Ar291.2.1) Ar291.2.2 in291 (H291.at in291 rfl) (g := (mkF m 29 #[.val (.ref a), .val (.ref b), .val (.ref r), .val (.int (0 : Int32)), .val (.int (0 : Int32))] [(.int (1 : Int32)), (.ref b)])) rfl rfl (Jvm.hb hby d3_29) _ ?_
      refine XS.aloadN X280.here hx rfl (Jvm.hb hby d3_30) rfl rfl ?_
      refine XS.iload X280.here hx rfl (Jvm.hb hby d3_31) rfl ?_
      refine X280.daload hx ((congrArg (fun (HH : Heap) => HH[b]?) (e280 : T280.heap = h280)).trans Ar292.1) (State.isArrayOf_alike hZ.alike Ar292.2.1) Ar292.2.2 in292 (H292.at in292 rfl) (g := (mkF m 33 #[.val (.ref a), .val (.ref b), .val (.ref r), .val (.int (0 : Int32)), .val (.int (0 : Int32))] [(.int (0 : Int32)), (.ref b), (.double (FP.i2d t1))])) rfl rfl (Jvm.hb hby d3_33) _ ?_
      refine XS.aloadN X280.here hx rfl (Jvm.hb hby d3_34) rfl rfl ?_
      exact st293 τ kt)
    have pre296 := fun (τ : State) kt => pre295 τ (by
      show Steps p.tables e below (T293.setTop (mkF m 38 #[.val (.ref a), .val (.ref b), .val (.ref r), .val (.int (0 : Int32)), .val (.int (0 : Int32))] [(.double en), (.double (FP.i2d t0)), (.double (FP.i2d t1))])) τ
      refine own_dadd X293.here hx rfl (Jvm.hb hby d3_38) rfl (w0.2.1.1) ?_
      refine X293.ldc2DoubleC hx hown (mvT hZ (own_W27 hw)) (g := (mkF m 39 #[.val (.ref a), .val (.ref b), .val (.ref r), .val (.int (0 : Int32)), .val (.int (0 : Int32))] [(.double (FP.dadd (FP.i2d t0) en)), (.double (FP.i2d t1))])) rfl (Jvm.hb hby d3_39) _ ?_
      refine own_dadd X293.here hx rfl (Jvm.hb hby d3_42) rfl (w0.2.1.2) ?_
      refine own_dcmp X293.here hx rfl (Jvm.hb hby d3_43) rfl ?_
      exact kt)
    by_cases q1 : (0 : Int32) < (cmpValue (FP.dcmp (FP.i2d t1) (FP.dadd (FP.dadd (FP.i2d t0) en) (4472406533629990549 : UInt64))) .g)
    · skip
      have pre297 := fun (τ : State) kt => pre296 τ (by
        show Steps p.tables e below (T293.setTop (mkF m 44 #[.val (.ref a), .val (.ref b), .val (.ref r), .val (.int (0 : Int32)), .val (.int (0 : Int32))] [(.int (cmpValue (FP.dcmp (FP.i2d t1) (FP.dadd (FP.dadd (FP.i2d t0) en) (4472406533629990549 : UInt64))) .g))])) τ
        refine XS.ifYes X293.here hx rfl (pc0 := 44) (pc' := 53) rfl (Jvm.hb hby d3_44) rfl ((if0 _ _).trans (tlt q1).2.2.1) (by decide) (by decide) ?_
        exact kt)
      have f298 := E7.ext E280
      exact ⟨_, _, _, (0 : Int32), X293, e293, N0, K280, f298, f294, f282, V_r, own_fin (j := (0 : Int32)) (v := 0) (by decide) (w0.1.1) ((w0.2.2.1.1 (by decide)).mp q1), pre297⟩
    · skip
      obtain ⟨cl299, Ar299, q299, S299, M299, H299, U299⟩ := id f282
      have pre300 := fun (τ : State) kt => pre296 τ (by
        show Steps p.tables e below (T293.setTop (mkF m 44 #[.val (.ref a), .val (.ref b), .val (.ref r), .val (.int (0 : Int32)), .val (.int (0 : Int32))] [(.int (cmpValue (FP.dcmp (FP.i2d t1) (FP.dadd (FP.dadd (FP.i2d t0) en) (4472406533629990549 : UInt64))) .g))])) τ
        refine XS.ifNo X293.here hx rfl (Jvm.hb hby d3_44) rfl ((if0 _ _).trans (flt q1).2.2.1) ?_
        refine XS.iinc X293.here hx rfl (Jvm.hb hby d3_47) rfl (l' := #[.val (.ref a), .val (.ref b), .val (.ref r), .val (.int (1 : Int32)), .val (.int (0 : Int32))]) rfl ?_
        refine XS.goto X293.here hx rfl (pc0 := 50) (pc' := 17) rfl (Jvm.hb hby d3_50) (by decide) (by decide) ?_
        refine XS.iloadN X293.here hx rfl (Jvm.hb hby d3_17) rfl ?_
        refine XS.iconst X293.here hx rfl (Jvm.hb hby d3_18) ?_
        refine XS.iadd X293.here hx rfl (Jvm.hb hby d3_19) rfl ?_
        refine XS.aloadN X293.here hx rfl (Jvm.hb hby d3_20) rfl rfl ?_
        refine X293.arraylength hx ((congrArg (fun (HH : Heap) => HH[b]?) (e293 : T293.heap = h280)).trans Ar299.1) (State.isArrayOf_alike hZ.alike Ar299.2.1) (g := (mkF m 21 #[.val (.ref a), .val (.ref b), .val (.ref r), .val (.int (1 : Int32)), .val (.int (0 : Int32))] [(.ref b), (.int (2 : Int32))])) rfl rfl (Jvm.hb hby d3_21) _ ?_
        exact kt)
      have pre301 : ∀ τ, Steps p.tables e below (T293.setTop (mkF m 22 #[.val (.ref a), .val (.ref b), .val (.ref r), .val (.int (1 : Int32)), .val (.int (0 : Int32))] [(.int (4 : Int32)), (.int (2 : Int32))])) τ → PS τ := by
        have hq := pre300
        rw [len_of S299 M299] at hq
        exact hq
      obtain ⟨cl302, Ar302, q302, S302, M302, H302, U302⟩ := id f282
      have in302 : ¬ ((2 : Int32) < 0 ∨ cl302.slots.size ≤ ((2 : Int32)).toNatClampNeg) := inb_of S302 ⟨by decide, by decide⟩
      obtain ⟨cl303, Ar303, q303, S303, M303, H303, U303⟩ := id f282
      have in303 : ¬ ((0 : Int32) < 0 ∨ cl303.slots.size ≤ ((0 : Int32)).toNatClampNeg) := inb_of S303 ⟨by decide, by decide⟩
      obtain ⟨T304, X304, e304, st304⟩ := getF X293 hx hZ hown (host := "") (Or.inl (own_W16 hw)) Via.refl e293 f294 (g := (mkF m 35 #[.val (.ref a), .val (.ref b), .val (.ref r), .val (.int (1 : Int32)), .val (.int (0 : Int32))] [(.ref a), (.double (FP.i2d t0)), (.double (FP.i2d t2))])) rfl rfl (Jvm.hb hby d3_35)
      have pre305 := fun (τ : State) kt => pre301 τ (by
        show Steps p.tables e below (T293.setTop (mkF m 22 #[.val (.ref a), .val (.ref b), .val (.ref r), .val (.int (1 : Int32)), .val (.int (0 : Int32))] [(.int (4 : Int32)), (.int (2 : Int32))])) τ
        refine XS.icmpNo X293.here hx rfl (Jvm.hb hby d3_22) rfl (tlt (by decide)).2.1 ?_
        refine XS.aloadN X293.here hx rfl (Jvm.hb hby d3_25) rfl rfl ?_
        refine XS.iloadN X293.here hx rfl (Jvm.hb hby d3_26) rfl ?_
        refine XS.iconst X293.here hx rfl (Jvm.hb hby d3_27) ?_
        refine XS.iadd X293.here hx rfl (Jvm.hb hby d3_28) rfl ?_
        refine X293.daload hx ((congrArg (fun (HH : Heap) => HH[b]?) (e293 : T293.heap = h280)).trans Ar302.1) (State.isArrayOf_alike hZ.alike Ar302.2.1) Ar302.2.2 in302 (H302.at in302 rfl) (g := (mkF m 29 #[.val (.ref a), .val (.ref b), .val (.ref r), .val (.int (1 : Int32)), .val (.int (0 : Int32))] [(.int (2 : Int32)), (.ref b)])) rfl rfl (Jvm.hb hby d3_29) _ ?_
        refine XS.aloadN X293.here hx rfl (Jvm.hb hby d3_30) rfl rfl ?_
        refine XS.iload X293.here hx rfl (Jvm.hb hby d3_31) rfl ?_
        refine X293.daload hx ((congrArg (fun (HH : Heap) => HH[b]?) (e293 : T293.heap = h280)).trans Ar303.1) (State.isArrayOf_alike hZ.alike Ar303.2.1) Ar303.2.2 in303 (H303.at in303 rfl) (g := (mkF m 33 #[.val (.ref a), .val (.ref b), .val (.ref r), .val (.int (1 : Int32)), .val (.int (0 : Int32))] [(.int (0 : Int32)), (.ref b), (.double (FP.i2d t2))])) rfl rfl (Jvm.hb hby d3_33) _ ?_
        refine XS.aloadN X293.here hx rfl (Jvm.hb hby d3_34) rfl rfl ?_
        exact st304 τ kt)
      have pre306 := fun (τ : State) kt => pre305 τ (by
        show Steps p.tables e below (T304.setTop (mkF m 38 #[.val (.ref a), .val (.ref b), .val (.ref r), .val (.int (1 : Int32)), .val (.int (0 : Int32))] [(.double en), (.double (FP.i2d t0)), (.double (FP.i2d t2))])) τ
        refine own_dadd X304.here hx rfl (Jvm.hb hby d3_38) rfl (w0.2.1.1) ?_
        refine X304.ldc2DoubleC hx hown (mvT hZ (own_W27 hw)) (g := (mkF m 39 #[.val (.ref a), .val (.ref b), .val (.ref r), .val (.int (1 : Int32)), .val (.int (0 : Int32))] [(.double (FP.dadd (FP.i2d t0) en)), (.double (FP.i2d t2))])) rfl (Jvm.hb hby d3_39) _ ?_
        refine own_dadd X304.here hx rfl (Jvm.hb hby d3_42) rfl (w0.2.1.2) ?_
        refine own_dcmp X304.here hx rfl (Jvm.hb hby d3_43) rfl ?_
        exact kt)
      by_cases q2 : (0 : Int32) < (cmpValue (FP.dcmp (FP.i2d t2) (FP.dadd (FP.dadd (FP.i2d t0) en) (4472406533629990549 : UInt64))) .g)
      · skip
        have pre307 := fun (τ : State) kt => pre306 τ (by
          show Steps p.tables e below (T304.setTop (mkF m 44 #[.val (.ref a), .val (.ref b), .val (.ref r), .val (.int (1 : Int32)), .val (.int (0 : Int32))] [(.int (cmpValue (FP.dcmp (FP.i2d t2) (FP.dadd (FP.dadd (FP.i2d t0) en) (4472406533629990549 : UInt64))) .g))])) τ
          refine XS.ifYes X304.here hx rfl (pc0 := 44) (pc' := 53) rfl (Jvm.hb hby d3_44) rfl ((if0 _ _).trans (tlt q2).2.2.1) (by decide) (by decide) ?_
          exact kt)
        have f308 := E7.ext E280
        exact ⟨_, _, _, (1 : Int32), X304, e304, N0, K280, f308, f294, f282, V_r, own_fin (j := (1 : Int32)) (v := 1) (by decide) (Int.not_lt.mp (fun z => q1 ((w0.2.2.1.1 (by decide)).mpr z))) ((w0.2.2.1.2.1 (by decide)).mp q2), pre307⟩
      · skip
        obtain ⟨cl309, Ar309, q309, S309, M309, H309, U309⟩ := id f282
        have pre310 := fun (τ : State) kt => pre306 τ (by
          show Steps p.tables e below (T304.setTop (mkF m 44 #[.val (.ref a), .val (.ref b), .val (.ref r), .val (.int (1 : Int32)), .val (.int (0 : Int32))] [(.int (cmpValue (FP.dcmp (FP.i2d t2) (FP.dadd (FP.dadd (FP.i2d t0) en) (4472406533629990549 : UInt64))) .g))])) τ
          refine XS.ifNo X304.here hx rfl (Jvm.hb hby d3_44) rfl ((if0 _ _).trans (flt q2).2.2.1) ?_
          refine XS.iinc X304.here hx rfl (Jvm.hb hby d3_47) rfl (l' := #[.val (.ref a), .val (.ref b), .val (.ref r), .val (.int (2 : Int32)), .val (.int (0 : Int32))]) rfl ?_
          refine XS.goto X304.here hx rfl (pc0 := 50) (pc' := 17) rfl (Jvm.hb hby d3_50) (by decide) (by decide) ?_
          refine XS.iloadN X304.here hx rfl (Jvm.hb hby d3_17) rfl ?_
          refine XS.iconst X304.here hx rfl (Jvm.hb hby d3_18) ?_
          refine XS.iadd X304.here hx rfl (Jvm.hb hby d3_19) rfl ?_
          refine XS.aloadN X304.here hx rfl (Jvm.hb hby d3_20) rfl rfl ?_
          refine X304.arraylength hx ((congrArg (fun (HH : Heap) => HH[b]?) (e304 : T304.heap = h280)).trans Ar309.1) (State.isArrayOf_alike hZ.alike Ar309.2.1) (g := (mkF m 21 #[.val (.ref a), .val (.ref b), .val (.ref r), .val (.int (2 : Int32)), .val (.int (0 : Int32))] [(.ref b), (.int (3 : Int32))])) rfl rfl (Jvm.hb hby d3_21) _ ?_
          exact kt)
        have pre311 : ∀ τ, Steps p.tables e below (T304.setTop (mkF m 22 #[.val (.ref a), .val (.ref b), .val (.ref r), .val (.int (2 : Int32)), .val (.int (0 : Int32))] [(.int (4 : Int32)), (.int (3 : Int32))])) τ → PS τ := by
          have hq := pre310
          rw [len_of S309 M309] at hq
          exact hq
        obtain ⟨cl312, Ar312, q312, S312, M312, H312, U312⟩ := id f282
        have in312 : ¬ ((3 : Int32) < 0 ∨ cl312.slots.size ≤ ((3 : Int32)).toNatClampNeg) := inb_of S312 ⟨by decide, by decide⟩
        obtain ⟨cl313, Ar313, q313, S313, M313, H313, U313⟩ := id f282
        have in313 : ¬ ((0 : Int32) < 0 ∨ cl313.slots.size ≤ ((0 : Int32)).toNatClampNeg) := inb_of S313 ⟨by decide, by decide⟩
        obtain ⟨T314, X314, e314, st314⟩ := getF X304 hx hZ hown (host := "") (Or.inl (own_W16 hw)) Via.refl e304 f294 (g := (mkF m 35 #[.val (.ref a), .val (.ref b), .val (.ref r), .val (.int (2 : Int32)), .val (.int (0 : Int32))] [(.ref a), (.double (FP.i2d t0)), (.double (FP.i2d t3))])) rfl rfl (Jvm.hb hby d3_35)
        have pre315 := fun (τ : State) kt => pre311 τ (by
          show Steps p.tables e below (T304.setTop (mkF m 22 #[.val (.ref a), .val (.ref b), .val (.ref r), .val (.int (2 : Int32)), .val (.int (0 : Int32))] [(.int (4 : Int32)), (.int (3 : Int32))])) τ
          refine XS.icmpNo X304.here hx rfl (Jvm.hb hby d3_22) rfl (tlt (by decide)).2.1 ?_
          refine XS.aloadN X304.here hx rfl (Jvm.hb hby d3_25) rfl rfl ?_
          refine XS.iloadN X304.here hx rfl (Jvm.hb hby d3_26) rfl ?_
          refine XS.iconst X304.here hx rfl (Jvm.hb hby d3_27) ?_
          refine XS.iadd X304.here hx rfl (Jvm.hb hby d3_28) rfl ?_
          refine X304.daload hx ((congrArg (fun (HH : Heap) => HH[b]?) (e304 : T304.heap = h280)).trans Ar312.1) (State.isArrayOf_alike hZ.alike Ar312.2.1) Ar312.2.2 in312 (H312.at in312 rfl) (g := (mkF m 29 #[.val (.ref a), .val (.ref b), .val (.ref r), .val (.int (2 : Int32)), .val (.int (0 : Int32))] [(.int (3 : Int32)), (.ref b)])) rfl rfl (Jvm.hb hby d3_29) _ ?_
          refine XS.aloadN X304.here hx rfl (Jvm.hb hby d3_30) rfl rfl ?_
          refine XS.iload X304.here hx rfl (Jvm.hb hby d3_31) rfl ?_
          refine X304.daload hx ((congrArg (fun (HH : Heap) => HH[b]?) (e304 : T304.heap = h280)).trans Ar313.1) (State.isArrayOf_alike hZ.alike Ar313.2.1) Ar313.2.2 in313 (H313.at in313 rfl) (g := (mkF m 33 #[.val (.ref a), .val (.ref b), .val (.ref r), .val (.int (2 : Int32)), .val (.int (0 : Int32))] [(.int (0 : Int32)), (.ref b), (.double (FP.i2d t3))])) rfl rfl (Jvm.hb hby d3_33) _ ?_
          refine XS.aloadN X304.here hx rfl (Jvm.hb hby d3_34) rfl rfl ?_
          exact st314 τ kt)
        have pre316 := fun (τ : State) kt => pre315 τ (by
          show Steps p.tables e below (T314.setTop (mkF m 38 #[.val (.ref a), .val (.ref b), .val (.ref r), .val (.int (2 : Int32)), .val (.int (0 : Int32))] [(.double en), (.double (FP.i2d t0)), (.double (FP.i2d t3))])) τ
          refine own_dadd X314.here hx rfl (Jvm.hb hby d3_38) rfl (w0.2.1.1) ?_
          refine X314.ldc2DoubleC hx hown (mvT hZ (own_W27 hw)) (g := (mkF m 39 #[.val (.ref a), .val (.ref b), .val (.ref r), .val (.int (2 : Int32)), .val (.int (0 : Int32))] [(.double (FP.dadd (FP.i2d t0) en)), (.double (FP.i2d t3))])) rfl (Jvm.hb hby d3_39) _ ?_
          refine own_dadd X314.here hx rfl (Jvm.hb hby d3_42) rfl (w0.2.1.2) ?_
          refine own_dcmp X314.here hx rfl (Jvm.hb hby d3_43) rfl ?_
          exact kt)
        by_cases q3 : (0 : Int32) < (cmpValue (FP.dcmp (FP.i2d t3) (FP.dadd (FP.dadd (FP.i2d t0) en) (4472406533629990549 : UInt64))) .g)
        · skip
          have pre317 := fun (τ : State) kt => pre316 τ (by
            show Steps p.tables e below (T314.setTop (mkF m 44 #[.val (.ref a), .val (.ref b), .val (.ref r), .val (.int (2 : Int32)), .val (.int (0 : Int32))] [(.int (cmpValue (FP.dcmp (FP.i2d t3) (FP.dadd (FP.dadd (FP.i2d t0) en) (4472406533629990549 : UInt64))) .g))])) τ
            refine XS.ifYes X314.here hx rfl (pc0 := 44) (pc' := 53) rfl (Jvm.hb hby d3_44) rfl ((if0 _ _).trans (tlt q3).2.2.1) (by decide) (by decide) ?_
            exact kt)
          have f318 := E7.ext E280
          exact ⟨_, _, _, (2 : Int32), X314, e314, N0, K280, f318, f294, f282, V_r, own_fin (j := (2 : Int32)) (v := 2) (by decide) (Int.not_lt.mp (fun z => q2 ((w0.2.2.1.2.1 (by decide)).mpr z))) ((w0.2.2.1.2.2 (by decide)).mp q3), pre317⟩
        · skip
          obtain ⟨cl319, Ar319, q319, S319, M319, H319, U319⟩ := id f282
          have pre320 := fun (τ : State) kt => pre316 τ (by
            show Steps p.tables e below (T314.setTop (mkF m 44 #[.val (.ref a), .val (.ref b), .val (.ref r), .val (.int (2 : Int32)), .val (.int (0 : Int32))] [(.int (cmpValue (FP.dcmp (FP.i2d t3) (FP.dadd (FP.dadd (FP.i2d t0) en) (4472406533629990549 : UInt64))) .g))])) τ
            refine XS.ifNo X314.here hx rfl (Jvm.hb hby d3_44) rfl ((if0 _ _).trans (flt q3).2.2.1) ?_
            refine XS.iinc X314.here hx rfl (Jvm.hb hby d3_47) rfl (l' := #[.val (.ref a), .val (.ref b), .val (.ref r), .val (.int (3 : Int32)), .val (.int (0 : Int32))]) rfl ?_
            refine XS.goto X314.here hx rfl (pc0 := 50) (pc' := 17) rfl (Jvm.hb hby d3_50) (by decide) (by decide) ?_
            refine XS.iloadN X314.here hx rfl (Jvm.hb hby d3_17) rfl ?_
            refine XS.iconst X314.here hx rfl (Jvm.hb hby d3_18) ?_
            refine XS.iadd X314.here hx rfl (Jvm.hb hby d3_19) rfl ?_
            refine XS.aloadN X314.here hx rfl (Jvm.hb hby d3_20) rfl rfl ?_
            refine X314.arraylength hx ((congrArg (fun (HH : Heap) => HH[b]?) (e314 : T314.heap = h280)).trans Ar319.1) (State.isArrayOf_alike hZ.alike Ar319.2.1) (g := (mkF m 21 #[.val (.ref a), .val (.ref b), .val (.ref r), .val (.int (3 : Int32)), .val (.int (0 : Int32))] [(.ref b), (.int (4 : Int32))])) rfl rfl (Jvm.hb hby d3_21) _ ?_
            exact kt)
          have pre321 : ∀ τ, Steps p.tables e below (T314.setTop (mkF m 22 #[.val (.ref a), .val (.ref b), .val (.ref r), .val (.int (3 : Int32)), .val (.int (0 : Int32))] [(.int (4 : Int32)), (.int (4 : Int32))])) τ → PS τ := by
            have hq := pre320
            rw [len_of S319 M319] at hq
            exact hq
          have pre322 := fun (τ : State) kt => pre321 τ (by
            show Steps p.tables e below (T314.setTop (mkF m 22 #[.val (.ref a), .val (.ref b), .val (.ref r), .val (.int (3 : Int32)), .val (.int (0 : Int32))] [(.int (4 : Int32)), (.int (4 : Int32))])) τ
            refine XS.icmpYes X314.here hx rfl (pc0 := 22) (pc' := 53) rfl (Jvm.hb hby d3_22) rfl (flt (by decide)).2.1 (by decide) (by decide) ?_
            exact kt)
          have f323 := E7.ext E280
          exact ⟨_, _, _, (3 : Int32), X314, e314, N0, K280, f323, f294, f282, V_r, own_fin (j := (3 : Int32)) (v := 3) (by decide) (Int.not_lt.mp (fun z => q3 ((w0.2.2.1.2.2 (by decide)).mpr z))) (by have := w0.1.2; omega), pre322⟩
  obtain ⟨cl324, Ar324, q324, S324, M324, H324, U324⟩ := id j287_3
  obtain ⟨T325, h325, X325, e325, W325, st325⟩ := stI X287 hx hZ e287 Ar324 (j := (0 : Int32)) (inb_of S324 ⟨by decide, by decide⟩) (g := (mkF m 57 #[.val (.ref a), .val (.ref b), .val (.ref r), .val (.int j0), .val (.int (0 : Int32))] [(.int j0), (.int (0 : Int32)), (.ref r)])) rfl rfl (Jvm.hb hby d3_57)
  have V325 : Arv Z h325 r k280 .int (4 : Int32) [(.int j0), (.int (0 : Int32)), (.int (0 : Int32)), (.int (0 : Int32))] (.int (0 : Int32)) := Arv.set Ar324 q324 S324 M324 H324 U324 rfl W325 0 rfl (Nat.le_of_ble_eq_true rfl)
  have N325 := Fr.snoc X325 N287 g_r
  have K325 : Keep h0 h325 [] := K287.wr W325 (Or.inr sz_r)
  have pre326 := fun (τ : State) kt => pre287 τ (by
    show Steps p.tables e below (T287.setTop (mkF m 53 #[.val (.ref a), .val (.ref b), .val (.ref r), .val (.int j0), .val (.int (0 : Int32))] [])) τ
    refine XS.aloadN X287.here hx rfl (Jvm.hb hby d3_53) rfl rfl ?_
    refine XS.iload X287.here hx rfl (Jvm.hb hby d3_54) rfl ?_
    refine XS.iloadN X287.here hx rfl (Jvm.hb hby d3_56) rfl ?_
    exact st325 τ kt)
  have f327 := j287_2.other W325 ne_b_r
  obtain ⟨cl328, Ar328, q328, S328, M328, H328, U328⟩ := id f327
  have pre329 := fun (τ : State) kt => pre326 τ (by
    show Steps p.tables e below (T325.setTop (mkF m 58 #[.val (.ref a), .val (.ref b), .val (.ref r), .val (.int j0), .val (.int (0 : Int32))] [])) τ
    refine XS.iinc X325.here hx rfl (Jvm.hb hby d3_58) rfl (l' := #[.val (.ref a), .val (.ref b), .val (.ref r), .val (.int j0), .val (.int (1 : Int32))]) rfl ?_
    refine XS.goto X325.here hx rfl (pc0 := 61) (pc' := 10) rfl (Jvm.hb hby d3_61) (by decide) (by decide) ?_
    refine XS.iload X325.here hx rfl (Jvm.hb hby d3_10) rfl ?_
    refine XS.aloadN X325.here hx rfl (Jvm.hb hby d3_12) rfl rfl ?_
    refine X325.arraylength hx ((congrArg (fun (HH : Heap) => HH[b]?) (e325 : T325.heap = h325)).trans Ar328.1) (State.isArrayOf_alike hZ.alike Ar328.2.1) (g := (mkF m 13 #[.val (.ref a), .val (.ref b), .val (.ref r), .val (.int j0), .val (.int (1 : Int32))] [(.ref b), (.int (1 : Int32))])) rfl rfl (Jvm.hb hby d3_13) _ ?_
    exact kt)
  have pre330 : ∀ τ, Steps p.tables e below (T325.setTop (mkF m 14 #[.val (.ref a), .val (.ref b), .val (.ref r), .val (.int j0), .val (.int (1 : Int32))] [(.int (4 : Int32)), (.int (1 : Int32))])) τ → PS τ := by
    have hq := pre329
    rw [len_of S328 M328] at hq
    exact hq
  have pre331 := fun (τ : State) kt => pre330 τ (by
    show Steps p.tables e below (T325.setTop (mkF m 14 #[.val (.ref a), .val (.ref b), .val (.ref r), .val (.int j0), .val (.int (1 : Int32))] [(.int (4 : Int32)), (.int (1 : Int32))])) τ
    refine XS.icmpNo X325.here hx rfl (Jvm.hb hby d3_14) rfl (tlt (by decide)).2.1 ?_
    exact kt)
  obtain ⟨T332, h332, Lj332, j1, X332, e332, N332, K332, j332_0, j332_1, j332_2, j332_3, hj332, pre332⟩ : ∃ (T332 : State) (h332 : Heap) (Lj : List Loc) (j1 : Int32), Stand p l e ({ frames := 0, cells := 1, slots := 4, locals := 0 } : Room) s m #[(.ref a), (.ref b)] below meth c T332 Lj (1) (4) ∧ T332.heap = h332 ∧ Fr n0 Lj ∧ Keep h0 h332 [] ∧ Exa Z h332 a "com/example/counterpath/counterpath/core/Window" ∧ Fld Z h332 a "com/example/counterpath/counterpath/core/Window" "end" "D" (.double en) ∧ Arv Z h332 b kb .double (4 : Int32) [(.double (FP.i2d t0)), (.double (FP.i2d t1)), (.double (FP.i2d t2)), (.double (FP.i2d t3))] (.double (0 : UInt64)) ∧ Arv Z h332 r k280 .int (4 : Int32) [(.int j0), (.int (0 : Int32)), (.int (0 : Int32)), (.int (0 : Int32))] (.int (0 : Int32)) ∧ (j1 = lx1) ∧ ∀ τ, Steps p.tables e below (T332.setTop (mkF m 53 #[.val (.ref a), .val (.ref b), .val (.ref r), .val (.int j1), .val (.int (1 : Int32))] [])) τ → PS τ := by
    rcases (own_c4 (x := j0) (by rw [hj287]; exact w0.1.1) (by rw [hj287]; exact w0.1.2)) with hc | hc | hc | hc
    · skip
      have pre333 : ∀ τ, Steps p.tables e below (T325.setTop (mkF m 17 #[.val (.ref a), .val (.ref b), .val (.ref r), .val (.int (0 : Int32)), .val (.int (1 : Int32))] [])) τ → PS τ := by have hq := pre331; rw [hc] at hq; exact hq
      obtain ⟨cl334, Ar334, q334, S334, M334, H334, U334⟩ := id f327
      have pre335 := fun (τ : State) kt => pre333 τ (by
        show Steps p.tables e below (T325.setTop (mkF m 17 #[.val (.ref a), .val (.ref b), .val (.ref r), .val (.int (0 : Int32)), .val (.int (1 : Int32))] [])) τ
        refine XS.iloadN X325.here hx rfl (Jvm.hb hby d3_17) rfl ?_
        refine XS.iconst X325.here hx rfl (Jvm.hb hby d3_18) ?_
        refine XS.iadd X325.here hx rfl (Jvm.hb hby d3_19) rfl ?_
        refine XS.aloadN X325.here hx rfl (Jvm.hb hby d3_20) rfl rfl ?_
        refine X325.arraylength hx ((congrArg (fun (HH : Heap) => HH[b]?) (e325 : T325.heap = h325)).trans Ar334.1) (State.isArrayOf_alike hZ.alike Ar334.2.1) (g := (mkF m 21 #[.val (.ref a), .val (.ref b), .val (.ref r), .val (.int (0 : Int32)), .val (.int (1 : Int32))] [(.ref b), (.int (1 : Int32))])) rfl rfl (Jvm.hb hby d3_21) _ ?_
        exact kt)
      have pre336 : ∀ τ, Steps p.tables e below (T325.setTop (mkF m 22 #[.val (.ref a), .val (.ref b), .val (.ref r), .val (.int (0 : Int32)), .val (.int (1 : Int32))] [(.int (4 : Int32)), (.int (1 : Int32))])) τ → PS τ := by
        have hq := pre335
        rw [len_of S334 M334] at hq
        exact hq
      obtain ⟨cl337, Ar337, q337, S337, M337, H337, U337⟩ := id f327
      have in337 : ¬ ((1 : Int32) < 0 ∨ cl337.slots.size ≤ ((1 : Int32)).toNatClampNeg) := inb_of S337 ⟨by decide, by decide⟩
      obtain ⟨cl338, Ar338, q338, S338, M338, H338, U338⟩ := id f327
      have in338 : ¬ ((1 : Int32) < 0 ∨ cl338.slots.size ≤ ((1 : Int32)).toNatClampNeg) := inb_of S338 ⟨by decide, by decide⟩
      have f340 := (j287_1.other W325 (Or.inl ne_a_r))
      obtain ⟨T339, X339, e339, st339⟩ := getF X325 hx hZ hown (host := "") (Or.inl (own_W16 hw)) Via.refl e325 f340 (g := (mkF m 35 #[.val (.ref a), .val (.ref b), .val (.ref r), .val (.int (0 : Int32)), .val (.int (1 : Int32))] [(.ref a), (.double (FP.i2d t1)), (.double (FP.i2d t1))])) rfl rfl (Jvm.hb hby d3_35)
      have pre341 := fun (τ : State) kt => pre336 τ (by
        show Steps p.tables e below (T325.setTop (mkF m 22 #[.val (.ref a), .val (.ref b), .val (.ref r), .val (.int (0 : Int32)), .val (.int (1 : Int32))] [(.int (4 : Int32)), (.int (1 : Int32))])) τ
        refine XS.icmpNo X325.here hx rfl (Jvm.hb hby d3_22) rfl (tlt (by decide)).2.1 ?_
        refine XS.aloadN X325.here hx rfl (Jvm.hb hby d3_25) rfl rfl ?_
        refine XS.iloadN X325.here hx rfl (Jvm.hb hby d3_26) rfl ?_
        refine XS.iconst X325.here hx rfl (Jvm.hb hby d3_27) ?_
        refine XS.iadd X325.here hx rfl (Jvm.hb hby d3_28) rfl ?_
        refine X325.daload hx ((congrArg (fun (HH : Heap) => HH[b]?) (e325 : T325.heap = h325)).trans Ar337.1) (State.isArrayOf_alike hZ.alike Ar337.2.1) Ar337.2.2 in337 (H337.at in337 rfl) (g := (mkF m 29 #[.val (.ref a), .val (.ref b), .val (.ref r), .val (.int (0 : Int32)), .val (.int (1 : Int32))] [(.int (1 : Int32)), (.ref b)])) rfl rfl (Jvm.hb hby d3_29) _ ?_
        refine XS.aloadN X325.here hx rfl (Jvm.hb hby d3_30) rfl rfl ?_
        refine XS.iload X325.here hx rfl (Jvm.hb hby d3_31) rfl ?_
        refine X325.daload hx ((congrArg (fun (HH : Heap) => HH[b]?) (e325 : T325.heap = h325)).trans Ar338.1) (State.isArrayOf_alike hZ.alike Ar338.2.1) Ar338.2.2 in338 (H338.at in338 rfl) (g := (mkF m 33 #[.val (.ref a), .val (.ref b), .val (.ref r), .val (.int (0 : Int32)), .val (.int (1 : Int32))] [(.int (1 : Int32)), (.ref b), (.double (FP.i2d t1))])) rfl rfl (Jvm.hb hby d3_33) _ ?_
        refine XS.aloadN X325.here hx rfl (Jvm.hb hby d3_34) rfl rfl ?_
        exact st339 τ kt)
      have pre342 := fun (τ : State) kt => pre341 τ (by
        show Steps p.tables e below (T339.setTop (mkF m 38 #[.val (.ref a), .val (.ref b), .val (.ref r), .val (.int (0 : Int32)), .val (.int (1 : Int32))] [(.double en), (.double (FP.i2d t1)), (.double (FP.i2d t1))])) τ
        refine own_dadd X339.here hx rfl (Jvm.hb hby d3_38) rfl (w1.2.1.1) ?_
        refine X339.ldc2DoubleC hx hown (mvT hZ (own_W27 hw)) (g := (mkF m 39 #[.val (.ref a), .val (.ref b), .val (.ref r), .val (.int (0 : Int32)), .val (.int (1 : Int32))] [(.double (FP.dadd (FP.i2d t1) en)), (.double (FP.i2d t1))])) rfl (Jvm.hb hby d3_39) _ ?_
        refine own_dadd X339.here hx rfl (Jvm.hb hby d3_42) rfl (w1.2.1.2) ?_
        refine own_dcmp X339.here hx rfl (Jvm.hb hby d3_43) rfl ?_
        exact kt)
      by_cases q1 : (0 : Int32) < (cmpValue (FP.dcmp (FP.i2d t1) (FP.dadd (FP.dadd (FP.i2d t1) en) (4472406533629990549 : UInt64))) .g)
      · skip
        have pre343 := fun (τ : State) kt => pre342 τ (by
          show Steps p.tables e below (T339.setTop (mkF m 44 #[.val (.ref a), .val (.ref b), .val (.ref r), .val (.int (0 : Int32)), .val (.int (1 : Int32))] [(.int (cmpValue (FP.dcmp (FP.i2d t1) (FP.dadd (FP.dadd (FP.i2d t1) en) (4472406533629990549 : UInt64))) .g))])) τ
          refine XS.ifYes X339.here hx rfl (pc0 := 44) (pc' := 53) rfl (Jvm.hb hby d3_44) rfl ((if0 _ _).trans (tlt q1).2.2.1) (by decide) (by decide) ?_
          exact kt)
        have f344 := j287_0.wr W325
        exact ⟨_, _, _, (0 : Int32), X339, e339, N325, K325, f344, f340, f327, V325, own_fin (j := (0 : Int32)) (v := 0) (by decide) (own_lo (by decide) hj287 hc m1) ((w1.2.2.1.1 (by decide)).mp q1), pre343⟩
      · skip
        obtain ⟨cl345, Ar345, q345, S345, M345, H345, U345⟩ := id f327
        have pre346 := fun (τ : State) kt => pre342 τ (by
          show Steps p.tables e below (T339.setTop (mkF m 44 #[.val (.ref a), .val (.ref b), .val (.ref r), .val (.int (0 : Int32)), .val (.int (1 : Int32))] [(.int (cmpValue (FP.dcmp (FP.i2d t1) (FP.dadd (FP.dadd (FP.i2d t1) en) (4472406533629990549 : UInt64))) .g))])) τ
          refine XS.ifNo X339.here hx rfl (Jvm.hb hby d3_44) rfl ((if0 _ _).trans (flt q1).2.2.1) ?_
          refine XS.iinc X339.here hx rfl (Jvm.hb hby d3_47) rfl (l' := #[.val (.ref a), .val (.ref b), .val (.ref r), .val (.int (1 : Int32)), .val (.int (1 : Int32))]) rfl ?_
          refine XS.goto X339.here hx rfl (pc0 := 50) (pc' := 17) rfl (Jvm.hb hby d3_50) (by decide) (by decide) ?_
          refine XS.iloadN X339.here hx rfl (Jvm.hb hby d3_17) rfl ?_
          refine XS.iconst X339.here hx rfl (Jvm.hb hby d3_18) ?_
          refine XS.iadd X339.here hx rfl (Jvm.hb hby d3_19) rfl ?_
          refine XS.aloadN X339.here hx rfl (Jvm.hb hby d3_20) rfl rfl ?_
          refine X339.arraylength hx ((congrArg (fun (HH : Heap) => HH[b]?) (e339 : T339.heap = h325)).trans Ar345.1) (State.isArrayOf_alike hZ.alike Ar345.2.1) (g := (mkF m 21 #[.val (.ref a), .val (.ref b), .val (.ref r), .val (.int (1 : Int32)), .val (.int (1 : Int32))] [(.ref b), (.int (2 : Int32))])) rfl rfl (Jvm.hb hby d3_21) _ ?_
          exact kt)
        have pre347 : ∀ τ, Steps p.tables e below (T339.setTop (mkF m 22 #[.val (.ref a), .val (.ref b), .val (.ref r), .val (.int (1 : Int32)), .val (.int (1 : Int32))] [(.int (4 : Int32)), (.int (2 : Int32))])) τ → PS τ := by
          have hq := pre346
          rw [len_of S345 M345] at hq
          exact hq
        obtain ⟨cl348, Ar348, q348, S348, M348, H348, U348⟩ := id f327
        have in348 : ¬ ((2 : Int32) < 0 ∨ cl348.slots.size ≤ ((2 : Int32)).toNatClampNeg) := inb_of S348 ⟨by decide, by decide⟩
        obtain ⟨cl349, Ar349, q349, S349, M349, H349, U349⟩ := id f327
        have in349 : ¬ ((1 : Int32) < 0 ∨ cl349.slots.size ≤ ((1 : Int32)).toNatClampNeg) := inb_of S349 ⟨by decide, by decide⟩
        obtain ⟨T350, X350, e350, st350⟩ := getF X339 hx hZ hown (host := "") (Or.inl (own_W16 hw)) Via.refl e339 f340 (g := (mkF m 35 #[.val (.ref a), .val (.ref b), .val (.ref r), .val (.int (1 : Int32)), .val (.int (1 : Int32))] [(.ref a), (.double (FP.i2d t1)), (.double (FP.i2d t2))])) rfl rfl (Jvm.hb hby d3_35)
        have pre351 := fun (τ : State) kt => pre347 τ (by
          show Steps p.tables e below (T339.setTop (mkF m 22 #[.val (.ref a), .val (.ref b), .val (.ref r), .val (.int (1 : Int32)), .val (.int (1 : Int32))] [(.int (4 : Int32)), (.int (2 : Int32))])) τ
          refine XS.icmpNo X339.here hx rfl (Jvm.hb hby d3_22) rfl (tlt (by decide)).2.1 ?_
          refine XS.aloadN X339.here hx rfl (Jvm.hb hby d3_25) rfl rfl ?_
          refine XS.iloadN X339.here hx rfl (Jvm.hb hby d3_26) rfl ?_
          refine XS.iconst X339.here hx rfl (Jvm.hb hby d3_27) ?_
          refine XS.iadd X339.here hx rfl (Jvm.hb hby d3_28) rfl ?_
          refine X339.daload hx ((congrArg (fun (HH : Heap) => HH[b]?) (e339 : T339.heap = h325)).trans Ar348.1) (State.isArrayOf_alike hZ.alike Ar348.2.1) Ar348.2.2 in348 (H348.at in348 rfl) (g := (mkF m 29 #[.val (.ref a), .val (.ref b), .val (.ref r), .val (.int (1 : Int32)), .val (.int (1 : Int32))] [(.int (2 : Int32)), (.ref b)])) rfl rfl (Jvm.hb hby d3_29) _ ?_
          refine XS.aloadN X339.here hx rfl (Jvm.hb hby d3_30) rfl rfl ?_
          refine XS.iload X339.here hx rfl (Jvm.hb hby d3_31) rfl ?_
          refine X339.daload hx ((congrArg (fun (HH : Heap) => HH[b]?) (e339 : T339.heap = h325)).trans Ar349.1) (State.isArrayOf_alike hZ.alike Ar349.2.1) Ar349.2.2 in349 (H349.at in349 rfl) (g := (mkF m 33 #[.val (.ref a), .val (.ref b), .val (.ref r), .val (.int (1 : Int32)), .val (.int (1 : Int32))] [(.int (1 : Int32)), (.ref b), (.double (FP.i2d t2))])) rfl rfl (Jvm.hb hby d3_33) _ ?_
          refine XS.aloadN X339.here hx rfl (Jvm.hb hby d3_34) rfl rfl ?_
          exact st350 τ kt)
        have pre352 := fun (τ : State) kt => pre351 τ (by
          show Steps p.tables e below (T350.setTop (mkF m 38 #[.val (.ref a), .val (.ref b), .val (.ref r), .val (.int (1 : Int32)), .val (.int (1 : Int32))] [(.double en), (.double (FP.i2d t1)), (.double (FP.i2d t2))])) τ
          refine own_dadd X350.here hx rfl (Jvm.hb hby d3_38) rfl (w1.2.1.1) ?_
          refine X350.ldc2DoubleC hx hown (mvT hZ (own_W27 hw)) (g := (mkF m 39 #[.val (.ref a), .val (.ref b), .val (.ref r), .val (.int (1 : Int32)), .val (.int (1 : Int32))] [(.double (FP.dadd (FP.i2d t1) en)), (.double (FP.i2d t2))])) rfl (Jvm.hb hby d3_39) _ ?_
          refine own_dadd X350.here hx rfl (Jvm.hb hby d3_42) rfl (w1.2.1.2) ?_
          refine own_dcmp X350.here hx rfl (Jvm.hb hby d3_43) rfl ?_
          exact kt)
        by_cases q2 : (0 : Int32) < (cmpValue (FP.dcmp (FP.i2d t2) (FP.dadd (FP.dadd (FP.i2d t1) en) (4472406533629990549 : UInt64))) .g)
        · skip
          have pre353 := fun (τ : State) kt => pre352 τ (by
            show Steps p.tables e below (T350.setTop (mkF m 44 #[.val (.ref a), .val (.ref b), .val (.ref r), .val (.int (1 : Int32)), .val (.int (1 : Int32))] [(.int (cmpValue (FP.dcmp (FP.i2d t2) (FP.dadd (FP.dadd (FP.i2d t1) en) (4472406533629990549 : UInt64))) .g))])) τ
            refine XS.ifYes X350.here hx rfl (pc0 := 44) (pc' := 53) rfl (Jvm.hb hby d3_44) rfl ((if0 _ _).trans (tlt q2).2.2.1) (by decide) (by decide) ?_
            exact kt)
          have f354 := j287_0.wr W325
          exact ⟨_, _, _, (1 : Int32), X350, e350, N325, K325, f354, f340, f327, V325, own_fin (j := (1 : Int32)) (v := 1) (by decide) (Int.not_lt.mp (fun z => q1 ((w1.2.2.1.1 (by decide)).mpr z))) ((w1.2.2.1.2.1 (by decide)).mp q2), pre353⟩
        · skip
          obtain ⟨cl355, Ar355, q355, S355, M355, H355, U355⟩ := id f327
          have pre356 := fun (τ : State) kt => pre352 τ (by
            show Steps p.tables e below (T350.setTop (mkF m 44 #[.val (.ref a), .val (.ref b), .val (.ref r), .val (.int (1 : Int32)), .val (.int (1 : Int32))] [(.int (cmpValue (FP.dcmp (FP.i2d t2) (FP.dadd (FP.dadd (FP.i2d t1) en) (4472406533629990549 : UInt64))) .g))])) τ
            refine XS.ifNo X350.here hx rfl (Jvm.hb hby d3_44) rfl ((if0 _ _).trans (flt q2).2.2.1) ?_
            refine XS.iinc X350.here hx rfl (Jvm.hb hby d3_47) rfl (l' := #[.val (.ref a), .val (.ref b), .val (.ref r), .val (.int (2 : Int32)), .val (.int (1 : Int32))]) rfl ?_
            refine XS.goto X350.here hx rfl (pc0 := 50) (pc' := 17) rfl (Jvm.hb hby d3_50) (by decide) (by decide) ?_
            refine XS.iloadN X350.here hx rfl (Jvm.hb hby d3_17) rfl ?_
            refine XS.iconst X350.here hx rfl (Jvm.hb hby d3_18) ?_
            refine XS.iadd X350.here hx rfl (Jvm.hb hby d3_19) rfl ?_
            refine XS.aloadN X350.here hx rfl (Jvm.hb hby d3_20) rfl rfl ?_
            refine X350.arraylength hx ((congrArg (fun (HH : Heap) => HH[b]?) (e350 : T350.heap = h325)).trans Ar355.1) (State.isArrayOf_alike hZ.alike Ar355.2.1) (g := (mkF m 21 #[.val (.ref a), .val (.ref b), .val (.ref r), .val (.int (2 : Int32)), .val (.int (1 : Int32))] [(.ref b), (.int (3 : Int32))])) rfl rfl (Jvm.hb hby d3_21) _ ?_
            exact kt)
          have pre357 : ∀ τ, Steps p.tables e below (T350.setTop (mkF m 22 #[.val (.ref a), .val (.ref b), .val (.ref r), .val (.int (2 : Int32)), .val (.int (1 : Int32))] [(.int (4 : Int32)), (.int (3 : Int32))])) τ → PS τ := by
            have hq := pre356
            rw [len_of S355 M355] at hq
            exact hq
          obtain ⟨cl358, Ar358, q358, S358, M358, H358, U358⟩ := id f327
          have in358 : ¬ ((3 : Int32) < 0 ∨ cl358.slots.size ≤ ((3 : Int32)).toNatClampNeg) := inb_of S358 ⟨by decide, by decide⟩
          obtain ⟨cl359, Ar359, q359, S359, M359, H359, U359⟩ := id f327
          have in359 : ¬ ((1 : Int32) < 0 ∨ cl359.slots.size ≤ ((1 : Int32)).toNatClampNeg) := inb_of S359 ⟨by decide, by decide⟩
          obtain ⟨T360, X360, e360, st360⟩ := getF X350 hx hZ hown (host := "") (Or.inl (own_W16 hw)) Via.refl e350 f340 (g := (mkF m 35 #[.val (.ref a), .val (.ref b), .val (.ref r), .val (.int (2 : Int32)), .val (.int (1 : Int32))] [(.ref a), (.double (FP.i2d t1)), (.double (FP.i2d t3))])) rfl rfl (Jvm.hb hby d3_35)
          have pre361 := fun (τ : State) kt => pre357 τ (by
            show Steps p.tables e below (T350.setTop (mkF m 22 #[.val (.ref a), .val (.ref b), .val (.ref r), .val (.int (2 : Int32)), .val (.int (1 : Int32))] [(.int (4 : Int32)), (.int (3 : Int32))])) τ
            refine XS.icmpNo X350.here hx rfl (Jvm.hb hby d3_22) rfl (tlt (by decide)).2.1 ?_
            refine XS.aloadN X350.here hx rfl (Jvm.hb hby d3_25) rfl rfl ?_
            refine XS.iloadN X350.here hx rfl (Jvm.hb hby d3_26) rfl ?_
            refine XS.iconst X350.here hx rfl (Jvm.hb hby d3_27) ?_
            refine XS.iadd X350.here hx rfl (Jvm.hb hby d3_28) rfl ?_
            refine X350.daload hx ((congrArg (fun (HH : Heap) => HH[b]?) (e350 : T350.heap = h325)).trans Ar358.1) (State.isArrayOf_alike hZ.alike Ar358.2.1) Ar358.2.2 in358 (H358.at in358 rfl) (g := (mkF m 29 #[.val (.ref a), .val (.ref b), .val (.ref r), .val (.int (2 : Int32)), .val (.int (1 : Int32))] [(.int (3 : Int32)), (.ref b)])) rfl rfl (Jvm.hb hby d3_29) _ ?_
            refine XS.aloadN X350.here hx rfl (Jvm.hb hby d3_30) rfl rfl ?_
            refine XS.iload X350.here hx rfl (Jvm.hb hby d3_31) rfl ?_
            refine X350.daload hx ((congrArg (fun (HH : Heap) => HH[b]?) (e350 : T350.heap = h325)).trans Ar359.1) (State.isArrayOf_alike hZ.alike Ar359.2.1) Ar359.2.2 in359 (H359.at in359 rfl) (g := (mkF m 33 #[.val (.ref a), .val (.ref b), .val (.ref r), .val (.int (2 : Int32)), .val (.int (1 : Int32))] [(.int (1 : Int32)), (.ref b), (.double (FP.i2d t3))])) rfl rfl (Jvm.hb hby d3_33) _ ?_
            refine XS.aloadN X350.here hx rfl (Jvm.hb hby d3_34) rfl rfl ?_
            exact st360 τ kt)
          have pre362 := fun (τ : State) kt => pre361 τ (by
            show Steps p.tables e below (T360.setTop (mkF m 38 #[.val (.ref a), .val (.ref b), .val (.ref r), .val (.int (2 : Int32)), .val (.int (1 : Int32))] [(.double en), (.double (FP.i2d t1)), (.double (FP.i2d t3))])) τ
            refine own_dadd X360.here hx rfl (Jvm.hb hby d3_38) rfl (w1.2.1.1) ?_
            refine X360.ldc2DoubleC hx hown (mvT hZ (own_W27 hw)) (g := (mkF m 39 #[.val (.ref a), .val (.ref b), .val (.ref r), .val (.int (2 : Int32)), .val (.int (1 : Int32))] [(.double (FP.dadd (FP.i2d t1) en)), (.double (FP.i2d t3))])) rfl (Jvm.hb hby d3_39) _ ?_
            refine own_dadd X360.here hx rfl (Jvm.hb hby d3_42) rfl (w1.2.1.2) ?_
            refine own_dcmp X360.here hx rfl (Jvm.hb hby d3_43) rfl ?_
            exact kt)
          by_cases q3 : (0 : Int32) < (cmpValue (FP.dcmp (FP.i2d t3) (FP.dadd (FP.dadd (FP.i2d t1) en) (4472406533629990549 : UInt64))) .g)
          · skip
            have pre363 := fun (τ : State) kt => pre362 τ (by
              show Steps p.tables e below (T360.setTop (mkF m 44 #[.val (.ref a), .val (.ref b), .val (.ref r), .val (.int (2 : Int32)), .val (.int (1 : Int32))] [(.int (cmpValue (FP.dcmp (FP.i2d t3) (FP.dadd (FP.dadd (FP.i2d t1) en) (4472406533629990549 : UInt64))) .g))])) τ
              refine XS.ifYes X360.here hx rfl (pc0 := 44) (pc' := 53) rfl (Jvm.hb hby d3_44) rfl ((if0 _ _).trans (tlt q3).2.2.1) (by decide) (by decide) ?_
              exact kt)
            have f364 := j287_0.wr W325
            exact ⟨_, _, _, (2 : Int32), X360, e360, N325, K325, f364, f340, f327, V325, own_fin (j := (2 : Int32)) (v := 2) (by decide) (Int.not_lt.mp (fun z => q2 ((w1.2.2.1.2.1 (by decide)).mpr z))) ((w1.2.2.1.2.2 (by decide)).mp q3), pre363⟩
          · skip
            obtain ⟨cl365, Ar365, q365, S365, M365, H365, U365⟩ := id f327
            have pre366 := fun (τ : State) kt => pre362 τ (by
              show Steps p.tables e below (T360.setTop (mkF m 44 #[.val (.ref a), .val (.ref b), .val (.ref r), .val (.int (2 : Int32)), .val (.int (1 : Int32))] [(.int (cmpValue (FP.dcmp (FP.i2d t3) (FP.dadd (FP.dadd (FP.i2d t1) en) (4472406533629990549 : UInt64))) .g))])) τ
              refine XS.ifNo X360.here hx rfl (Jvm.hb hby d3_44) rfl ((if0 _ _).trans (flt q3).2.2.1) ?_
              refine XS.iinc X360.here hx rfl (Jvm.hb hby d3_47) rfl (l' := #[.val (.ref a), .val (.ref b), .val (.ref r), .val (.int (3 : Int32)), .val (.int (1 : Int32))]) rfl ?_
              refine XS.goto X360.here hx rfl (pc0 := 50) (pc' := 17) rfl (Jvm.hb hby d3_50) (by decide) (by decide) ?_
              refine XS.iloadN X360.here hx rfl (Jvm.hb hby d3_17) rfl ?_
              refine XS.iconst X360.here hx rfl (Jvm.hb hby d3_18) ?_
              refine XS.iadd X360.here hx rfl (Jvm.hb hby d3_19) rfl ?_
              refine XS.aloadN X360.here hx rfl (Jvm.hb hby d3_20) rfl rfl ?_
              refine X360.arraylength hx ((congrArg (fun (HH : Heap) => HH[b]?) (e360 : T360.heap = h325)).trans Ar365.1) (State.isArrayOf_alike hZ.alike Ar365.2.1) (g := (mkF m 21 #[.val (.ref a), .val (.ref b), .val (.ref r), .val (.int (3 : Int32)), .val (.int (1 : Int32))] [(.ref b), (.int (4 : Int32))])) rfl rfl (Jvm.hb hby d3_21) _ ?_
              exact kt)
            have pre367 : ∀ τ, Steps p.tables e below (T360.setTop (mkF m 22 #[.val (.ref a), .val (.ref b), .val (.ref r), .val (.int (3 : Int32)), .val (.int (1 : Int32))] [(.int (4 : Int32)), (.int (4 : Int32))])) τ → PS τ := by
              have hq := pre366
              rw [len_of S365 M365] at hq
              exact hq
            have pre368 := fun (τ : State) kt => pre367 τ (by
              show Steps p.tables e below (T360.setTop (mkF m 22 #[.val (.ref a), .val (.ref b), .val (.ref r), .val (.int (3 : Int32)), .val (.int (1 : Int32))] [(.int (4 : Int32)), (.int (4 : Int32))])) τ
              refine XS.icmpYes X360.here hx rfl (pc0 := 22) (pc' := 53) rfl (Jvm.hb hby d3_22) rfl (flt (by decide)).2.1 (by decide) (by decide) ?_
              exact kt)
            have f369 := j287_0.wr W325
            exact ⟨_, _, _, (3 : Int32), X360, e360, N325, K325, f369, f340, f327, V325, own_fin (j := (3 : Int32)) (v := 3) (by decide) (Int.not_lt.mp (fun z => q3 ((w1.2.2.1.2.2 (by decide)).mpr z))) (by have := w1.1.2; omega), pre368⟩
    · skip
      have pre370 : ∀ τ, Steps p.tables e below (T325.setTop (mkF m 17 #[.val (.ref a), .val (.ref b), .val (.ref r), .val (.int (1 : Int32)), .val (.int (1 : Int32))] [])) τ → PS τ := by have hq := pre331; rw [hc] at hq; exact hq
      obtain ⟨cl371, Ar371, q371, S371, M371, H371, U371⟩ := id f327
      have pre372 := fun (τ : State) kt => pre370 τ (by
        show Steps p.tables e below (T325.setTop (mkF m 17 #[.val (.ref a), .val (.ref b), .val (.ref r), .val (.int (1 : Int32)), .val (.int (1 : Int32))] [])) τ
        refine XS.iloadN X325.here hx rfl (Jvm.hb hby d3_17) rfl ?_
        refine XS.iconst X325.here hx rfl (Jvm.hb hby d3_18) ?_
        refine XS.iadd X325.here hx rfl (Jvm.hb hby d3_19) rfl ?_
        refine XS.aloadN X325.here hx rfl (Jvm.hb hby d3_20) rfl rfl ?_
        refine X325.arraylength hx ((congrArg (fun (HH : Heap) => HH[b]?) (e325 : T325.heap = h325)).trans Ar371.1) (State.isArrayOf_alike hZ.alike Ar371.2.1) (g := (mkF m 21 #[.val (.ref a), .val (.ref b), .val (.ref r), .val (.int (1 : Int32)), .val (.int (1 : Int32))] [(.ref b), (.int (2 : Int32))])) rfl rfl (Jvm.hb hby d3_21) _ ?_
        exact kt)
      have pre373 : ∀ τ, Steps p.tables e below (T325.setTop (mkF m 22 #[.val (.ref a), .val (.ref b), .val (.ref r), .val (.int (1 : Int32)), .val (.int (1 : Int32))] [(.int (4 : Int32)), (.int (2 : Int32))])) τ → PS τ := by
        have hq := pre372
        rw [len_of S371 M371] at hq
        exact hq
      obtain ⟨cl374, Ar374, q374, S374, M374, H374, U374⟩ := id f327
      have in374 : ¬ ((2 : Int32) < 0 ∨ cl374.slots.size ≤ ((2 : Int32)).toNatClampNeg) := inb_of S374 ⟨by decide, by decide⟩
      obtain ⟨cl375, Ar375, q375, S375, M375, H375, U375⟩ := id f327
      have in375 : ¬ ((1 : Int32) < 0 ∨ cl375.slots.size ≤ ((1 : Int32)).toNatClampNeg) := inb_of S375 ⟨by decide, by decide⟩
      have f377 := (j287_1.other W325 (Or.inl ne_a_r))
      obtain ⟨T376, X376, e376, st376⟩ := getF X325 hx hZ hown (host := "") (Or.inl (own_W16 hw)) Via.refl e325 f377 (g := (mkF m 35 #[.val (.ref a), .val (.ref b), .val (.ref r), .val (.int (1 : Int32)), .val (.int (1 : Int32))] [(.ref a), (.double (FP.i2d t1)), (.double (FP.i2d t2))])) rfl rfl (Jvm.hb hby d3_35)
      have pre378 := fun (τ : State) kt => pre373 τ (by
        show Steps p.tables e below (T325.setTop (mkF m 22 #[.val (.ref a), .val (.ref b), .val (.ref r), .val (.int (1 : Int32)), .val (.int (1 : Int32))] [(.int (4 : Int32)), (.int (2 : Int32))])) τ
        refine XS.icmpNo X325.here hx rfl (Jvm.hb hby d3_22) rfl (tlt (by decide)).2.1 ?_
        refine XS.aloadN X325.here hx rfl (Jvm.hb hby d3_25) rfl rfl ?_
        refine XS.iloadN X325.here hx rfl (Jvm.hb hby d3_26) rfl ?_
        refine XS.iconst X325.here hx rfl (Jvm.hb hby d3_27) ?_
        refine XS.iadd X325.here hx rfl (Jvm.hb hby d3_28) rfl ?_
        refine X325.daload hx ((congrArg (fun (HH : Heap) => HH[b]?) (e325 : T325.heap = h325)).trans Ar374.1) (State.isArrayOf_alike hZ.alike Ar374.2.1) Ar374.2.2 in374 (H374.at in374 rfl) (g := (mkF m 29 #[.val (.ref a), .val (.ref b), .val (.ref r), .val (.int (1 : Int32)), .val (.int (1 : Int32))] [(.int (2 : Int32)), (.ref b)])) rfl rfl (Jvm.hb hby d3_29) _ ?_
        refine XS.aloadN X325.here hx rfl (Jvm.hb hby d3_30) rfl rfl ?_
        refine XS.iload X325.here hx rfl (Jvm.hb hby d3_31) rfl ?_
        refine X325.daload hx ((congrArg (fun (HH : Heap) => HH[b]?) (e325 : T325.heap = h325)).trans Ar375.1) (State.isArrayOf_alike hZ.alike Ar375.2.1) Ar375.2.2 in375 (H375.at in375 rfl) (g := (mkF m 33 #[.val (.ref a), .val (.ref b), .val (.ref r), .val (.int (1 : Int32)), .val (.int (1 : Int32))] [(.int (1 : Int32)), (.ref b), (.double (FP.i2d t2))])) rfl rfl (Jvm.hb hby d3_33) _ ?_
        refine XS.aloadN X325.here hx rfl (Jvm.hb hby d3_34) rfl rfl ?_
        exact st376 τ kt)
      have pre379 := fun (τ : State) kt => pre378 τ (by
        show Steps p.tables e below (T376.setTop (mkF m 38 #[.val (.ref a), .val (.ref b), .val (.ref r), .val (.int (1 : Int32)), .val (.int (1 : Int32))] [(.double en), (.double (FP.i2d t1)), (.double (FP.i2d t2))])) τ
        refine own_dadd X376.here hx rfl (Jvm.hb hby d3_38) rfl (w1.2.1.1) ?_
        refine X376.ldc2DoubleC hx hown (mvT hZ (own_W27 hw)) (g := (mkF m 39 #[.val (.ref a), .val (.ref b), .val (.ref r), .val (.int (1 : Int32)), .val (.int (1 : Int32))] [(.double (FP.dadd (FP.i2d t1) en)), (.double (FP.i2d t2))])) rfl (Jvm.hb hby d3_39) _ ?_
        refine own_dadd X376.here hx rfl (Jvm.hb hby d3_42) rfl (w1.2.1.2) ?_
        refine own_dcmp X376.here hx rfl (Jvm.hb hby d3_43) rfl ?_
        exact kt)
      by_cases q2 : (0 : Int32) < (cmpValue (FP.dcmp (FP.i2d t2) (FP.dadd (FP.dadd (FP.i2d t1) en) (4472406533629990549 : UInt64))) .g)
      · skip
        have pre380 := fun (τ : State) kt => pre379 τ (by
          show Steps p.tables e below (T376.setTop (mkF m 44 #[.val (.ref a), .val (.ref b), .val (.ref r), .val (.int (1 : Int32)), .val (.int (1 : Int32))] [(.int (cmpValue (FP.dcmp (FP.i2d t2) (FP.dadd (FP.dadd (FP.i2d t1) en) (4472406533629990549 : UInt64))) .g))])) τ
          refine XS.ifYes X376.here hx rfl (pc0 := 44) (pc' := 53) rfl (Jvm.hb hby d3_44) rfl ((if0 _ _).trans (tlt q2).2.2.1) (by decide) (by decide) ?_
          exact kt)
        have f381 := j287_0.wr W325
        exact ⟨_, _, _, (1 : Int32), X376, e376, N325, K325, f381, f377, f327, V325, own_fin (j := (1 : Int32)) (v := 1) (by decide) (own_lo (by decide) hj287 hc m1) ((w1.2.2.1.2.1 (by decide)).mp q2), pre380⟩
      · skip
        obtain ⟨cl382, Ar382, q382, S382, M382, H382, U382⟩ := id f327
        have pre383 := fun (τ : State) kt => pre379 τ (by
          show Steps p.tables e below (T376.setTop (mkF m 44 #[.val (.ref a), .val (.ref b), .val (.ref r), .val (.int (1 : Int32)), .val (.int (1 : Int32))] [(.int (cmpValue (FP.dcmp (FP.i2d t2) (FP.dadd (FP.dadd (FP.i2d t1) en) (4472406533629990549 : UInt64))) .g))])) τ
          refine XS.ifNo X376.here hx rfl (Jvm.hb hby d3_44) rfl ((if0 _ _).trans (flt q2).2.2.1) ?_
          refine XS.iinc X376.here hx rfl (Jvm.hb hby d3_47) rfl (l' := #[.val (.ref a), .val (.ref b), .val (.ref r), .val (.int (2 : Int32)), .val (.int (1 : Int32))]) rfl ?_
          refine XS.goto X376.here hx rfl (pc0 := 50) (pc' := 17) rfl (Jvm.hb hby d3_50) (by decide) (by decide) ?_
          refine XS.iloadN X376.here hx rfl (Jvm.hb hby d3_17) rfl ?_
          refine XS.iconst X376.here hx rfl (Jvm.hb hby d3_18) ?_
          refine XS.iadd X376.here hx rfl (Jvm.hb hby d3_19) rfl ?_
          refine XS.aloadN X376.here hx rfl (Jvm.hb hby d3_20) rfl rfl ?_
          refine X376.arraylength hx ((congrArg (fun (HH : Heap) => HH[b]?) (e376 : T376.heap = h325)).trans Ar382.1) (State.isArrayOf_alike hZ.alike Ar382.2.1) (g := (mkF m 21 #[.val (.ref a), .val (.ref b), .val (.ref r), .val (.int (2 : Int32)), .val (.int (1 : Int32))] [(.ref b), (.int (3 : Int32))])) rfl rfl (Jvm.hb hby d3_21) _ ?_
          exact kt)
        have pre384 : ∀ τ, Steps p.tables e below (T376.setTop (mkF m 22 #[.val (.ref a), .val (.ref b), .val (.ref r), .val (.int (2 : Int32)), .val (.int (1 : Int32))] [(.int (4 : Int32)), (.int (3 : Int32))])) τ → PS τ := by
          have hq := pre383
          rw [len_of S382 M382] at hq
          exact hq
        obtain ⟨cl385, Ar385, q385, S385, M385, H385, U385⟩ := id f327
        have in385 : ¬ ((3 : Int32) < 0 ∨ cl385.slots.size ≤ ((3 : Int32)).toNatClampNeg) := inb_of S385 ⟨by decide, by decide⟩
        obtain ⟨cl386, Ar386, q386, S386, M386, H386, U386⟩ := id f327
        have in386 : ¬ ((1 : Int32) < 0 ∨ cl386.slots.size ≤ ((1 : Int32)).toNatClampNeg) := inb_of S386 ⟨by decide, by decide⟩
        obtain ⟨T387, X387, e387, st387⟩ := getF X376 hx hZ hown (host := "") (Or.inl (own_W16 hw)) Via.refl e376 f377 (g := (mkF m 35 #[.val (.ref a), .val (.ref b), .val (.ref r), .val (.int (2 : Int32)), .val (.int (1 : Int32))] [(.ref a), (.double (FP.i2d t1)), (.double (FP.i2d t3))])) rfl rfl (Jvm.hb hby d3_35)
        have pre388 := fun (τ : State) kt => pre384 τ (by
          show Steps p.tables e below (T376.setTop (mkF m 22 #[.val (.ref a), .val (.ref b), .val (.ref r), .val (.int (2 : Int32)), .val (.int (1 : Int32))] [(.int (4 : Int32)), (.int (3 : Int32))])) τ
          refine XS.icmpNo X376.here hx rfl (Jvm.hb hby d3_22) rfl (tlt (by decide)).2.1 ?_
          refine XS.aloadN X376.here hx rfl (Jvm.hb hby d3_25) rfl rfl ?_
          refine XS.iloadN X376.here hx rfl (Jvm.hb hby d3_26) rfl ?_
          refine XS.iconst X376.here hx rfl (Jvm.hb hby d3_27) ?_
          refine XS.iadd X376.here hx rfl (Jvm.hb hby d3_28) rfl ?_
          refine X376.daload hx ((congrArg (fun (HH : Heap) => HH[b]?) (e376 : T376.heap = h325)).trans Ar385.1) (State.isArrayOf_alike hZ.alike Ar385.2.1) Ar385.2.2 in385 (H385.at in385 rfl) (g := (mkF m 29 #[.val (.ref a), .val (.ref b), .val (.ref r), .val (.int (2 : Int32)), .val (.int (1 : Int32))] [(.int (3 : Int32)), (.ref b)])) rfl rfl (Jvm.hb hby d3_29) _ ?_
          refine XS.aloadN X376.here hx rfl (Jvm.hb hby d3_30) rfl rfl ?_
          refine XS.iload X376.here hx rfl (Jvm.hb hby d3_31) rfl ?_
          refine X376.daload hx ((congrArg (fun (HH : Heap) => HH[b]?) (e376 : T376.heap = h325)).trans Ar386.1) (State.isArrayOf_alike hZ.alike Ar386.2.1) Ar386.2.2 in386 (H386.at in386 rfl) (g := (mkF m 33 #[.val (.ref a), .val (.ref b), .val (.ref r), .val (.int (2 : Int32)), .val (.int (1 : Int32))] [(.int (1 : Int32)), (.ref b), (.double (FP.i2d t3))])) rfl rfl (Jvm.hb hby d3_33) _ ?_
          refine XS.aloadN X376.here hx rfl (Jvm.hb hby d3_34) rfl rfl ?_
          exact st387 τ kt)
        have pre389 := fun (τ : State) kt => pre388 τ (by
          show Steps p.tables e below (T387.setTop (mkF m 38 #[.val (.ref a), .val (.ref b), .val (.ref r), .val (.int (2 : Int32)), .val (.int (1 : Int32))] [(.double en), (.double (FP.i2d t1)), (.double (FP.i2d t3))])) τ
          refine own_dadd X387.here hx rfl (Jvm.hb hby d3_38) rfl (w1.2.1.1) ?_
          refine X387.ldc2DoubleC hx hown (mvT hZ (own_W27 hw)) (g := (mkF m 39 #[.val (.ref a), .val (.ref b), .val (.ref r), .val (.int (2 : Int32)), .val (.int (1 : Int32))] [(.double (FP.dadd (FP.i2d t1) en)), (.double (FP.i2d t3))])) rfl (Jvm.hb hby d3_39) _ ?_
          refine own_dadd X387.here hx rfl (Jvm.hb hby d3_42) rfl (w1.2.1.2) ?_
          refine own_dcmp X387.here hx rfl (Jvm.hb hby d3_43) rfl ?_
          exact kt)
        by_cases q3 : (0 : Int32) < (cmpValue (FP.dcmp (FP.i2d t3) (FP.dadd (FP.dadd (FP.i2d t1) en) (4472406533629990549 : UInt64))) .g)
        · skip
          have pre390 := fun (τ : State) kt => pre389 τ (by
            show Steps p.tables e below (T387.setTop (mkF m 44 #[.val (.ref a), .val (.ref b), .val (.ref r), .val (.int (2 : Int32)), .val (.int (1 : Int32))] [(.int (cmpValue (FP.dcmp (FP.i2d t3) (FP.dadd (FP.dadd (FP.i2d t1) en) (4472406533629990549 : UInt64))) .g))])) τ
            refine XS.ifYes X387.here hx rfl (pc0 := 44) (pc' := 53) rfl (Jvm.hb hby d3_44) rfl ((if0 _ _).trans (tlt q3).2.2.1) (by decide) (by decide) ?_
            exact kt)
          have f391 := j287_0.wr W325
          exact ⟨_, _, _, (2 : Int32), X387, e387, N325, K325, f391, f377, f327, V325, own_fin (j := (2 : Int32)) (v := 2) (by decide) (Int.not_lt.mp (fun z => q2 ((w1.2.2.1.2.1 (by decide)).mpr z))) ((w1.2.2.1.2.2 (by decide)).mp q3), pre390⟩
        · skip
          obtain ⟨cl392, Ar392, q392, S392, M392, H392, U392⟩ := id f327
          have pre393 := fun (τ : State) kt => pre389 τ (by
            show Steps p.tables e below (T387.setTop (mkF m 44 #[.val (.ref a), .val (.ref b), .val (.ref r), .val (.int (2 : Int32)), .val (.int (1 : Int32))] [(.int (cmpValue (FP.dcmp (FP.i2d t3) (FP.dadd (FP.dadd (FP.i2d t1) en) (4472406533629990549 : UInt64))) .g))])) τ
            refine XS.ifNo X387.here hx rfl (Jvm.hb hby d3_44) rfl ((if0 _ _).trans (flt q3).2.2.1) ?_
            refine XS.iinc X387.here hx rfl (Jvm.hb hby d3_47) rfl (l' := #[.val (.ref a), .val (.ref b), .val (.ref r), .val (.int (3 : Int32)), .val (.int (1 : Int32))]) rfl ?_
            refine XS.goto X387.here hx rfl (pc0 := 50) (pc' := 17) rfl (Jvm.hb hby d3_50) (by decide) (by decide) ?_
            refine XS.iloadN X387.here hx rfl (Jvm.hb hby d3_17) rfl ?_
            refine XS.iconst X387.here hx rfl (Jvm.hb hby d3_18) ?_
            refine XS.iadd X387.here hx rfl (Jvm.hb hby d3_19) rfl ?_
            refine XS.aloadN X387.here hx rfl (Jvm.hb hby d3_20) rfl rfl ?_
            refine X387.arraylength hx ((congrArg (fun (HH : Heap) => HH[b]?) (e387 : T387.heap = h325)).trans Ar392.1) (State.isArrayOf_alike hZ.alike Ar392.2.1) (g := (mkF m 21 #[.val (.ref a), .val (.ref b), .val (.ref r), .val (.int (3 : Int32)), .val (.int (1 : Int32))] [(.ref b), (.int (4 : Int32))])) rfl rfl (Jvm.hb hby d3_21) _ ?_
            exact kt)
          have pre394 : ∀ τ, Steps p.tables e below (T387.setTop (mkF m 22 #[.val (.ref a), .val (.ref b), .val (.ref r), .val (.int (3 : Int32)), .val (.int (1 : Int32))] [(.int (4 : Int32)), (.int (4 : Int32))])) τ → PS τ := by
            have hq := pre393
            rw [len_of S392 M392] at hq
            exact hq
          have pre395 := fun (τ : State) kt => pre394 τ (by
            show Steps p.tables e below (T387.setTop (mkF m 22 #[.val (.ref a), .val (.ref b), .val (.ref r), .val (.int (3 : Int32)), .val (.int (1 : Int32))] [(.int (4 : Int32)), (.int (4 : Int32))])) τ
            refine XS.icmpYes X387.here hx rfl (pc0 := 22) (pc' := 53) rfl (Jvm.hb hby d3_22) rfl (flt (by decide)).2.1 (by decide) (by decide) ?_
            exact kt)
          have f396 := j287_0.wr W325
          exact ⟨_, _, _, (3 : Int32), X387, e387, N325, K325, f396, f377, f327, V325, own_fin (j := (3 : Int32)) (v := 3) (by decide) (Int.not_lt.mp (fun z => q3 ((w1.2.2.1.2.2 (by decide)).mpr z))) (by have := w1.1.2; omega), pre395⟩
    · skip
      have pre397 : ∀ τ, Steps p.tables e below (T325.setTop (mkF m 17 #[.val (.ref a), .val (.ref b), .val (.ref r), .val (.int (2 : Int32)), .val (.int (1 : Int32))] [])) τ → PS τ := by have hq := pre331; rw [hc] at hq; exact hq
      obtain ⟨cl398, Ar398, q398, S398, M398, H398, U398⟩ := id f327
      have pre399 := fun (τ : State) kt => pre397 τ (by
        show Steps p.tables e below (T325.setTop (mkF m 17 #[.val (.ref a), .val (.ref b), .val (.ref r), .val (.int (2 : Int32)), .val (.int (1 : Int32))] [])) τ
        refine XS.iloadN X325.here hx rfl (Jvm.hb hby d3_17) rfl ?_
        refine XS.iconst X325.here hx rfl (Jvm.hb hby d3_18) ?_
        refine XS.iadd X325.here hx rfl (Jvm.hb hby d3_19) rfl ?_
        refine XS.aloadN X325.here hx rfl (Jvm.hb hby d3_20) rfl rfl ?_
        refine X325.arraylength hx ((congrArg (fun (HH : Heap) => HH[b]?) (e325 : T325.heap = h325)).trans Ar398.1) (State.isArrayOf_alike hZ.alike Ar398.2.1) (g := (mkF m 21 #[.val (.ref a), .val (.ref b), .val (.ref r), .val (.int (2 : Int32)), .val (.int (1 : Int32))] [(.ref b), (.int (3 : Int32))])) rfl rfl (Jvm.hb hby d3_21) _ ?_
        exact kt)
      have pre400 : ∀ τ, Steps p.tables e below (T325.setTop (mkF m 22 #[.val (.ref a), .val (.ref b), .val (.ref r), .val (.int (2 : Int32)), .val (.int (1 : Int32))] [(.int (4 : Int32)), (.int (3 : Int32))])) τ → PS τ := by
        have hq := pre399
        rw [len_of S398 M398] at hq
        exact hq
      obtain ⟨cl401, Ar401, q401, S401, M401, H401, U401⟩ := id f327
      have in401 : ¬ ((3 : Int32) < 0 ∨ cl401.slots.size ≤ ((3 : Int32)).toNatClampNeg) := inb_of S401 ⟨by decide, by decide⟩
      obtain ⟨cl402, Ar402, q402, S402, M402, H402, U402⟩ := id f327
      have in402 : ¬ ((1 : Int32) < 0 ∨ cl402.slots.size ≤ ((1 : Int32)).toNatClampNeg) := inb_of S402 ⟨by decide, by decide⟩
      have f404 := (j287_1.other W325 (Or.inl ne_a_r))
      obtain ⟨T403, X403, e403, st403⟩ := getF X325 hx hZ hown (host := "") (Or.inl (own_W16 hw)) Via.refl e325 f404 (g := (mkF m 35 #[.val (.ref a), .val (.ref b), .val (.ref r), .val (.int (2 : Int32)), .val (.int (1 : Int32))] [(.ref a), (.double (FP.i2d t1)), (.double (FP.i2d t3))])) rfl rfl (Jvm.hb hby d3_35)
      have pre405 := fun (τ : State) kt => pre400 τ (by
        show Steps p.tables e below (T325.setTop (mkF m 22 #[.val (.ref a), .val (.ref b), .val (.ref r), .val (.int (2 : Int32)), .val (.int (1 : Int32))] [(.int (4 : Int32)), (.int (3 : Int32))])) τ
        refine XS.icmpNo X325.here hx rfl (Jvm.hb hby d3_22) rfl (tlt (by decide)).2.1 ?_
        refine XS.aloadN X325.here hx rfl (Jvm.hb hby d3_25) rfl rfl ?_
        refine XS.iloadN X325.here hx rfl (Jvm.hb hby d3_26) rfl ?_
        refine XS.iconst X325.here hx rfl (Jvm.hb hby d3_27) ?_
        refine XS.iadd X325.here hx rfl (Jvm.hb hby d3_28) rfl ?_
        refine X325.daload hx ((congrArg (fun (HH : Heap) => HH[b]?) (e325 : T325.heap = h325)).trans Ar401.1) (State.isArrayOf_alike hZ.alike Ar401.2.1) Ar401.2.2 in401 (H401.at in401 rfl) (g := (mkF m 29 #[.val (.ref a), .val (.ref b), .val (.ref r), .val (.int (2 : Int32)), .val (.int (1 : Int32))] [(.int (3 : Int32)), (.ref b)])) rfl rfl (Jvm.hb hby d3_29) _ ?_
        refine XS.aloadN X325.here hx rfl (Jvm.hb hby d3_30) rfl rfl ?_
        refine XS.iload X325.here hx rfl (Jvm.hb hby d3_31) rfl ?_
        refine X325.daload hx ((congrArg (fun (HH : Heap) => HH[b]?) (e325 : T325.heap = h325)).trans Ar402.1) (State.isArrayOf_alike hZ.alike Ar402.2.1) Ar402.2.2 in402 (H402.at in402 rfl) (g := (mkF m 33 #[.val (.ref a), .val (.ref b), .val (.ref r), .val (.int (2 : Int32)), .val (.int (1 : Int32))] [(.int (1 : Int32)), (.ref b), (.double (FP.i2d t3))])) rfl rfl (Jvm.hb hby d3_33) _ ?_
        refine XS.aloadN X325.here hx rfl (Jvm.hb hby d3_34) rfl rfl ?_
        exact st403 τ kt)
      have pre406 := fun (τ : State) kt => pre405 τ (by
        show Steps p.tables e below (T403.setTop (mkF m 38 #[.val (.ref a), .val (.ref b), .val (.ref r), .val (.int (2 : Int32)), .val (.int (1 : Int32))] [(.double en), (.double (FP.i2d t1)), (.double (FP.i2d t3))])) τ
        refine own_dadd X403.here hx rfl (Jvm.hb hby d3_38) rfl (w1.2.1.1) ?_
        refine X403.ldc2DoubleC hx hown (mvT hZ (own_W27 hw)) (g := (mkF m 39 #[.val (.ref a), .val (.ref b), .val (.ref r), .val (.int (2 : Int32)), .val (.int (1 : Int32))] [(.double (FP.dadd (FP.i2d t1) en)), (.double (FP.i2d t3))])) rfl (Jvm.hb hby d3_39) _ ?_
        refine own_dadd X403.here hx rfl (Jvm.hb hby d3_42) rfl (w1.2.1.2) ?_
        refine own_dcmp X403.here hx rfl (Jvm.hb hby d3_43) rfl ?_
        exact kt)
      by_cases q3 : (0 : Int32) < (cmpValue (FP.dcmp (FP.i2d t3) (FP.dadd (FP.dadd (FP.i2d t1) en) (4472406533629990549 : UInt64))) .g)
      · skip
        have pre407 := fun (τ : State) kt => pre406 τ (by
          show Steps p.tables e below (T403.setTop (mkF m 44 #[.val (.ref a), .val (.ref b), .val (.ref r), .val (.int (2 : Int32)), .val (.int (1 : Int32))] [(.int (cmpValue (FP.dcmp (FP.i2d t3) (FP.dadd (FP.dadd (FP.i2d t1) en) (4472406533629990549 : UInt64))) .g))])) τ
          refine XS.ifYes X403.here hx rfl (pc0 := 44) (pc' := 53) rfl (Jvm.hb hby d3_44) rfl ((if0 _ _).trans (tlt q3).2.2.1) (by decide) (by decide) ?_
          exact kt)
        have f408 := j287_0.wr W325
        exact ⟨_, _, _, (2 : Int32), X403, e403, N325, K325, f408, f404, f327, V325, own_fin (j := (2 : Int32)) (v := 2) (by decide) (own_lo (by decide) hj287 hc m1) ((w1.2.2.1.2.2 (by decide)).mp q3), pre407⟩
      · skip
        obtain ⟨cl409, Ar409, q409, S409, M409, H409, U409⟩ := id f327
        have pre410 := fun (τ : State) kt => pre406 τ (by
          show Steps p.tables e below (T403.setTop (mkF m 44 #[.val (.ref a), .val (.ref b), .val (.ref r), .val (.int (2 : Int32)), .val (.int (1 : Int32))] [(.int (cmpValue (FP.dcmp (FP.i2d t3) (FP.dadd (FP.dadd (FP.i2d t1) en) (4472406533629990549 : UInt64))) .g))])) τ
          refine XS.ifNo X403.here hx rfl (Jvm.hb hby d3_44) rfl ((if0 _ _).trans (flt q3).2.2.1) ?_
          refine XS.iinc X403.here hx rfl (Jvm.hb hby d3_47) rfl (l' := #[.val (.ref a), .val (.ref b), .val (.ref r), .val (.int (3 : Int32)), .val (.int (1 : Int32))]) rfl ?_
          refine XS.goto X403.here hx rfl (pc0 := 50) (pc' := 17) rfl (Jvm.hb hby d3_50) (by decide) (by decide) ?_
          refine XS.iloadN X403.here hx rfl (Jvm.hb hby d3_17) rfl ?_
          refine XS.iconst X403.here hx rfl (Jvm.hb hby d3_18) ?_
          refine XS.iadd X403.here hx rfl (Jvm.hb hby d3_19) rfl ?_
          refine XS.aloadN X403.here hx rfl (Jvm.hb hby d3_20) rfl rfl ?_
          refine X403.arraylength hx ((congrArg (fun (HH : Heap) => HH[b]?) (e403 : T403.heap = h325)).trans Ar409.1) (State.isArrayOf_alike hZ.alike Ar409.2.1) (g := (mkF m 21 #[.val (.ref a), .val (.ref b), .val (.ref r), .val (.int (3 : Int32)), .val (.int (1 : Int32))] [(.ref b), (.int (4 : Int32))])) rfl rfl (Jvm.hb hby d3_21) _ ?_
          exact kt)
        have pre411 : ∀ τ, Steps p.tables e below (T403.setTop (mkF m 22 #[.val (.ref a), .val (.ref b), .val (.ref r), .val (.int (3 : Int32)), .val (.int (1 : Int32))] [(.int (4 : Int32)), (.int (4 : Int32))])) τ → PS τ := by
          have hq := pre410
          rw [len_of S409 M409] at hq
          exact hq
        have pre412 := fun (τ : State) kt => pre411 τ (by
          show Steps p.tables e below (T403.setTop (mkF m 22 #[.val (.ref a), .val (.ref b), .val (.ref r), .val (.int (3 : Int32)), .val (.int (1 : Int32))] [(.int (4 : Int32)), (.int (4 : Int32))])) τ
          refine XS.icmpYes X403.here hx rfl (pc0 := 22) (pc' := 53) rfl (Jvm.hb hby d3_22) rfl (flt (by decide)).2.1 (by decide) (by decide) ?_
          exact kt)
        have f413 := j287_0.wr W325
        exact ⟨_, _, _, (3 : Int32), X403, e403, N325, K325, f413, f404, f327, V325, own_fin (j := (3 : Int32)) (v := 3) (by decide) (Int.not_lt.mp (fun z => q3 ((w1.2.2.1.2.2 (by decide)).mpr z))) (by have := w1.1.2; omega), pre412⟩
    · skip
      have pre414 : ∀ τ, Steps p.tables e below (T325.setTop (mkF m 17 #[.val (.ref a), .val (.ref b), .val (.ref r), .val (.int (3 : Int32)), .val (.int (1 : Int32))] [])) τ → PS τ := by have hq := pre331; rw [hc] at hq; exact hq
      obtain ⟨cl415, Ar415, q415, S415, M415, H415, U415⟩ := id f327
      have pre416 := fun (τ : State) kt => pre414 τ (by
        show Steps p.tables e below (T325.setTop (mkF m 17 #[.val (.ref a), .val (.ref b), .val (.ref r), .val (.int (3 : Int32)), .val (.int (1 : Int32))] [])) τ
        refine XS.iloadN X325.here hx rfl (Jvm.hb hby d3_17) rfl ?_
        refine XS.iconst X325.here hx rfl (Jvm.hb hby d3_18) ?_
        refine XS.iadd X325.here hx rfl (Jvm.hb hby d3_19) rfl ?_
        refine XS.aloadN X325.here hx rfl (Jvm.hb hby d3_20) rfl rfl ?_
        refine X325.arraylength hx ((congrArg (fun (HH : Heap) => HH[b]?) (e325 : T325.heap = h325)).trans Ar415.1) (State.isArrayOf_alike hZ.alike Ar415.2.1) (g := (mkF m 21 #[.val (.ref a), .val (.ref b), .val (.ref r), .val (.int (3 : Int32)), .val (.int (1 : Int32))] [(.ref b), (.int (4 : Int32))])) rfl rfl (Jvm.hb hby d3_21) _ ?_
        exact kt)
      have pre417 : ∀ τ, Steps p.tables e below (T325.setTop (mkF m 22 #[.val (.ref a), .val (.ref b), .val (.ref r), .val (.int (3 : Int32)), .val (.int (1 : Int32))] [(.int (4 : Int32)), (.int (4 : Int32))])) τ → PS τ := by
        have hq := pre416
        rw [len_of S415 M415] at hq
        exact hq
      have pre418 := fun (τ : State) kt => pre417 τ (by
        show Steps p.tables e below (T325.setTop (mkF m 22 #[.val (.ref a), .val (.ref b), .val (.ref r), .val (.int (3 : Int32)), .val (.int (1 : Int32))] [(.int (4 : Int32)), (.int (4 : Int32))])) τ
        refine XS.icmpYes X325.here hx rfl (pc0 := 22) (pc' := 53) rfl (Jvm.hb hby d3_22) rfl (flt (by decide)).2.1 (by decide) (by decide) ?_
        exact kt)
      have f419 := j287_0.wr W325
      have f420 := (j287_1.other W325 (Or.inl ne_a_r))
      exact ⟨_, _, _, (3 : Int32), X325, e325, N325, K325, f419, f420, f327, V325, own_fin (j := (3 : Int32)) (v := 3) (by decide) (own_lo (by decide) hj287 hc m1) (by have := w1.1.2; omega), pre418⟩
  obtain ⟨cl421, Ar421, q421, S421, M421, H421, U421⟩ := id j332_3
  obtain ⟨T422, h422, X422, e422, W422, st422⟩ := stI X332 hx hZ e332 Ar421 (j := (1 : Int32)) (inb_of S421 ⟨by decide, by decide⟩) (g := (mkF m 57 #[.val (.ref a), .val (.ref b), .val (.ref r), .val (.int j1), .val (.int (1 : Int32))] [(.int j1), (.int (1 : Int32)), (.ref r)])) rfl rfl (Jvm.hb hby d3_57)
  have V422 : Arv Z h422 r k280 .int (4 : Int32) [(.int j0), (.int j1), (.int (0 : Int32)), (.int (0 : Int32))] (.int (0 : Int32)) := Arv.set Ar421 q421 S421 M421 H421 U421 rfl W422 1 rfl (Nat.le_of_ble_eq_true rfl)
  have N422 := Fr.snoc X422 N332 g_r
  have K422 : Keep h0 h422 [] := K332.wr W422 (Or.inr sz_r)
  have pre423 := fun (τ : State) kt => pre332 τ (by
    show Steps p.tables e below (T332.setTop (mkF m 53 #[.val (.ref a), .val (.ref b), .val (.ref r), .val (.int j1), .val (.int (1 : Int32))] [])) τ
    refine XS.aloadN X332.here hx rfl (Jvm.hb hby d3_53) rfl rfl ?_
    refine XS.iload X332.here hx rfl (Jvm.hb hby d3_54) rfl ?_
    refine XS.iloadN X332.here hx rfl (Jvm.hb hby d3_56) rfl ?_
    exact st422 τ kt)
  have f424 := j332_2.other W422 ne_b_r
  obtain ⟨cl425, Ar425, q425, S425, M425, H425, U425⟩ := id f424
  have pre426 := fun (τ : State) kt => pre423 τ (by
    show Steps p.tables e below (T422.setTop (mkF m 58 #[.val (.ref a), .val (.ref b), .val (.ref r), .val (.int j1), .val (.int (1 : Int32))] [])) τ
    refine XS.iinc X422.here hx rfl (Jvm.hb hby d3_58) rfl (l' := #[.val (.ref a), .val (.ref b), .val (.ref r), .val (.int j1), .val (.int (2 : Int32))]) rfl ?_
    refine XS.goto X422.here hx rfl (pc0 := 61) (pc' := 10) rfl (Jvm.hb hby d3_61) (by decide) (by decide) ?_
    refine XS.iload X422.here hx rfl (Jvm.hb hby d3_10) rfl ?_
    refine XS.aloadN X422.here hx rfl (Jvm.hb hby d3_12) rfl rfl ?_
    refine X422.arraylength hx ((congrArg (fun (HH : Heap) => HH[b]?) (e422 : T422.heap = h422)).trans Ar425.1) (State.isArrayOf_alike hZ.alike Ar425.2.1) (g := (mkF m 13 #[.val (.ref a), .val (.ref b), .val (.ref r), .val (.int j1), .val (.int (2 : Int32))] [(.ref b), (.int (2 : Int32))])) rfl rfl (Jvm.hb hby d3_13) _ ?_
    exact kt)
  have pre427 : ∀ τ, Steps p.tables e below (T422.setTop (mkF m 14 #[.val (.ref a), .val (.ref b), .val (.ref r), .val (.int j1), .val (.int (2 : Int32))] [(.int (4 : Int32)), (.int (2 : Int32))])) τ → PS τ := by
    have hq := pre426
    rw [len_of S425 M425] at hq
    exact hq
  have pre428 := fun (τ : State) kt => pre427 τ (by
    show Steps p.tables e below (T422.setTop (mkF m 14 #[.val (.ref a), .val (.ref b), .val (.ref r), .val (.int j1), .val (.int (2 : Int32))] [(.int (4 : Int32)), (.int (2 : Int32))])) τ
    refine XS.icmpNo X422.here hx rfl (Jvm.hb hby d3_14) rfl (tlt (by decide)).2.1 ?_
    exact kt)
  obtain ⟨T429, h429, Lj429, j2, X429, e429, N429, K429, j429_0, j429_1, j429_2, j429_3, hj429, pre429⟩ : ∃ (T429 : State) (h429 : Heap) (Lj : List Loc) (j2 : Int32), Stand p l e ({ frames := 0, cells := 1, slots := 4, locals := 0 } : Room) s m #[(.ref a), (.ref b)] below meth c T429 Lj (1) (4) ∧ T429.heap = h429 ∧ Fr n0 Lj ∧ Keep h0 h429 [] ∧ Exa Z h429 a "com/example/counterpath/counterpath/core/Window" ∧ Fld Z h429 a "com/example/counterpath/counterpath/core/Window" "end" "D" (.double en) ∧ Arv Z h429 b kb .double (4 : Int32) [(.double (FP.i2d t0)), (.double (FP.i2d t1)), (.double (FP.i2d t2)), (.double (FP.i2d t3))] (.double (0 : UInt64)) ∧ Arv Z h429 r k280 .int (4 : Int32) [(.int j0), (.int j1), (.int (0 : Int32)), (.int (0 : Int32))] (.int (0 : Int32)) ∧ (j2 = lx2) ∧ ∀ τ, Steps p.tables e below (T429.setTop (mkF m 53 #[.val (.ref a), .val (.ref b), .val (.ref r), .val (.int j2), .val (.int (2 : Int32))] [])) τ → PS τ := by
    rcases (own_c4 (x := j1) (by rw [hj332]; exact w1.1.1) (by rw [hj332]; exact w1.1.2)) with hc | hc | hc | hc
    · skip
      have pre430 : ∀ τ, Steps p.tables e below (T422.setTop (mkF m 17 #[.val (.ref a), .val (.ref b), .val (.ref r), .val (.int (0 : Int32)), .val (.int (2 : Int32))] [])) τ → PS τ := by have hq := pre428; rw [hc] at hq; exact hq
      obtain ⟨cl431, Ar431, q431, S431, M431, H431, U431⟩ := id f424
      have pre432 := fun (τ : State) kt => pre430 τ (by
        show Steps p.tables e below (T422.setTop (mkF m 17 #[.val (.ref a), .val (.ref b), .val (.ref r), .val (.int (0 : Int32)), .val (.int (2 : Int32))] [])) τ
        refine XS.iloadN X422.here hx rfl (Jvm.hb hby d3_17) rfl ?_
        refine XS.iconst X422.here hx rfl (Jvm.hb hby d3_18) ?_
        refine XS.iadd X422.here hx rfl (Jvm.hb hby d3_19) rfl ?_
        refine XS.aloadN X422.here hx rfl (Jvm.hb hby d3_20) rfl rfl ?_
        refine X422.arraylength hx ((congrArg (fun (HH : Heap) => HH[b]?) (e422 : T422.heap = h422)).trans Ar431.1) (State.isArrayOf_alike hZ.alike Ar431.2.1) (g := (mkF m 21 #[.val (.ref a), .val (.ref b), .val (.ref r), .val (.int (0 : Int32)), .val (.int (2 : Int32))] [(.ref b), (.int (1 : Int32))])) rfl rfl (Jvm.hb hby d3_21) _ ?_
        exact kt)
      have pre433 : ∀ τ, Steps p.tables e below (T422.setTop (mkF m 22 #[.val (.ref a), .val (.ref b), .val (.ref r), .val (.int (0 : Int32)), .val (.int (2 : Int32))] [(.int (4 : Int32)), (.int (1 : Int32))])) τ → PS τ := by
        have hq := pre432
        rw [len_of S431 M431] at hq
        exact hq
      obtain ⟨cl434, Ar434, q434, S434, M434, H434, U434⟩ := id f424
      have in434 : ¬ ((1 : Int32) < 0 ∨ cl434.slots.size ≤ ((1 : Int32)).toNatClampNeg) := inb_of S434 ⟨by decide, by decide⟩
      obtain ⟨cl435, Ar435, q435, S435, M435, H435, U435⟩ := id f424
      have in435 : ¬ ((2 : Int32) < 0 ∨ cl435.slots.size ≤ ((2 : Int32)).toNatClampNeg) := inb_of S435 ⟨by decide, by decide⟩
      have f437 := (j332_1.other W422 (Or.inl ne_a_r))
      obtain ⟨T436, X436, e436, st436⟩ := getF X422 hx hZ hown (host := "") (Or.inl (own_W16 hw)) Via.refl e422 f437 (g := (mkF m 35 #[.val (.ref a), .val (.ref b), .val (.ref r), .val (.int (0 : Int32)), .val (.int (2 : Int32))] [(.ref a), (.double (FP.i2d t2)), (.double (FP.i2d t1))])) rfl rfl (Jvm.hb hby d3_35)
      have pre438 := fun (τ : State) kt => pre433 τ (by
        show Steps p.tables e below (T422.setTop (mkF m 22 #[.val (.ref a), .val (.ref b), .val (.ref r), .val (.int (0 : Int32)), .val (.int (2 : Int32))] [(.int (4 : Int32)), (.int (1 : Int32))])) τ
        refine XS.icmpNo X422.here hx rfl (Jvm.hb hby d3_22) rfl (tlt (by decide)).2.1 ?_
        refine XS.aloadN X422.here hx rfl (Jvm.hb hby d3_25) rfl rfl ?_
        refine XS.iloadN X422.here hx rfl (Jvm.hb hby d3_26) rfl ?_
        refine XS.iconst X422.here hx rfl (Jvm.hb hby d3_27) ?_
        refine XS.iadd X422.here hx rfl (Jvm.hb hby d3_28) rfl ?_
        refine X422.daload hx ((congrArg (fun (HH : Heap) => HH[b]?) (e422 : T422.heap = h422)).trans Ar434.1) (State.isArrayOf_alike hZ.alike Ar434.2.1) Ar434.2.2 in434 (H434.at in434 rfl) (g := (mkF m 29 #[.val (.ref a), .val (.ref b), .val (.ref r), .val (.int (0 : Int32)), .val (.int (2 : Int32))] [(.int (1 : Int32)), (.ref b)])) rfl rfl (Jvm.hb hby d3_29) _ ?_
        refine XS.aloadN X422.here hx rfl (Jvm.hb hby d3_30) rfl rfl ?_
        refine XS.iload X422.here hx rfl (Jvm.hb hby d3_31) rfl ?_
        refine X422.daload hx ((congrArg (fun (HH : Heap) => HH[b]?) (e422 : T422.heap = h422)).trans Ar435.1) (State.isArrayOf_alike hZ.alike Ar435.2.1) Ar435.2.2 in435 (H435.at in435 rfl) (g := (mkF m 33 #[.val (.ref a), .val (.ref b), .val (.ref r), .val (.int (0 : Int32)), .val (.int (2 : Int32))] [(.int (2 : Int32)), (.ref b), (.double (FP.i2d t1))])) rfl rfl (Jvm.hb hby d3_33) _ ?_
        refine XS.aloadN X422.here hx rfl (Jvm.hb hby d3_34) rfl rfl ?_
        exact st436 τ kt)
      have pre439 := fun (τ : State) kt => pre438 τ (by
        show Steps p.tables e below (T436.setTop (mkF m 38 #[.val (.ref a), .val (.ref b), .val (.ref r), .val (.int (0 : Int32)), .val (.int (2 : Int32))] [(.double en), (.double (FP.i2d t2)), (.double (FP.i2d t1))])) τ
        refine own_dadd X436.here hx rfl (Jvm.hb hby d3_38) rfl (w2.2.1.1) ?_
        refine X436.ldc2DoubleC hx hown (mvT hZ (own_W27 hw)) (g := (mkF m 39 #[.val (.ref a), .val (.ref b), .val (.ref r), .val (.int (0 : Int32)), .val (.int (2 : Int32))] [(.double (FP.dadd (FP.i2d t2) en)), (.double (FP.i2d t1))])) rfl (Jvm.hb hby d3_39) _ ?_
        refine own_dadd X436.here hx rfl (Jvm.hb hby d3_42) rfl (w2.2.1.2) ?_
        refine own_dcmp X436.here hx rfl (Jvm.hb hby d3_43) rfl ?_
        exact kt)
      by_cases q1 : (0 : Int32) < (cmpValue (FP.dcmp (FP.i2d t1) (FP.dadd (FP.dadd (FP.i2d t2) en) (4472406533629990549 : UInt64))) .g)
      · skip
        have pre440 := fun (τ : State) kt => pre439 τ (by
          show Steps p.tables e below (T436.setTop (mkF m 44 #[.val (.ref a), .val (.ref b), .val (.ref r), .val (.int (0 : Int32)), .val (.int (2 : Int32))] [(.int (cmpValue (FP.dcmp (FP.i2d t1) (FP.dadd (FP.dadd (FP.i2d t2) en) (4472406533629990549 : UInt64))) .g))])) τ
          refine XS.ifYes X436.here hx rfl (pc0 := 44) (pc' := 53) rfl (Jvm.hb hby d3_44) rfl ((if0 _ _).trans (tlt q1).2.2.1) (by decide) (by decide) ?_
          exact kt)
        have f441 := j332_0.wr W422
        exact ⟨_, _, _, (0 : Int32), X436, e436, N422, K422, f441, f437, f424, V422, own_fin (j := (0 : Int32)) (v := 0) (by decide) (own_lo (by decide) hj332 hc m2) ((w2.2.2.1.1 (by decide)).mp q1), pre440⟩
      · skip
        obtain ⟨cl442, Ar442, q442, S442, M442, H442, U442⟩ := id f424
        have pre443 := fun (τ : State) kt => pre439 τ (by
          show Steps p.tables e below (T436.setTop (mkF m 44 #[.val (.ref a), .val (.ref b), .val (.ref r), .val (.int (0 : Int32)), .val (.int (2 : Int32))] [(.int (cmpValue (FP.dcmp (FP.i2d t1) (FP.dadd (FP.dadd (FP.i2d t2) en) (4472406533629990549 : UInt64))) .g))])) τ
          refine XS.ifNo X436.here hx rfl (Jvm.hb hby d3_44) rfl ((if0 _ _).trans (flt q1).2.2.1) ?_
          refine XS.iinc X436.here hx rfl (Jvm.hb hby d3_47) rfl (l' := #[.val (.ref a), .val (.ref b), .val (.ref r), .val (.int (1 : Int32)), .val (.int (2 : Int32))]) rfl ?_
          refine XS.goto X436.here hx rfl (pc0 := 50) (pc' := 17) rfl (Jvm.hb hby d3_50) (by decide) (by decide) ?_
          refine XS.iloadN X436.here hx rfl (Jvm.hb hby d3_17) rfl ?_
          refine XS.iconst X436.here hx rfl (Jvm.hb hby d3_18) ?_
          refine XS.iadd X436.here hx rfl (Jvm.hb hby d3_19) rfl ?_
          refine XS.aloadN X436.here hx rfl (Jvm.hb hby d3_20) rfl rfl ?_
          refine X436.arraylength hx ((congrArg (fun (HH : Heap) => HH[b]?) (e436 : T436.heap = h422)).trans Ar442.1) (State.isArrayOf_alike hZ.alike Ar442.2.1) (g := (mkF m 21 #[.val (.ref a), .val (.ref b), .val (.ref r), .val (.int (1 : Int32)), .val (.int (2 : Int32))] [(.ref b), (.int (2 : Int32))])) rfl rfl (Jvm.hb hby d3_21) _ ?_
          exact kt)
        have pre444 : ∀ τ, Steps p.tables e below (T436.setTop (mkF m 22 #[.val (.ref a), .val (.ref b), .val (.ref r), .val (.int (1 : Int32)), .val (.int (2 : Int32))] [(.int (4 : Int32)), (.int (2 : Int32))])) τ → PS τ := by
          have hq := pre443
          rw [len_of S442 M442] at hq
          exact hq
        obtain ⟨cl445, Ar445, q445, S445, M445, H445, U445⟩ := id f424
        have in445 : ¬ ((2 : Int32) < 0 ∨ cl445.slots.size ≤ ((2 : Int32)).toNatClampNeg) := inb_of S445 ⟨by decide, by decide⟩
        obtain ⟨cl446, Ar446, q446, S446, M446, H446, U446⟩ := id f424
        have in446 : ¬ ((2 : Int32) < 0 ∨ cl446.slots.size ≤ ((2 : Int32)).toNatClampNeg) := inb_of S446 ⟨by decide, by decide⟩
        obtain ⟨T447, X447, e447, st447⟩ := getF X436 hx hZ hown (host := "") (Or.inl (own_W16 hw)) Via.refl e436 f437 (g := (mkF m 35 #[.val (.ref a), .val (.ref b), .val (.ref r), .val (.int (1 : Int32)), .val (.int (2 : Int32))] [(.ref a), (.double (FP.i2d t2)), (.double (FP.i2d t2))])) rfl rfl (Jvm.hb hby d3_35)
        have pre448 := fun (τ : State) kt => pre444 τ (by
          show Steps p.tables e below (T436.setTop (mkF m 22 #[.val (.ref a), .val (.ref b), .val (.ref r), .val (.int (1 : Int32)), .val (.int (2 : Int32))] [(.int (4 : Int32)), (.int (2 : Int32))])) τ
          refine XS.icmpNo X436.here hx rfl (Jvm.hb hby d3_22) rfl (tlt (by decide)).2.1 ?_
          refine XS.aloadN X436.here hx rfl (Jvm.hb hby d3_25) rfl rfl ?_
          refine XS.iloadN X436.here hx rfl (Jvm.hb hby d3_26) rfl ?_
          refine XS.iconst X436.here hx rfl (Jvm.hb hby d3_27) ?_
          refine XS.iadd X436.here hx rfl (Jvm.hb hby d3_28) rfl ?_
          refine X436.daload hx ((congrArg (fun (HH : Heap) => HH[b]?) (e436 : T436.heap = h422)).trans Ar445.1) (State.isArrayOf_alike hZ.alike Ar445.2.1) Ar445.2.2 in445 (H445.at in445 rfl) (g := (mkF m 29 #[.val (.ref a), .val (.ref b), .val (.ref r), .val (.int (1 : Int32)), .val (.int (2 : Int32))] [(.int (2 : Int32)), (.ref b)])) rfl rfl (Jvm.hb hby d3_29) _ ?_
          refine XS.aloadN X436.here hx rfl (Jvm.hb hby d3_30) rfl rfl ?_
          refine XS.iload X436.here hx rfl (Jvm.hb hby d3_31) rfl ?_
          refine X436.daload hx ((congrArg (fun (HH : Heap) => HH[b]?) (e436 : T436.heap = h422)).trans Ar446.1) (State.isArrayOf_alike hZ.alike Ar446.2.1) Ar446.2.2 in446 (H446.at in446 rfl) (g := (mkF m 33 #[.val (.ref a), .val (.ref b), .val (.ref r), .val (.int (1 : Int32)), .val (.int (2 : Int32))] [(.int (2 : Int32)), (.ref b), (.double (FP.i2d t2))])) rfl rfl (Jvm.hb hby d3_33) _ ?_
          refine XS.aloadN X436.here hx rfl (Jvm.hb hby d3_34) rfl rfl ?_
          exact st447 τ kt)
        have pre449 := fun (τ : State) kt => pre448 τ (by
          show Steps p.tables e below (T447.setTop (mkF m 38 #[.val (.ref a), .val (.ref b), .val (.ref r), .val (.int (1 : Int32)), .val (.int (2 : Int32))] [(.double en), (.double (FP.i2d t2)), (.double (FP.i2d t2))])) τ
          refine own_dadd X447.here hx rfl (Jvm.hb hby d3_38) rfl (w2.2.1.1) ?_
          refine X447.ldc2DoubleC hx hown (mvT hZ (own_W27 hw)) (g := (mkF m 39 #[.val (.ref a), .val (.ref b), .val (.ref r), .val (.int (1 : Int32)), .val (.int (2 : Int32))] [(.double (FP.dadd (FP.i2d t2) en)), (.double (FP.i2d t2))])) rfl (Jvm.hb hby d3_39) _ ?_
          refine own_dadd X447.here hx rfl (Jvm.hb hby d3_42) rfl (w2.2.1.2) ?_
          refine own_dcmp X447.here hx rfl (Jvm.hb hby d3_43) rfl ?_
          exact kt)
        by_cases q2 : (0 : Int32) < (cmpValue (FP.dcmp (FP.i2d t2) (FP.dadd (FP.dadd (FP.i2d t2) en) (4472406533629990549 : UInt64))) .g)
        · skip
          have pre450 := fun (τ : State) kt => pre449 τ (by
            show Steps p.tables e below (T447.setTop (mkF m 44 #[.val (.ref a), .val (.ref b), .val (.ref r), .val (.int (1 : Int32)), .val (.int (2 : Int32))] [(.int (cmpValue (FP.dcmp (FP.i2d t2) (FP.dadd (FP.dadd (FP.i2d t2) en) (4472406533629990549 : UInt64))) .g))])) τ
            refine XS.ifYes X447.here hx rfl (pc0 := 44) (pc' := 53) rfl (Jvm.hb hby d3_44) rfl ((if0 _ _).trans (tlt q2).2.2.1) (by decide) (by decide) ?_
            exact kt)
          have f451 := j332_0.wr W422
          exact ⟨_, _, _, (1 : Int32), X447, e447, N422, K422, f451, f437, f424, V422, own_fin (j := (1 : Int32)) (v := 1) (by decide) (Int.not_lt.mp (fun z => q1 ((w2.2.2.1.1 (by decide)).mpr z))) ((w2.2.2.1.2.1 (by decide)).mp q2), pre450⟩
        · skip
          obtain ⟨cl452, Ar452, q452, S452, M452, H452, U452⟩ := id f424
          have pre453 := fun (τ : State) kt => pre449 τ (by
            show Steps p.tables e below (T447.setTop (mkF m 44 #[.val (.ref a), .val (.ref b), .val (.ref r), .val (.int (1 : Int32)), .val (.int (2 : Int32))] [(.int (cmpValue (FP.dcmp (FP.i2d t2) (FP.dadd (FP.dadd (FP.i2d t2) en) (4472406533629990549 : UInt64))) .g))])) τ
            refine XS.ifNo X447.here hx rfl (Jvm.hb hby d3_44) rfl ((if0 _ _).trans (flt q2).2.2.1) ?_
            refine XS.iinc X447.here hx rfl (Jvm.hb hby d3_47) rfl (l' := #[.val (.ref a), .val (.ref b), .val (.ref r), .val (.int (2 : Int32)), .val (.int (2 : Int32))]) rfl ?_
            refine XS.goto X447.here hx rfl (pc0 := 50) (pc' := 17) rfl (Jvm.hb hby d3_50) (by decide) (by decide) ?_
            refine XS.iloadN X447.here hx rfl (Jvm.hb hby d3_17) rfl ?_
            refine XS.iconst X447.here hx rfl (Jvm.hb hby d3_18) ?_
            refine XS.iadd X447.here hx rfl (Jvm.hb hby d3_19) rfl ?_
            refine XS.aloadN X447.here hx rfl (Jvm.hb hby d3_20) rfl rfl ?_
            refine X447.arraylength hx ((congrArg (fun (HH : Heap) => HH[b]?) (e447 : T447.heap = h422)).trans Ar452.1) (State.isArrayOf_alike hZ.alike Ar452.2.1) (g := (mkF m 21 #[.val (.ref a), .val (.ref b), .val (.ref r), .val (.int (2 : Int32)), .val (.int (2 : Int32))] [(.ref b), (.int (3 : Int32))])) rfl rfl (Jvm.hb hby d3_21) _ ?_
            exact kt)
          have pre454 : ∀ τ, Steps p.tables e below (T447.setTop (mkF m 22 #[.val (.ref a), .val (.ref b), .val (.ref r), .val (.int (2 : Int32)), .val (.int (2 : Int32))] [(.int (4 : Int32)), (.int (3 : Int32))])) τ → PS τ := by
            have hq := pre453
            rw [len_of S452 M452] at hq
            exact hq
          obtain ⟨cl455, Ar455, q455, S455, M455, H455, U455⟩ := id f424
          have in455 : ¬ ((3 : Int32) < 0 ∨ cl455.slots.size ≤ ((3 : Int32)).toNatClampNeg) := inb_of S455 ⟨by decide, by decide⟩
          obtain ⟨cl456, Ar456, q456, S456, M456, H456, U456⟩ := id f424
          have in456 : ¬ ((2 : Int32) < 0 ∨ cl456.slots.size ≤ ((2 : Int32)).toNatClampNeg) := inb_of S456 ⟨by decide, by decide⟩
          obtain ⟨T457, X457, e457, st457⟩ := getF X447 hx hZ hown (host := "") (Or.inl (own_W16 hw)) Via.refl e447 f437 (g := (mkF m 35 #[.val (.ref a), .val (.ref b), .val (.ref r), .val (.int (2 : Int32)), .val (.int (2 : Int32))] [(.ref a), (.double (FP.i2d t2)), (.double (FP.i2d t3))])) rfl rfl (Jvm.hb hby d3_35)
          have pre458 := fun (τ : State) kt => pre454 τ (by
            show Steps p.tables e below (T447.setTop (mkF m 22 #[.val (.ref a), .val (.ref b), .val (.ref r), .val (.int (2 : Int32)), .val (.int (2 : Int32))] [(.int (4 : Int32)), (.int (3 : Int32))])) τ
            refine XS.icmpNo X447.here hx rfl (Jvm.hb hby d3_22) rfl (tlt (by decide)).2.1 ?_
            refine XS.aloadN X447.here hx rfl (Jvm.hb hby d3_25) rfl rfl ?_
            refine XS.iloadN X447.here hx rfl (Jvm.hb hby d3_26) rfl ?_
            refine XS.iconst X447.here hx rfl (Jvm.hb hby d3_27) ?_
            refine XS.iadd X447.here hx rfl (Jvm.hb hby d3_28) rfl ?_
            refine X447.daload hx ((congrArg (fun (HH : Heap) => HH[b]?) (e447 : T447.heap = h422)).trans Ar455.1) (State.isArrayOf_alike hZ.alike Ar455.2.1) Ar455.2.2 in455 (H455.at in455 rfl) (g := (mkF m 29 #[.val (.ref a), .val (.ref b), .val (.ref r), .val (.int (2 : Int32)), .val (.int (2 : Int32))] [(.int (3 : Int32)), (.ref b)])) rfl rfl (Jvm.hb hby d3_29) _ ?_
            refine XS.aloadN X447.here hx rfl (Jvm.hb hby d3_30) rfl rfl ?_
            refine XS.iload X447.here hx rfl (Jvm.hb hby d3_31) rfl ?_
            refine X447.daload hx ((congrArg (fun (HH : Heap) => HH[b]?) (e447 : T447.heap = h422)).trans Ar456.1) (State.isArrayOf_alike hZ.alike Ar456.2.1) Ar456.2.2 in456 (H456.at in456 rfl) (g := (mkF m 33 #[.val (.ref a), .val (.ref b), .val (.ref r), .val (.int (2 : Int32)), .val (.int (2 : Int32))] [(.int (2 : Int32)), (.ref b), (.double (FP.i2d t3))])) rfl rfl (Jvm.hb hby d3_33) _ ?_
            refine XS.aloadN X447.here hx rfl (Jvm.hb hby d3_34) rfl rfl ?_
            exact st457 τ kt)
          have pre459 := fun (τ : State) kt => pre458 τ (by
            show Steps p.tables e below (T457.setTop (mkF m 38 #[.val (.ref a), .val (.ref b), .val (.ref r), .val (.int (2 : Int32)), .val (.int (2 : Int32))] [(.double en), (.double (FP.i2d t2)), (.double (FP.i2d t3))])) τ
            refine own_dadd X457.here hx rfl (Jvm.hb hby d3_38) rfl (w2.2.1.1) ?_
            refine X457.ldc2DoubleC hx hown (mvT hZ (own_W27 hw)) (g := (mkF m 39 #[.val (.ref a), .val (.ref b), .val (.ref r), .val (.int (2 : Int32)), .val (.int (2 : Int32))] [(.double (FP.dadd (FP.i2d t2) en)), (.double (FP.i2d t3))])) rfl (Jvm.hb hby d3_39) _ ?_
            refine own_dadd X457.here hx rfl (Jvm.hb hby d3_42) rfl (w2.2.1.2) ?_
            refine own_dcmp X457.here hx rfl (Jvm.hb hby d3_43) rfl ?_
            exact kt)
          by_cases q3 : (0 : Int32) < (cmpValue (FP.dcmp (FP.i2d t3) (FP.dadd (FP.dadd (FP.i2d t2) en) (4472406533629990549 : UInt64))) .g)
          · skip
            have pre460 := fun (τ : State) kt => pre459 τ (by
              show Steps p.tables e below (T457.setTop (mkF m 44 #[.val (.ref a), .val (.ref b), .val (.ref r), .val (.int (2 : Int32)), .val (.int (2 : Int32))] [(.int (cmpValue (FP.dcmp (FP.i2d t3) (FP.dadd (FP.dadd (FP.i2d t2) en) (4472406533629990549 : UInt64))) .g))])) τ
              refine XS.ifYes X457.here hx rfl (pc0 := 44) (pc' := 53) rfl (Jvm.hb hby d3_44) rfl ((if0 _ _).trans (tlt q3).2.2.1) (by decide) (by decide) ?_
              exact kt)
            have f461 := j332_0.wr W422
            exact ⟨_, _, _, (2 : Int32), X457, e457, N422, K422, f461, f437, f424, V422, own_fin (j := (2 : Int32)) (v := 2) (by decide) (Int.not_lt.mp (fun z => q2 ((w2.2.2.1.2.1 (by decide)).mpr z))) ((w2.2.2.1.2.2 (by decide)).mp q3), pre460⟩
          · skip
            obtain ⟨cl462, Ar462, q462, S462, M462, H462, U462⟩ := id f424
            have pre463 := fun (τ : State) kt => pre459 τ (by
              show Steps p.tables e below (T457.setTop (mkF m 44 #[.val (.ref a), .val (.ref b), .val (.ref r), .val (.int (2 : Int32)), .val (.int (2 : Int32))] [(.int (cmpValue (FP.dcmp (FP.i2d t3) (FP.dadd (FP.dadd (FP.i2d t2) en) (4472406533629990549 : UInt64))) .g))])) τ
              refine XS.ifNo X457.here hx rfl (Jvm.hb hby d3_44) rfl ((if0 _ _).trans (flt q3).2.2.1) ?_
              refine XS.iinc X457.here hx rfl (Jvm.hb hby d3_47) rfl (l' := #[.val (.ref a), .val (.ref b), .val (.ref r), .val (.int (3 : Int32)), .val (.int (2 : Int32))]) rfl ?_
              refine XS.goto X457.here hx rfl (pc0 := 50) (pc' := 17) rfl (Jvm.hb hby d3_50) (by decide) (by decide) ?_
              refine XS.iloadN X457.here hx rfl (Jvm.hb hby d3_17) rfl ?_
              refine XS.iconst X457.here hx rfl (Jvm.hb hby d3_18) ?_
              refine XS.iadd X457.here hx rfl (Jvm.hb hby d3_19) rfl ?_
              refine XS.aloadN X457.here hx rfl (Jvm.hb hby d3_20) rfl rfl ?_
              refine X457.arraylength hx ((congrArg (fun (HH : Heap) => HH[b]?) (e457 : T457.heap = h422)).trans Ar462.1) (State.isArrayOf_alike hZ.alike Ar462.2.1) (g := (mkF m 21 #[.val (.ref a), .val (.ref b), .val (.ref r), .val (.int (3 : Int32)), .val (.int (2 : Int32))] [(.ref b), (.int (4 : Int32))])) rfl rfl (Jvm.hb hby d3_21) _ ?_
              exact kt)
            have pre464 : ∀ τ, Steps p.tables e below (T457.setTop (mkF m 22 #[.val (.ref a), .val (.ref b), .val (.ref r), .val (.int (3 : Int32)), .val (.int (2 : Int32))] [(.int (4 : Int32)), (.int (4 : Int32))])) τ → PS τ := by
              have hq := pre463
              rw [len_of S462 M462] at hq
              exact hq
            have pre465 := fun (τ : State) kt => pre464 τ (by
              show Steps p.tables e below (T457.setTop (mkF m 22 #[.val (.ref a), .val (.ref b), .val (.ref r), .val (.int (3 : Int32)), .val (.int (2 : Int32))] [(.int (4 : Int32)), (.int (4 : Int32))])) τ
              refine XS.icmpYes X457.here hx rfl (pc0 := 22) (pc' := 53) rfl (Jvm.hb hby d3_22) rfl (flt (by decide)).2.1 (by decide) (by decide) ?_
              exact kt)
            have f466 := j332_0.wr W422
            exact ⟨_, _, _, (3 : Int32), X457, e457, N422, K422, f466, f437, f424, V422, own_fin (j := (3 : Int32)) (v := 3) (by decide) (Int.not_lt.mp (fun z => q3 ((w2.2.2.1.2.2 (by decide)).mpr z))) (by have := w2.1.2; omega), pre465⟩
    · skip
      have pre467 : ∀ τ, Steps p.tables e below (T422.setTop (mkF m 17 #[.val (.ref a), .val (.ref b), .val (.ref r), .val (.int (1 : Int32)), .val (.int (2 : Int32))] [])) τ → PS τ := by have hq := pre428; rw [hc] at hq; exact hq
      obtain ⟨cl468, Ar468, q468, S468, M468, H468, U468⟩ := id f424
      have pre469 := fun (τ : State) kt => pre467 τ (by
        show Steps p.tables e below (T422.setTop (mkF m 17 #[.val (.ref a), .val (.ref b), .val (.ref r), .val (.int (1 : Int32)), .val (.int (2 : Int32))] [])) τ
        refine XS.iloadN X422.here hx rfl (Jvm.hb hby d3_17) rfl ?_
        refine XS.iconst X422.here hx rfl (Jvm.hb hby d3_18) ?_
        refine XS.iadd X422.here hx rfl (Jvm.hb hby d3_19) rfl ?_
        refine XS.aloadN X422.here hx rfl (Jvm.hb hby d3_20) rfl rfl ?_
        refine X422.arraylength hx ((congrArg (fun (HH : Heap) => HH[b]?) (e422 : T422.heap = h422)).trans Ar468.1) (State.isArrayOf_alike hZ.alike Ar468.2.1) (g := (mkF m 21 #[.val (.ref a), .val (.ref b), .val (.ref r), .val (.int (1 : Int32)), .val (.int (2 : Int32))] [(.ref b), (.int (2 : Int32))])) rfl rfl (Jvm.hb hby d3_21) _ ?_
        exact kt)
      have pre470 : ∀ τ, Steps p.tables e below (T422.setTop (mkF m 22 #[.val (.ref a), .val (.ref b), .val (.ref r), .val (.int (1 : Int32)), .val (.int (2 : Int32))] [(.int (4 : Int32)), (.int (2 : Int32))])) τ → PS τ := by
        have hq := pre469
        rw [len_of S468 M468] at hq
        exact hq
      obtain ⟨cl471, Ar471, q471, S471, M471, H471, U471⟩ := id f424
      have in471 : ¬ ((2 : Int32) < 0 ∨ cl471.slots.size ≤ ((2 : Int32)).toNatClampNeg) := inb_of S471 ⟨by decide, by decide⟩
      obtain ⟨cl472, Ar472, q472, S472, M472, H472, U472⟩ := id f424
      have in472 : ¬ ((2 : Int32) < 0 ∨ cl472.slots.size ≤ ((2 : Int32)).toNatClampNeg) := inb_of S472 ⟨by decide, by decide⟩
      have f474 := (j332_1.other W422 (Or.inl ne_a_r))
      obtain ⟨T473, X473, e473, st473⟩ := getF X422 hx hZ hown (host := "") (Or.inl (own_W16 hw)) Via.refl e422 f474 (g := (mkF m 35 #[.val (.ref a), .val (.ref b), .val (.ref r), .val (.int (1 : Int32)), .val (.int (2 : Int32))] [(.ref a), (.double (FP.i2d t2)), (.double (FP.i2d t2))])) rfl rfl (Jvm.hb hby d3_35)
      have pre475 := fun (τ : State) kt => pre470 τ (by
        show Steps p.tables e below (T422.setTop (mkF m 22 #[.val (.ref a), .val (.ref b), .val (.ref r), .val (.int (1 : Int32)), .val (.int (2 : Int32))] [(.int (4 : Int32)), (.int (2 : Int32))])) τ
        refine XS.icmpNo X422.here hx rfl (Jvm.hb hby d3_22) rfl (tlt (by decide)).2.1 ?_
        refine XS.aloadN X422.here hx rfl (Jvm.hb hby d3_25) rfl rfl ?_
        refine XS.iloadN X422.here hx rfl (Jvm.hb hby d3_26) rfl ?_
        refine XS.iconst X422.here hx rfl (Jvm.hb hby d3_27) ?_
        refine XS.iadd X422.here hx rfl (Jvm.hb hby d3_28) rfl ?_
        refine X422.daload hx ((congrArg (fun (HH : Heap) => HH[b]?) (e422 : T422.heap = h422)).trans Ar471.1) (State.isArrayOf_alike hZ.alike Ar471.2.1) Ar471.2.2 in471 (H471.at in471 rfl) (g := (mkF m 29 #[.val (.ref a), .val (.ref b), .val (.ref r), .val (.int (1 : Int32)), .val (.int (2 : Int32))] [(.int (2 : Int32)), (.ref b)])) rfl rfl (Jvm.hb hby d3_29) _ ?_
        refine XS.aloadN X422.here hx rfl (Jvm.hb hby d3_30) rfl rfl ?_
        refine XS.iload X422.here hx rfl (Jvm.hb hby d3_31) rfl ?_
        refine X422.daload hx ((congrArg (fun (HH : Heap) => HH[b]?) (e422 : T422.heap = h422)).trans Ar472.1) (State.isArrayOf_alike hZ.alike Ar472.2.1) Ar472.2.2 in472 (H472.at in472 rfl) (g := (mkF m 33 #[.val (.ref a), .val (.ref b), .val (.ref r), .val (.int (1 : Int32)), .val (.int (2 : Int32))] [(.int (2 : Int32)), (.ref b), (.double (FP.i2d t2))])) rfl rfl (Jvm.hb hby d3_33) _ ?_
        refine XS.aloadN X422.here hx rfl (Jvm.hb hby d3_34) rfl rfl ?_
        exact st473 τ kt)
      have pre476 := fun (τ : State) kt => pre475 τ (by
        show Steps p.tables e below (T473.setTop (mkF m 38 #[.val (.ref a), .val (.ref b), .val (.ref r), .val (.int (1 : Int32)), .val (.int (2 : Int32))] [(.double en), (.double (FP.i2d t2)), (.double (FP.i2d t2))])) τ
        refine own_dadd X473.here hx rfl (Jvm.hb hby d3_38) rfl (w2.2.1.1) ?_
        refine X473.ldc2DoubleC hx hown (mvT hZ (own_W27 hw)) (g := (mkF m 39 #[.val (.ref a), .val (.ref b), .val (.ref r), .val (.int (1 : Int32)), .val (.int (2 : Int32))] [(.double (FP.dadd (FP.i2d t2) en)), (.double (FP.i2d t2))])) rfl (Jvm.hb hby d3_39) _ ?_
        refine own_dadd X473.here hx rfl (Jvm.hb hby d3_42) rfl (w2.2.1.2) ?_
        refine own_dcmp X473.here hx rfl (Jvm.hb hby d3_43) rfl ?_
        exact kt)
      by_cases q2 : (0 : Int32) < (cmpValue (FP.dcmp (FP.i2d t2) (FP.dadd (FP.dadd (FP.i2d t2) en) (4472406533629990549 : UInt64))) .g)
      · skip
        have pre477 := fun (τ : State) kt => pre476 τ (by
          show Steps p.tables e below (T473.setTop (mkF m 44 #[.val (.ref a), .val (.ref b), .val (.ref r), .val (.int (1 : Int32)), .val (.int (2 : Int32))] [(.int (cmpValue (FP.dcmp (FP.i2d t2) (FP.dadd (FP.dadd (FP.i2d t2) en) (4472406533629990549 : UInt64))) .g))])) τ
          refine XS.ifYes X473.here hx rfl (pc0 := 44) (pc' := 53) rfl (Jvm.hb hby d3_44) rfl ((if0 _ _).trans (tlt q2).2.2.1) (by decide) (by decide) ?_
          exact kt)
        have f478 := j332_0.wr W422
        exact ⟨_, _, _, (1 : Int32), X473, e473, N422, K422, f478, f474, f424, V422, own_fin (j := (1 : Int32)) (v := 1) (by decide) (own_lo (by decide) hj332 hc m2) ((w2.2.2.1.2.1 (by decide)).mp q2), pre477⟩
      · skip
        obtain ⟨cl479, Ar479, q479, S479, M479, H479, U479⟩ := id f424
        have pre480 := fun (τ : State) kt => pre476 τ (by
          show Steps p.tables e below (T473.setTop (mkF m 44 #[.val (.ref a), .val (.ref b), .val (.ref r), .val (.int (1 : Int32)), .val (.int (2 : Int32))] [(.int (cmpValue (FP.dcmp (FP.i2d t2) (FP.dadd (FP.dadd (FP.i2d t2) en) (4472406533629990549 : UInt64))) .g))])) τ
          refine XS.ifNo X473.here hx rfl (Jvm.hb hby d3_44) rfl ((if0 _ _).trans (flt q2).2.2.1) ?_
          refine XS.iinc X473.here hx rfl (Jvm.hb hby d3_47) rfl (l' := #[.val (.ref a), .val (.ref b), .val (.ref r), .val (.int (2 : Int32)), .val (.int (2 : Int32))]) rfl ?_
          refine XS.goto X473.here hx rfl (pc0 := 50) (pc' := 17) rfl (Jvm.hb hby d3_50) (by decide) (by decide) ?_
          refine XS.iloadN X473.here hx rfl (Jvm.hb hby d3_17) rfl ?_
          refine XS.iconst X473.here hx rfl (Jvm.hb hby d3_18) ?_
          refine XS.iadd X473.here hx rfl (Jvm.hb hby d3_19) rfl ?_
          refine XS.aloadN X473.here hx rfl (Jvm.hb hby d3_20) rfl rfl ?_
          refine X473.arraylength hx ((congrArg (fun (HH : Heap) => HH[b]?) (e473 : T473.heap = h422)).trans Ar479.1) (State.isArrayOf_alike hZ.alike Ar479.2.1) (g := (mkF m 21 #[.val (.ref a), .val (.ref b), .val (.ref r), .val (.int (2 : Int32)), .val (.int (2 : Int32))] [(.ref b), (.int (3 : Int32))])) rfl rfl (Jvm.hb hby d3_21) _ ?_
          exact kt)
        have pre481 : ∀ τ, Steps p.tables e below (T473.setTop (mkF m 22 #[.val (.ref a), .val (.ref b), .val (.ref r), .val (.int (2 : Int32)), .val (.int (2 : Int32))] [(.int (4 : Int32)), (.int (3 : Int32))])) τ → PS τ := by
          have hq := pre480
          rw [len_of S479 M479] at hq
          exact hq
        obtain ⟨cl482, Ar482, q482, S482, M482, H482, U482⟩ := id f424
        have in482 : ¬ ((3 : Int32) < 0 ∨ cl482.slots.size ≤ ((3 : Int32)).toNatClampNeg) := inb_of S482 ⟨by decide, by decide⟩
        obtain ⟨cl483, Ar483, q483, S483, M483, H483, U483⟩ := id f424
        have in483 : ¬ ((2 : Int32) < 0 ∨ cl483.slots.size ≤ ((2 : Int32)).toNatClampNeg) := inb_of S483 ⟨by decide, by decide⟩
        obtain ⟨T484, X484, e484, st484⟩ := getF X473 hx hZ hown (host := "") (Or.inl (own_W16 hw)) Via.refl e473 f474 (g := (mkF m 35 #[.val (.ref a), .val (.ref b), .val (.ref r), .val (.int (2 : Int32)), .val (.int (2 : Int32))] [(.ref a), (.double (FP.i2d t2)), (.double (FP.i2d t3))])) rfl rfl (Jvm.hb hby d3_35)
        have pre485 := fun (τ : State) kt => pre481 τ (by
          show Steps p.tables e below (T473.setTop (mkF m 22 #[.val (.ref a), .val (.ref b), .val (.ref r), .val (.int (2 : Int32)), .val (.int (2 : Int32))] [(.int (4 : Int32)), (.int (3 : Int32))])) τ
          refine XS.icmpNo X473.here hx rfl (Jvm.hb hby d3_22) rfl (tlt (by decide)).2.1 ?_
          refine XS.aloadN X473.here hx rfl (Jvm.hb hby d3_25) rfl rfl ?_
          refine XS.iloadN X473.here hx rfl (Jvm.hb hby d3_26) rfl ?_
          refine XS.iconst X473.here hx rfl (Jvm.hb hby d3_27) ?_
          refine XS.iadd X473.here hx rfl (Jvm.hb hby d3_28) rfl ?_
          refine X473.daload hx ((congrArg (fun (HH : Heap) => HH[b]?) (e473 : T473.heap = h422)).trans Ar482.1) (State.isArrayOf_alike hZ.alike Ar482.2.1) Ar482.2.2 in482 (H482.at in482 rfl) (g := (mkF m 29 #[.val (.ref a), .val (.ref b), .val (.ref r), .val (.int (2 : Int32)), .val (.int (2 : Int32))] [(.int (3 : Int32)), (.ref b)])) rfl rfl (Jvm.hb hby d3_29) _ ?_
          refine XS.aloadN X473.here hx rfl (Jvm.hb hby d3_30) rfl rfl ?_
          refine XS.iload X473.here hx rfl (Jvm.hb hby d3_31) rfl ?_
          refine X473.daload hx ((congrArg (fun (HH : Heap) => HH[b]?) (e473 : T473.heap = h422)).trans Ar483.1) (State.isArrayOf_alike hZ.alike Ar483.2.1) Ar483.2.2 in483 (H483.at in483 rfl) (g := (mkF m 33 #[.val (.ref a), .val (.ref b), .val (.ref r), .val (.int (2 : Int32)), .val (.int (2 : Int32))] [(.int (2 : Int32)), (.ref b), (.double (FP.i2d t3))])) rfl rfl (Jvm.hb hby d3_33) _ ?_
          refine XS.aloadN X473.here hx rfl (Jvm.hb hby d3_34) rfl rfl ?_
          exact st484 τ kt)
        have pre486 := fun (τ : State) kt => pre485 τ (by
          show Steps p.tables e below (T484.setTop (mkF m 38 #[.val (.ref a), .val (.ref b), .val (.ref r), .val (.int (2 : Int32)), .val (.int (2 : Int32))] [(.double en), (.double (FP.i2d t2)), (.double (FP.i2d t3))])) τ
          refine own_dadd X484.here hx rfl (Jvm.hb hby d3_38) rfl (w2.2.1.1) ?_
          refine X484.ldc2DoubleC hx hown (mvT hZ (own_W27 hw)) (g := (mkF m 39 #[.val (.ref a), .val (.ref b), .val (.ref r), .val (.int (2 : Int32)), .val (.int (2 : Int32))] [(.double (FP.dadd (FP.i2d t2) en)), (.double (FP.i2d t3))])) rfl (Jvm.hb hby d3_39) _ ?_
          refine own_dadd X484.here hx rfl (Jvm.hb hby d3_42) rfl (w2.2.1.2) ?_
          refine own_dcmp X484.here hx rfl (Jvm.hb hby d3_43) rfl ?_
          exact kt)
        by_cases q3 : (0 : Int32) < (cmpValue (FP.dcmp (FP.i2d t3) (FP.dadd (FP.dadd (FP.i2d t2) en) (4472406533629990549 : UInt64))) .g)
        · skip
          have pre487 := fun (τ : State) kt => pre486 τ (by
            show Steps p.tables e below (T484.setTop (mkF m 44 #[.val (.ref a), .val (.ref b), .val (.ref r), .val (.int (2 : Int32)), .val (.int (2 : Int32))] [(.int (cmpValue (FP.dcmp (FP.i2d t3) (FP.dadd (FP.dadd (FP.i2d t2) en) (4472406533629990549 : UInt64))) .g))])) τ
            refine XS.ifYes X484.here hx rfl (pc0 := 44) (pc' := 53) rfl (Jvm.hb hby d3_44) rfl ((if0 _ _).trans (tlt q3).2.2.1) (by decide) (by decide) ?_
            exact kt)
          have f488 := j332_0.wr W422
          exact ⟨_, _, _, (2 : Int32), X484, e484, N422, K422, f488, f474, f424, V422, own_fin (j := (2 : Int32)) (v := 2) (by decide) (Int.not_lt.mp (fun z => q2 ((w2.2.2.1.2.1 (by decide)).mpr z))) ((w2.2.2.1.2.2 (by decide)).mp q3), pre487⟩
        · skip
          obtain ⟨cl489, Ar489, q489, S489, M489, H489, U489⟩ := id f424
          have pre490 := fun (τ : State) kt => pre486 τ (by
            show Steps p.tables e below (T484.setTop (mkF m 44 #[.val (.ref a), .val (.ref b), .val (.ref r), .val (.int (2 : Int32)), .val (.int (2 : Int32))] [(.int (cmpValue (FP.dcmp (FP.i2d t3) (FP.dadd (FP.dadd (FP.i2d t2) en) (4472406533629990549 : UInt64))) .g))])) τ
            refine XS.ifNo X484.here hx rfl (Jvm.hb hby d3_44) rfl ((if0 _ _).trans (flt q3).2.2.1) ?_
            refine XS.iinc X484.here hx rfl (Jvm.hb hby d3_47) rfl (l' := #[.val (.ref a), .val (.ref b), .val (.ref r), .val (.int (3 : Int32)), .val (.int (2 : Int32))]) rfl ?_
            refine XS.goto X484.here hx rfl (pc0 := 50) (pc' := 17) rfl (Jvm.hb hby d3_50) (by decide) (by decide) ?_
            refine XS.iloadN X484.here hx rfl (Jvm.hb hby d3_17) rfl ?_
            refine XS.iconst X484.here hx rfl (Jvm.hb hby d3_18) ?_
            refine XS.iadd X484.here hx rfl (Jvm.hb hby d3_19) rfl ?_
            refine XS.aloadN X484.here hx rfl (Jvm.hb hby d3_20) rfl rfl ?_
            refine X484.arraylength hx ((congrArg (fun (HH : Heap) => HH[b]?) (e484 : T484.heap = h422)).trans Ar489.1) (State.isArrayOf_alike hZ.alike Ar489.2.1) (g := (mkF m 21 #[.val (.ref a), .val (.ref b), .val (.ref r), .val (.int (3 : Int32)), .val (.int (2 : Int32))] [(.ref b), (.int (4 : Int32))])) rfl rfl (Jvm.hb hby d3_21) _ ?_
            exact kt)
          have pre491 : ∀ τ, Steps p.tables e below (T484.setTop (mkF m 22 #[.val (.ref a), .val (.ref b), .val (.ref r), .val (.int (3 : Int32)), .val (.int (2 : Int32))] [(.int (4 : Int32)), (.int (4 : Int32))])) τ → PS τ := by
            have hq := pre490
            rw [len_of S489 M489] at hq
            exact hq
          have pre492 := fun (τ : State) kt => pre491 τ (by
            show Steps p.tables e below (T484.setTop (mkF m 22 #[.val (.ref a), .val (.ref b), .val (.ref r), .val (.int (3 : Int32)), .val (.int (2 : Int32))] [(.int (4 : Int32)), (.int (4 : Int32))])) τ
            refine XS.icmpYes X484.here hx rfl (pc0 := 22) (pc' := 53) rfl (Jvm.hb hby d3_22) rfl (flt (by decide)).2.1 (by decide) (by decide) ?_
            exact kt)
          have f493 := j332_0.wr W422
          exact ⟨_, _, _, (3 : Int32), X484, e484, N422, K422, f493, f474, f424, V422, own_fin (j := (3 : Int32)) (v := 3) (by decide) (Int.not_lt.mp (fun z => q3 ((w2.2.2.1.2.2 (by decide)).mpr z))) (by have := w2.1.2; omega), pre492⟩
    · skip
      have pre494 : ∀ τ, Steps p.tables e below (T422.setTop (mkF m 17 #[.val (.ref a), .val (.ref b), .val (.ref r), .val (.int (2 : Int32)), .val (.int (2 : Int32))] [])) τ → PS τ := by have hq := pre428; rw [hc] at hq; exact hq
      obtain ⟨cl495, Ar495, q495, S495, M495, H495, U495⟩ := id f424
      have pre496 := fun (τ : State) kt => pre494 τ (by
        show Steps p.tables e below (T422.setTop (mkF m 17 #[.val (.ref a), .val (.ref b), .val (.ref r), .val (.int (2 : Int32)), .val (.int (2 : Int32))] [])) τ
        refine XS.iloadN X422.here hx rfl (Jvm.hb hby d3_17) rfl ?_
        refine XS.iconst X422.here hx rfl (Jvm.hb hby d3_18) ?_
        refine XS.iadd X422.here hx rfl (Jvm.hb hby d3_19) rfl ?_
        refine XS.aloadN X422.here hx rfl (Jvm.hb hby d3_20) rfl rfl ?_
        refine X422.arraylength hx ((congrArg (fun (HH : Heap) => HH[b]?) (e422 : T422.heap = h422)).trans Ar495.1) (State.isArrayOf_alike hZ.alike Ar495.2.1) (g := (mkF m 21 #[.val (.ref a), .val (.ref b), .val (.ref r), .val (.int (2 : Int32)), .val (.int (2 : Int32))] [(.ref b), (.int (3 : Int32))])) rfl rfl (Jvm.hb hby d3_21) _ ?_
        exact kt)
      have pre497 : ∀ τ, Steps p.tables e below (T422.setTop (mkF m 22 #[.val (.ref a), .val (.ref b), .val (.ref r), .val (.int (2 : Int32)), .val (.int (2 : Int32))] [(.int (4 : Int32)), (.int (3 : Int32))])) τ → PS τ := by
        have hq := pre496
        rw [len_of S495 M495] at hq
        exact hq
      obtain ⟨cl498, Ar498, q498, S498, M498, H498, U498⟩ := id f424
      have in498 : ¬ ((3 : Int32) < 0 ∨ cl498.slots.size ≤ ((3 : Int32)).toNatClampNeg) := inb_of S498 ⟨by decide, by decide⟩
      obtain ⟨cl499, Ar499, q499, S499, M499, H499, U499⟩ := id f424
      have in499 : ¬ ((2 : Int32) < 0 ∨ cl499.slots.size ≤ ((2 : Int32)).toNatClampNeg) := inb_of S499 ⟨by decide, by decide⟩
      have f501 := (j332_1.other W422 (Or.inl ne_a_r))
      obtain ⟨T500, X500, e500, st500⟩ := getF X422 hx hZ hown (host := "") (Or.inl (own_W16 hw)) Via.refl e422 f501 (g := (mkF m 35 #[.val (.ref a), .val (.ref b), .val (.ref r), .val (.int (2 : Int32)), .val (.int (2 : Int32))] [(.ref a), (.double (FP.i2d t2)), (.double (FP.i2d t3))])) rfl rfl (Jvm.hb hby d3_35)
      have pre502 := fun (τ : State) kt => pre497 τ (by
        show Steps p.tables e below (T422.setTop (mkF m 22 #[.val (.ref a), .val (.ref b), .val (.ref r), .val (.int (2 : Int32)), .val (.int (2 : Int32))] [(.int (4 : Int32)), (.int (3 : Int32))])) τ
        refine XS.icmpNo X422.here hx rfl (Jvm.hb hby d3_22) rfl (tlt (by decide)).2.1 ?_
        refine XS.aloadN X422.here hx rfl (Jvm.hb hby d3_25) rfl rfl ?_
        refine XS.iloadN X422.here hx rfl (Jvm.hb hby d3_26) rfl ?_
        refine XS.iconst X422.here hx rfl (Jvm.hb hby d3_27) ?_
        refine XS.iadd X422.here hx rfl (Jvm.hb hby d3_28) rfl ?_
        refine X422.daload hx ((congrArg (fun (HH : Heap) => HH[b]?) (e422 : T422.heap = h422)).trans Ar498.1) (State.isArrayOf_alike hZ.alike Ar498.2.1) Ar498.2.2 in498 (H498.at in498 rfl) (g := (mkF m 29 #[.val (.ref a), .val (.ref b), .val (.ref r), .val (.int (2 : Int32)), .val (.int (2 : Int32))] [(.int (3 : Int32)), (.ref b)])) rfl rfl (Jvm.hb hby d3_29) _ ?_
        refine XS.aloadN X422.here hx rfl (Jvm.hb hby d3_30) rfl rfl ?_
        refine XS.iload X422.here hx rfl (Jvm.hb hby d3_31) rfl ?_
        refine X422.daload hx ((congrArg (fun (HH : Heap) => HH[b]?) (e422 : T422.heap = h422)).trans Ar499.1) (State.isArrayOf_alike hZ.alike Ar499.2.1) Ar499.2.2 in499 (H499.at in499 rfl) (g := (mkF m 33 #[.val (.ref a), .val (.ref b), .val (.ref r), .val (.int (2 : Int32)), .val (.int (2 : Int32))] [(.int (2 : Int32)), (.ref b), (.double (FP.i2d t3))])) rfl rfl (Jvm.hb hby d3_33) _ ?_
        refine XS.aloadN X422.here hx rfl (Jvm.hb hby d3_34) rfl rfl ?_
        exact st500 τ kt)
      have pre503 := fun (τ : State) kt => pre502 τ (by
        show Steps p.tables e below (T500.setTop (mkF m 38 #[.val (.ref a), .val (.ref b), .val (.ref r), .val (.int (2 : Int32)), .val (.int (2 : Int32))] [(.double en), (.double (FP.i2d t2)), (.double (FP.i2d t3))])) τ
        refine own_dadd X500.here hx rfl (Jvm.hb hby d3_38) rfl (w2.2.1.1) ?_
        refine X500.ldc2DoubleC hx hown (mvT hZ (own_W27 hw)) (g := (mkF m 39 #[.val (.ref a), .val (.ref b), .val (.ref r), .val (.int (2 : Int32)), .val (.int (2 : Int32))] [(.double (FP.dadd (FP.i2d t2) en)), (.double (FP.i2d t3))])) rfl (Jvm.hb hby d3_39) _ ?_
        refine own_dadd X500.here hx rfl (Jvm.hb hby d3_42) rfl (w2.2.1.2) ?_
        refine own_dcmp X500.here hx rfl (Jvm.hb hby d3_43) rfl ?_
        exact kt)
      by_cases q3 : (0 : Int32) < (cmpValue (FP.dcmp (FP.i2d t3) (FP.dadd (FP.dadd (FP.i2d t2) en) (4472406533629990549 : UInt64))) .g)
      · skip
        have pre504 := fun (τ : State) kt => pre503 τ (by
          show Steps p.tables e below (T500.setTop (mkF m 44 #[.val (.ref a), .val (.ref b), .val (.ref r), .val (.int (2 : Int32)), .val (.int (2 : Int32))] [(.int (cmpValue (FP.dcmp (FP.i2d t3) (FP.dadd (FP.dadd (FP.i2d t2) en) (4472406533629990549 : UInt64))) .g))])) τ
          refine XS.ifYes X500.here hx rfl (pc0 := 44) (pc' := 53) rfl (Jvm.hb hby d3_44) rfl ((if0 _ _).trans (tlt q3).2.2.1) (by decide) (by decide) ?_
          exact kt)
        have f505 := j332_0.wr W422
        exact ⟨_, _, _, (2 : Int32), X500, e500, N422, K422, f505, f501, f424, V422, own_fin (j := (2 : Int32)) (v := 2) (by decide) (own_lo (by decide) hj332 hc m2) ((w2.2.2.1.2.2 (by decide)).mp q3), pre504⟩
      · skip
        obtain ⟨cl506, Ar506, q506, S506, M506, H506, U506⟩ := id f424
        have pre507 := fun (τ : State) kt => pre503 τ (by
          show Steps p.tables e below (T500.setTop (mkF m 44 #[.val (.ref a), .val (.ref b), .val (.ref r), .val (.int (2 : Int32)), .val (.int (2 : Int32))] [(.int (cmpValue (FP.dcmp (FP.i2d t3) (FP.dadd (FP.dadd (FP.i2d t2) en) (4472406533629990549 : UInt64))) .g))])) τ
          refine XS.ifNo X500.here hx rfl (Jvm.hb hby d3_44) rfl ((if0 _ _).trans (flt q3).2.2.1) ?_
          refine XS.iinc X500.here hx rfl (Jvm.hb hby d3_47) rfl (l' := #[.val (.ref a), .val (.ref b), .val (.ref r), .val (.int (3 : Int32)), .val (.int (2 : Int32))]) rfl ?_
          refine XS.goto X500.here hx rfl (pc0 := 50) (pc' := 17) rfl (Jvm.hb hby d3_50) (by decide) (by decide) ?_
          refine XS.iloadN X500.here hx rfl (Jvm.hb hby d3_17) rfl ?_
          refine XS.iconst X500.here hx rfl (Jvm.hb hby d3_18) ?_
          refine XS.iadd X500.here hx rfl (Jvm.hb hby d3_19) rfl ?_
          refine XS.aloadN X500.here hx rfl (Jvm.hb hby d3_20) rfl rfl ?_
          refine X500.arraylength hx ((congrArg (fun (HH : Heap) => HH[b]?) (e500 : T500.heap = h422)).trans Ar506.1) (State.isArrayOf_alike hZ.alike Ar506.2.1) (g := (mkF m 21 #[.val (.ref a), .val (.ref b), .val (.ref r), .val (.int (3 : Int32)), .val (.int (2 : Int32))] [(.ref b), (.int (4 : Int32))])) rfl rfl (Jvm.hb hby d3_21) _ ?_
          exact kt)
        have pre508 : ∀ τ, Steps p.tables e below (T500.setTop (mkF m 22 #[.val (.ref a), .val (.ref b), .val (.ref r), .val (.int (3 : Int32)), .val (.int (2 : Int32))] [(.int (4 : Int32)), (.int (4 : Int32))])) τ → PS τ := by
          have hq := pre507
          rw [len_of S506 M506] at hq
          exact hq
        have pre509 := fun (τ : State) kt => pre508 τ (by
          show Steps p.tables e below (T500.setTop (mkF m 22 #[.val (.ref a), .val (.ref b), .val (.ref r), .val (.int (3 : Int32)), .val (.int (2 : Int32))] [(.int (4 : Int32)), (.int (4 : Int32))])) τ
          refine XS.icmpYes X500.here hx rfl (pc0 := 22) (pc' := 53) rfl (Jvm.hb hby d3_22) rfl (flt (by decide)).2.1 (by decide) (by decide) ?_
          exact kt)
        have f510 := j332_0.wr W422
        exact ⟨_, _, _, (3 : Int32), X500, e500, N422, K422, f510, f501, f424, V422, own_fin (j := (3 : Int32)) (v := 3) (by decide) (Int.not_lt.mp (fun z => q3 ((w2.2.2.1.2.2 (by decide)).mpr z))) (by have := w2.1.2; omega), pre509⟩
    · skip
      have pre511 : ∀ τ, Steps p.tables e below (T422.setTop (mkF m 17 #[.val (.ref a), .val (.ref b), .val (.ref r), .val (.int (3 : Int32)), .val (.int (2 : Int32))] [])) τ → PS τ := by have hq := pre428; rw [hc] at hq; exact hq
      obtain ⟨cl512, Ar512, q512, S512, M512, H512, U512⟩ := id f424
      have pre513 := fun (τ : State) kt => pre511 τ (by
        show Steps p.tables e below (T422.setTop (mkF m 17 #[.val (.ref a), .val (.ref b), .val (.ref r), .val (.int (3 : Int32)), .val (.int (2 : Int32))] [])) τ
        refine XS.iloadN X422.here hx rfl (Jvm.hb hby d3_17) rfl ?_
        refine XS.iconst X422.here hx rfl (Jvm.hb hby d3_18) ?_
        refine XS.iadd X422.here hx rfl (Jvm.hb hby d3_19) rfl ?_
        refine XS.aloadN X422.here hx rfl (Jvm.hb hby d3_20) rfl rfl ?_
        refine X422.arraylength hx ((congrArg (fun (HH : Heap) => HH[b]?) (e422 : T422.heap = h422)).trans Ar512.1) (State.isArrayOf_alike hZ.alike Ar512.2.1) (g := (mkF m 21 #[.val (.ref a), .val (.ref b), .val (.ref r), .val (.int (3 : Int32)), .val (.int (2 : Int32))] [(.ref b), (.int (4 : Int32))])) rfl rfl (Jvm.hb hby d3_21) _ ?_
        exact kt)
      have pre514 : ∀ τ, Steps p.tables e below (T422.setTop (mkF m 22 #[.val (.ref a), .val (.ref b), .val (.ref r), .val (.int (3 : Int32)), .val (.int (2 : Int32))] [(.int (4 : Int32)), (.int (4 : Int32))])) τ → PS τ := by
        have hq := pre513
        rw [len_of S512 M512] at hq
        exact hq
      have pre515 := fun (τ : State) kt => pre514 τ (by
        show Steps p.tables e below (T422.setTop (mkF m 22 #[.val (.ref a), .val (.ref b), .val (.ref r), .val (.int (3 : Int32)), .val (.int (2 : Int32))] [(.int (4 : Int32)), (.int (4 : Int32))])) τ
        refine XS.icmpYes X422.here hx rfl (pc0 := 22) (pc' := 53) rfl (Jvm.hb hby d3_22) rfl (flt (by decide)).2.1 (by decide) (by decide) ?_
        exact kt)
      have f516 := j332_0.wr W422
      have f517 := (j332_1.other W422 (Or.inl ne_a_r))
      exact ⟨_, _, _, (3 : Int32), X422, e422, N422, K422, f516, f517, f424, V422, own_fin (j := (3 : Int32)) (v := 3) (by decide) (own_lo (by decide) hj332 hc m2) (by have := w2.1.2; omega), pre515⟩
  obtain ⟨cl518, Ar518, q518, S518, M518, H518, U518⟩ := id j429_3
  obtain ⟨T519, h519, X519, e519, W519, st519⟩ := stI X429 hx hZ e429 Ar518 (j := (2 : Int32)) (inb_of S518 ⟨by decide, by decide⟩) (g := (mkF m 57 #[.val (.ref a), .val (.ref b), .val (.ref r), .val (.int j2), .val (.int (2 : Int32))] [(.int j2), (.int (2 : Int32)), (.ref r)])) rfl rfl (Jvm.hb hby d3_57)
  have V519 : Arv Z h519 r k280 .int (4 : Int32) [(.int j0), (.int j1), (.int j2), (.int (0 : Int32))] (.int (0 : Int32)) := Arv.set Ar518 q518 S518 M518 H518 U518 rfl W519 2 rfl (Nat.le_of_ble_eq_true rfl)
  have N519 := Fr.snoc X519 N429 g_r
  have K519 : Keep h0 h519 [] := K429.wr W519 (Or.inr sz_r)
  have pre520 := fun (τ : State) kt => pre429 τ (by
    show Steps p.tables e below (T429.setTop (mkF m 53 #[.val (.ref a), .val (.ref b), .val (.ref r), .val (.int j2), .val (.int (2 : Int32))] [])) τ
    refine XS.aloadN X429.here hx rfl (Jvm.hb hby d3_53) rfl rfl ?_
    refine XS.iload X429.here hx rfl (Jvm.hb hby d3_54) rfl ?_
    refine XS.iloadN X429.here hx rfl (Jvm.hb hby d3_56) rfl ?_
    exact st519 τ kt)
  have f521 := j429_2.other W519 ne_b_r
  obtain ⟨cl522, Ar522, q522, S522, M522, H522, U522⟩ := id f521
  have pre523 := fun (τ : State) kt => pre520 τ (by
    show Steps p.tables e below (T519.setTop (mkF m 58 #[.val (.ref a), .val (.ref b), .val (.ref r), .val (.int j2), .val (.int (2 : Int32))] [])) τ
    refine XS.iinc X519.here hx rfl (Jvm.hb hby d3_58) rfl (l' := #[.val (.ref a), .val (.ref b), .val (.ref r), .val (.int j2), .val (.int (3 : Int32))]) rfl ?_
    refine XS.goto X519.here hx rfl (pc0 := 61) (pc' := 10) rfl (Jvm.hb hby d3_61) (by decide) (by decide) ?_
    refine XS.iload X519.here hx rfl (Jvm.hb hby d3_10) rfl ?_
    refine XS.aloadN X519.here hx rfl (Jvm.hb hby d3_12) rfl rfl ?_
    refine X519.arraylength hx ((congrArg (fun (HH : Heap) => HH[b]?) (e519 : T519.heap = h519)).trans Ar522.1) (State.isArrayOf_alike hZ.alike Ar522.2.1) (g := (mkF m 13 #[.val (.ref a), .val (.ref b), .val (.ref r), .val (.int j2), .val (.int (3 : Int32))] [(.ref b), (.int (3 : Int32))])) rfl rfl (Jvm.hb hby d3_13) _ ?_
    exact kt)
  have pre524 : ∀ τ, Steps p.tables e below (T519.setTop (mkF m 14 #[.val (.ref a), .val (.ref b), .val (.ref r), .val (.int j2), .val (.int (3 : Int32))] [(.int (4 : Int32)), (.int (3 : Int32))])) τ → PS τ := by
    have hq := pre523
    rw [len_of S522 M522] at hq
    exact hq
  have pre525 := fun (τ : State) kt => pre524 τ (by
    show Steps p.tables e below (T519.setTop (mkF m 14 #[.val (.ref a), .val (.ref b), .val (.ref r), .val (.int j2), .val (.int (3 : Int32))] [(.int (4 : Int32)), (.int (3 : Int32))])) τ
    refine XS.icmpNo X519.here hx rfl (Jvm.hb hby d3_14) rfl (tlt (by decide)).2.1 ?_
    exact kt)
  obtain ⟨T526, h526, Lj526, j3, X526, e526, N526, K526, j526_0, j526_1, j526_2, j526_3, hj526, pre526⟩ : ∃ (T526 : State) (h526 : Heap) (Lj : List Loc) (j3 : Int32), Stand p l e ({ frames := 0, cells := 1, slots := 4, locals := 0 } : Room) s m #[(.ref a), (.ref b)] below meth c T526 Lj (1) (4) ∧ T526.heap = h526 ∧ Fr n0 Lj ∧ Keep h0 h526 [] ∧ Exa Z h526 a "com/example/counterpath/counterpath/core/Window" ∧ Fld Z h526 a "com/example/counterpath/counterpath/core/Window" "end" "D" (.double en) ∧ Arv Z h526 b kb .double (4 : Int32) [(.double (FP.i2d t0)), (.double (FP.i2d t1)), (.double (FP.i2d t2)), (.double (FP.i2d t3))] (.double (0 : UInt64)) ∧ Arv Z h526 r k280 .int (4 : Int32) [(.int j0), (.int j1), (.int j2), (.int (0 : Int32))] (.int (0 : Int32)) ∧ (j3 = lx3) ∧ ∀ τ, Steps p.tables e below (T526.setTop (mkF m 53 #[.val (.ref a), .val (.ref b), .val (.ref r), .val (.int j3), .val (.int (3 : Int32))] [])) τ → PS τ := by
    rcases (own_c4 (x := j2) (by rw [hj429]; exact w2.1.1) (by rw [hj429]; exact w2.1.2)) with hc | hc | hc | hc
    · skip
      have pre527 : ∀ τ, Steps p.tables e below (T519.setTop (mkF m 17 #[.val (.ref a), .val (.ref b), .val (.ref r), .val (.int (0 : Int32)), .val (.int (3 : Int32))] [])) τ → PS τ := by have hq := pre525; rw [hc] at hq; exact hq
      obtain ⟨cl528, Ar528, q528, S528, M528, H528, U528⟩ := id f521
      have pre529 := fun (τ : State) kt => pre527 τ (by
        show Steps p.tables e below (T519.setTop (mkF m 17 #[.val (.ref a), .val (.ref b), .val (.ref r), .val (.int (0 : Int32)), .val (.int (3 : Int32))] [])) τ
        refine XS.iloadN X519.here hx rfl (Jvm.hb hby d3_17) rfl ?_
        refine XS.iconst X519.here hx rfl (Jvm.hb hby d3_18) ?_
        refine XS.iadd X519.here hx rfl (Jvm.hb hby d3_19) rfl ?_
        refine XS.aloadN X519.here hx rfl (Jvm.hb hby d3_20) rfl rfl ?_
        refine X519.arraylength hx ((congrArg (fun (HH : Heap) => HH[b]?) (e519 : T519.heap = h519)).trans Ar528.1) (State.isArrayOf_alike hZ.alike Ar528.2.1) (g := (mkF m 21 #[.val (.ref a), .val (.ref b), .val (.ref r), .val (.int (0 : Int32)), .val (.int (3 : Int32))] [(.ref b), (.int (1 : Int32))])) rfl rfl (Jvm.hb hby d3_21) _ ?_
        exact kt)
      have pre530 : ∀ τ, Steps p.tables e below (T519.setTop (mkF m 22 #[.val (.ref a), .val (.ref b), .val (.ref r), .val (.int (0 : Int32)), .val (.int (3 : Int32))] [(.int (4 : Int32)), (.int (1 : Int32))])) τ → PS τ := by
        have hq := pre529
        rw [len_of S528 M528] at hq
        exact hq
      obtain ⟨cl531, Ar531, q531, S531, M531, H531, U531⟩ := id f521
      have in531 : ¬ ((1 : Int32) < 0 ∨ cl531.slots.size ≤ ((1 : Int32)).toNatClampNeg) := inb_of S531 ⟨by decide, by decide⟩
      obtain ⟨cl532, Ar532, q532, S532, M532, H532, U532⟩ := id f521
      have in532 : ¬ ((3 : Int32) < 0 ∨ cl532.slots.size ≤ ((3 : Int32)).toNatClampNeg) := inb_of S532 ⟨by decide, by decide⟩
      have f534 := (j429_1.other W519 (Or.inl ne_a_r))
      obtain ⟨T533, X533, e533, st533⟩ := getF X519 hx hZ hown (host := "") (Or.inl (own_W16 hw)) Via.refl e519 f534 (g := (mkF m 35 #[.val (.ref a), .val (.ref b), .val (.ref r), .val (.int (0 : Int32)), .val (.int (3 : Int32))] [(.ref a), (.double (FP.i2d t3)), (.double (FP.i2d t1))])) rfl rfl (Jvm.hb hby d3_35)
      have pre535 := fun (τ : State) kt => pre530 τ (by
        show Steps p.tables e below (T519.setTop (mkF m 22 #[.val (.ref a), .val (.ref b), .val (.ref r), .val (.int (0 : Int32)), .val (.int (3 : Int32))] [(.int (4 : Int32)), (.int (1 : Int32))])) τ
        refine XS.icmpNo X519.here hx rfl (Jvm.hb hby d3_22) rfl (tlt (by decide)).2.1 ?_
        refine XS.aloadN X519.here hx rfl (Jvm.hb hby d3_25) rfl rfl ?_
        refine XS.iloadN X519.here hx rfl (Jvm.hb hby d3_26) rfl ?_
        refine XS.iconst X519.here hx rfl (Jvm.hb hby d3_27) ?_
        refine XS.iadd X519.here hx rfl (Jvm.hb hby d3_28) rfl ?_
        refine X519.daload hx ((congrArg (fun (HH : Heap) => HH[b]?) (e519 : T519.heap = h519)).trans Ar531.1) (State.isArrayOf_alike hZ.alike Ar531.2.1) Ar531.2.2 in531 (H531.at in531 rfl) (g := (mkF m 29 #[.val (.ref a), .val (.ref b), .val (.ref r), .val (.int (0 : Int32)), .val (.int (3 : Int32))] [(.int (1 : Int32)), (.ref b)])) rfl rfl (Jvm.hb hby d3_29) _ ?_
        refine XS.aloadN X519.here hx rfl (Jvm.hb hby d3_30) rfl rfl ?_
        refine XS.iload X519.here hx rfl (Jvm.hb hby d3_31) rfl ?_
        refine X519.daload hx ((congrArg (fun (HH : Heap) => HH[b]?) (e519 : T519.heap = h519)).trans Ar532.1) (State.isArrayOf_alike hZ.alike Ar532.2.1) Ar532.2.2 in532 (H532.at in532 rfl) (g := (mkF m 33 #[.val (.ref a), .val (.ref b), .val (.ref r), .val (.int (0 : Int32)), .val (.int (3 : Int32))] [(.int (3 : Int32)), (.ref b), (.double (FP.i2d t1))])) rfl rfl (Jvm.hb hby d3_33) _ ?_
        refine XS.aloadN X519.here hx rfl (Jvm.hb hby d3_34) rfl rfl ?_
        exact st533 τ kt)
      have pre536 := fun (τ : State) kt => pre535 τ (by
        show Steps p.tables e below (T533.setTop (mkF m 38 #[.val (.ref a), .val (.ref b), .val (.ref r), .val (.int (0 : Int32)), .val (.int (3 : Int32))] [(.double en), (.double (FP.i2d t3)), (.double (FP.i2d t1))])) τ
        refine own_dadd X533.here hx rfl (Jvm.hb hby d3_38) rfl (w3.2.1.1) ?_
        refine X533.ldc2DoubleC hx hown (mvT hZ (own_W27 hw)) (g := (mkF m 39 #[.val (.ref a), .val (.ref b), .val (.ref r), .val (.int (0 : Int32)), .val (.int (3 : Int32))] [(.double (FP.dadd (FP.i2d t3) en)), (.double (FP.i2d t1))])) rfl (Jvm.hb hby d3_39) _ ?_
        refine own_dadd X533.here hx rfl (Jvm.hb hby d3_42) rfl (w3.2.1.2) ?_
        refine own_dcmp X533.here hx rfl (Jvm.hb hby d3_43) rfl ?_
        exact kt)
      by_cases q1 : (0 : Int32) < (cmpValue (FP.dcmp (FP.i2d t1) (FP.dadd (FP.dadd (FP.i2d t3) en) (4472406533629990549 : UInt64))) .g)
      · skip
        have pre537 := fun (τ : State) kt => pre536 τ (by
          show Steps p.tables e below (T533.setTop (mkF m 44 #[.val (.ref a), .val (.ref b), .val (.ref r), .val (.int (0 : Int32)), .val (.int (3 : Int32))] [(.int (cmpValue (FP.dcmp (FP.i2d t1) (FP.dadd (FP.dadd (FP.i2d t3) en) (4472406533629990549 : UInt64))) .g))])) τ
          refine XS.ifYes X533.here hx rfl (pc0 := 44) (pc' := 53) rfl (Jvm.hb hby d3_44) rfl ((if0 _ _).trans (tlt q1).2.2.1) (by decide) (by decide) ?_
          exact kt)
        have f538 := j429_0.wr W519
        exact ⟨_, _, _, (0 : Int32), X533, e533, N519, K519, f538, f534, f521, V519, own_fin (j := (0 : Int32)) (v := 0) (by decide) (own_lo (by decide) hj429 hc m3) ((w3.2.2.1.1 (by decide)).mp q1), pre537⟩
      · skip
        obtain ⟨cl539, Ar539, q539, S539, M539, H539, U539⟩ := id f521
        have pre540 := fun (τ : State) kt => pre536 τ (by
          show Steps p.tables e below (T533.setTop (mkF m 44 #[.val (.ref a), .val (.ref b), .val (.ref r), .val (.int (0 : Int32)), .val (.int (3 : Int32))] [(.int (cmpValue (FP.dcmp (FP.i2d t1) (FP.dadd (FP.dadd (FP.i2d t3) en) (4472406533629990549 : UInt64))) .g))])) τ
          refine XS.ifNo X533.here hx rfl (Jvm.hb hby d3_44) rfl ((if0 _ _).trans (flt q1).2.2.1) ?_
          refine XS.iinc X533.here hx rfl (Jvm.hb hby d3_47) rfl (l' := #[.val (.ref a), .val (.ref b), .val (.ref r), .val (.int (1 : Int32)), .val (.int (3 : Int32))]) rfl ?_
          refine XS.goto X533.here hx rfl (pc0 := 50) (pc' := 17) rfl (Jvm.hb hby d3_50) (by decide) (by decide) ?_
          refine XS.iloadN X533.here hx rfl (Jvm.hb hby d3_17) rfl ?_
          refine XS.iconst X533.here hx rfl (Jvm.hb hby d3_18) ?_
          refine XS.iadd X533.here hx rfl (Jvm.hb hby d3_19) rfl ?_
          refine XS.aloadN X533.here hx rfl (Jvm.hb hby d3_20) rfl rfl ?_
          refine X533.arraylength hx ((congrArg (fun (HH : Heap) => HH[b]?) (e533 : T533.heap = h519)).trans Ar539.1) (State.isArrayOf_alike hZ.alike Ar539.2.1) (g := (mkF m 21 #[.val (.ref a), .val (.ref b), .val (.ref r), .val (.int (1 : Int32)), .val (.int (3 : Int32))] [(.ref b), (.int (2 : Int32))])) rfl rfl (Jvm.hb hby d3_21) _ ?_
          exact kt)
        have pre541 : ∀ τ, Steps p.tables e below (T533.setTop (mkF m 22 #[.val (.ref a), .val (.ref b), .val (.ref r), .val (.int (1 : Int32)), .val (.int (3 : Int32))] [(.int (4 : Int32)), (.int (2 : Int32))])) τ → PS τ := by
          have hq := pre540
          rw [len_of S539 M539] at hq
          exact hq
        obtain ⟨cl542, Ar542, q542, S542, M542, H542, U542⟩ := id f521
        have in542 : ¬ ((2 : Int32) < 0 ∨ cl542.slots.size ≤ ((2 : Int32)).toNatClampNeg) := inb_of S542 ⟨by decide, by decide⟩
        obtain ⟨cl543, Ar543, q543, S543, M543, H543, U543⟩ := id f521
        have in543 : ¬ ((3 : Int32) < 0 ∨ cl543.slots.size ≤ ((3 : Int32)).toNatClampNeg) := inb_of S543 ⟨by decide, by decide⟩
        obtain ⟨T544, X544, e544, st544⟩ := getF X533 hx hZ hown (host := "") (Or.inl (own_W16 hw)) Via.refl e533 f534 (g := (mkF m 35 #[.val (.ref a), .val (.ref b), .val (.ref r), .val (.int (1 : Int32)), .val (.int (3 : Int32))] [(.ref a), (.double (FP.i2d t3)), (.double (FP.i2d t2))])) rfl rfl (Jvm.hb hby d3_35)
        have pre545 := fun (τ : State) kt => pre541 τ (by
          show Steps p.tables e below (T533.setTop (mkF m 22 #[.val (.ref a), .val (.ref b), .val (.ref r), .val (.int (1 : Int32)), .val (.int (3 : Int32))] [(.int (4 : Int32)), (.int (2 : Int32))])) τ
          refine XS.icmpNo X533.here hx rfl (Jvm.hb hby d3_22) rfl (tlt (by decide)).2.1 ?_
          refine XS.aloadN X533.here hx rfl (Jvm.hb hby d3_25) rfl rfl ?_
          refine XS.iloadN X533.here hx rfl (Jvm.hb hby d3_26) rfl ?_
          refine XS.iconst X533.here hx rfl (Jvm.hb hby d3_27) ?_
          refine XS.iadd X533.here hx rfl (Jvm.hb hby d3_28) rfl ?_
          refine X533.daload hx ((congrArg (fun (HH : Heap) => HH[b]?) (e533 : T533.heap = h519)).trans Ar542.1) (State.isArrayOf_alike hZ.alike Ar542.2.1) Ar542.2.2 in542 (H542.at in542 rfl) (g := (mkF m 29 #[.val (.ref a), .val (.ref b), .val (.ref r), .val (.int (1 : Int32)), .val (.int (3 : Int32))] [(.int (2 : Int32)), (.ref b)])) rfl rfl (Jvm.hb hby d3_29) _ ?_
          refine XS.aloadN X533.here hx rfl (Jvm.hb hby d3_30) rfl rfl ?_
          refine XS.iload X533.here hx rfl (Jvm.hb hby d3_31) rfl ?_
          refine X533.daload hx ((congrArg (fun (HH : Heap) => HH[b]?) (e533 : T533.heap = h519)).trans Ar543.1) (State.isArrayOf_alike hZ.alike Ar543.2.1) Ar543.2.2 in543 (H543.at in543 rfl) (g := (mkF m 33 #[.val (.ref a), .val (.ref b), .val (.ref r), .val (.int (1 : Int32)), .val (.int (3 : Int32))] [(.int (3 : Int32)), (.ref b), (.double (FP.i2d t2))])) rfl rfl (Jvm.hb hby d3_33) _ ?_
          refine XS.aloadN X533.here hx rfl (Jvm.hb hby d3_34) rfl rfl ?_
          exact st544 τ kt)
        have pre546 := fun (τ : State) kt => pre545 τ (by
          show Steps p.tables e below (T544.setTop (mkF m 38 #[.val (.ref a), .val (.ref b), .val (.ref r), .val (.int (1 : Int32)), .val (.int (3 : Int32))] [(.double en), (.double (FP.i2d t3)), (.double (FP.i2d t2))])) τ
          refine own_dadd X544.here hx rfl (Jvm.hb hby d3_38) rfl (w3.2.1.1) ?_
          refine X544.ldc2DoubleC hx hown (mvT hZ (own_W27 hw)) (g := (mkF m 39 #[.val (.ref a), .val (.ref b), .val (.ref r), .val (.int (1 : Int32)), .val (.int (3 : Int32))] [(.double (FP.dadd (FP.i2d t3) en)), (.double (FP.i2d t2))])) rfl (Jvm.hb hby d3_39) _ ?_
          refine own_dadd X544.here hx rfl (Jvm.hb hby d3_42) rfl (w3.2.1.2) ?_
          refine own_dcmp X544.here hx rfl (Jvm.hb hby d3_43) rfl ?_
          exact kt)
        by_cases q2 : (0 : Int32) < (cmpValue (FP.dcmp (FP.i2d t2) (FP.dadd (FP.dadd (FP.i2d t3) en) (4472406533629990549 : UInt64))) .g)
        · skip
          have pre547 := fun (τ : State) kt => pre546 τ (by
            show Steps p.tables e below (T544.setTop (mkF m 44 #[.val (.ref a), .val (.ref b), .val (.ref r), .val (.int (1 : Int32)), .val (.int (3 : Int32))] [(.int (cmpValue (FP.dcmp (FP.i2d t2) (FP.dadd (FP.dadd (FP.i2d t3) en) (4472406533629990549 : UInt64))) .g))])) τ
            refine XS.ifYes X544.here hx rfl (pc0 := 44) (pc' := 53) rfl (Jvm.hb hby d3_44) rfl ((if0 _ _).trans (tlt q2).2.2.1) (by decide) (by decide) ?_
            exact kt)
          have f548 := j429_0.wr W519
          exact ⟨_, _, _, (1 : Int32), X544, e544, N519, K519, f548, f534, f521, V519, own_fin (j := (1 : Int32)) (v := 1) (by decide) (Int.not_lt.mp (fun z => q1 ((w3.2.2.1.1 (by decide)).mpr z))) ((w3.2.2.1.2.1 (by decide)).mp q2), pre547⟩
        · skip
          obtain ⟨cl549, Ar549, q549, S549, M549, H549, U549⟩ := id f521
          have pre550 := fun (τ : State) kt => pre546 τ (by
            show Steps p.tables e below (T544.setTop (mkF m 44 #[.val (.ref a), .val (.ref b), .val (.ref r), .val (.int (1 : Int32)), .val (.int (3 : Int32))] [(.int (cmpValue (FP.dcmp (FP.i2d t2) (FP.dadd (FP.dadd (FP.i2d t3) en) (4472406533629990549 : UInt64))) .g))])) τ
            refine XS.ifNo X544.here hx rfl (Jvm.hb hby d3_44) rfl ((if0 _ _).trans (flt q2).2.2.1) ?_
            refine XS.iinc X544.here hx rfl (Jvm.hb hby d3_47) rfl (l' := #[.val (.ref a), .val (.ref b), .val (.ref r), .val (.int (2 : Int32)), .val (.int (3 : Int32))]) rfl ?_
            refine XS.goto X544.here hx rfl (pc0 := 50) (pc' := 17) rfl (Jvm.hb hby d3_50) (by decide) (by decide) ?_
            refine XS.iloadN X544.here hx rfl (Jvm.hb hby d3_17) rfl ?_
            refine XS.iconst X544.here hx rfl (Jvm.hb hby d3_18) ?_
            refine XS.iadd X544.here hx rfl (Jvm.hb hby d3_19) rfl ?_
            refine XS.aloadN X544.here hx rfl (Jvm.hb hby d3_20) rfl rfl ?_
            refine X544.arraylength hx ((congrArg (fun (HH : Heap) => HH[b]?) (e544 : T544.heap = h519)).trans Ar549.1) (State.isArrayOf_alike hZ.alike Ar549.2.1) (g := (mkF m 21 #[.val (.ref a), .val (.ref b), .val (.ref r), .val (.int (2 : Int32)), .val (.int (3 : Int32))] [(.ref b), (.int (3 : Int32))])) rfl rfl (Jvm.hb hby d3_21) _ ?_
            exact kt)
          have pre551 : ∀ τ, Steps p.tables e below (T544.setTop (mkF m 22 #[.val (.ref a), .val (.ref b), .val (.ref r), .val (.int (2 : Int32)), .val (.int (3 : Int32))] [(.int (4 : Int32)), (.int (3 : Int32))])) τ → PS τ := by
            have hq := pre550
            rw [len_of S549 M549] at hq
            exact hq
          obtain ⟨cl552, Ar552, q552, S552, M552, H552, U552⟩ := id f521
          have in552 : ¬ ((3 : Int32) < 0 ∨ cl552.slots.size ≤ ((3 : Int32)).toNatClampNeg) := inb_of S552 ⟨by decide, by decide⟩
          obtain ⟨cl553, Ar553, q553, S553, M553, H553, U553⟩ := id f521
          have in553 : ¬ ((3 : Int32) < 0 ∨ cl553.slots.size ≤ ((3 : Int32)).toNatClampNeg) := inb_of S553 ⟨by decide, by decide⟩
          obtain ⟨T554, X554, e554, st554⟩ := getF X544 hx hZ hown (host := "") (Or.inl (own_W16 hw)) Via.refl e544 f534 (g := (mkF m 35 #[.val (.ref a), .val (.ref b), .val (.ref r), .val (.int (2 : Int32)), .val (.int (3 : Int32))] [(.ref a), (.double (FP.i2d t3)), (.double (FP.i2d t3))])) rfl rfl (Jvm.hb hby d3_35)
          have pre555 := fun (τ : State) kt => pre551 τ (by
            show Steps p.tables e below (T544.setTop (mkF m 22 #[.val (.ref a), .val (.ref b), .val (.ref r), .val (.int (2 : Int32)), .val (.int (3 : Int32))] [(.int (4 : Int32)), (.int (3 : Int32))])) τ
            refine XS.icmpNo X544.here hx rfl (Jvm.hb hby d3_22) rfl (tlt (by decide)).2.1 ?_
            refine XS.aloadN X544.here hx rfl (Jvm.hb hby d3_25) rfl rfl ?_
            refine XS.iloadN X544.here hx rfl (Jvm.hb hby d3_26) rfl ?_
            refine XS.iconst X544.here hx rfl (Jvm.hb hby d3_27) ?_
            refine XS.iadd X544.here hx rfl (Jvm.hb hby d3_28) rfl ?_
            refine X544.daload hx ((congrArg (fun (HH : Heap) => HH[b]?) (e544 : T544.heap = h519)).trans Ar552.1) (State.isArrayOf_alike hZ.alike Ar552.2.1) Ar552.2.2 in552 (H552.at in552 rfl) (g := (mkF m 29 #[.val (.ref a), .val (.ref b), .val (.ref r), .val (.int (2 : Int32)), .val (.int (3 : Int32))] [(.int (3 : Int32)), (.ref b)])) rfl rfl (Jvm.hb hby d3_29) _ ?_
            refine XS.aloadN X544.here hx rfl (Jvm.hb hby d3_30) rfl rfl ?_
            refine XS.iload X544.here hx rfl (Jvm.hb hby d3_31) rfl ?_
            refine X544.daload hx ((congrArg (fun (HH : Heap) => HH[b]?) (e544 : T544.heap = h519)).trans Ar553.1) (State.isArrayOf_alike hZ.alike Ar553.2.1) Ar553.2.2 in553 (H553.at in553 rfl) (g := (mkF m 33 #[.val (.ref a), .val (.ref b), .val (.ref r), .val (.int (2 : Int32)), .val (.int (3 : Int32))] [(.int (3 : Int32)), (.ref b), (.double (FP.i2d t3))])) rfl rfl (Jvm.hb hby d3_33) _ ?_
            refine XS.aloadN X544.here hx rfl (Jvm.hb hby d3_34) rfl rfl ?_
            exact st554 τ kt)
          have pre556 := fun (τ : State) kt => pre555 τ (by
            show Steps p.tables e below (T554.setTop (mkF m 38 #[.val (.ref a), .val (.ref b), .val (.ref r), .val (.int (2 : Int32)), .val (.int (3 : Int32))] [(.double en), (.double (FP.i2d t3)), (.double (FP.i2d t3))])) τ
            refine own_dadd X554.here hx rfl (Jvm.hb hby d3_38) rfl (w3.2.1.1) ?_
            refine X554.ldc2DoubleC hx hown (mvT hZ (own_W27 hw)) (g := (mkF m 39 #[.val (.ref a), .val (.ref b), .val (.ref r), .val (.int (2 : Int32)), .val (.int (3 : Int32))] [(.double (FP.dadd (FP.i2d t3) en)), (.double (FP.i2d t3))])) rfl (Jvm.hb hby d3_39) _ ?_
            refine own_dadd X554.here hx rfl (Jvm.hb hby d3_42) rfl (w3.2.1.2) ?_
            refine own_dcmp X554.here hx rfl (Jvm.hb hby d3_43) rfl ?_
            exact kt)
          by_cases q3 : (0 : Int32) < (cmpValue (FP.dcmp (FP.i2d t3) (FP.dadd (FP.dadd (FP.i2d t3) en) (4472406533629990549 : UInt64))) .g)
          · skip
            have pre557 := fun (τ : State) kt => pre556 τ (by
              show Steps p.tables e below (T554.setTop (mkF m 44 #[.val (.ref a), .val (.ref b), .val (.ref r), .val (.int (2 : Int32)), .val (.int (3 : Int32))] [(.int (cmpValue (FP.dcmp (FP.i2d t3) (FP.dadd (FP.dadd (FP.i2d t3) en) (4472406533629990549 : UInt64))) .g))])) τ
              refine XS.ifYes X554.here hx rfl (pc0 := 44) (pc' := 53) rfl (Jvm.hb hby d3_44) rfl ((if0 _ _).trans (tlt q3).2.2.1) (by decide) (by decide) ?_
              exact kt)
            have f558 := j429_0.wr W519
            exact ⟨_, _, _, (2 : Int32), X554, e554, N519, K519, f558, f534, f521, V519, own_fin (j := (2 : Int32)) (v := 2) (by decide) (Int.not_lt.mp (fun z => q2 ((w3.2.2.1.2.1 (by decide)).mpr z))) ((w3.2.2.1.2.2 (by decide)).mp q3), pre557⟩
          · skip
            obtain ⟨cl559, Ar559, q559, S559, M559, H559, U559⟩ := id f521
            have pre560 := fun (τ : State) kt => pre556 τ (by
              show Steps p.tables e below (T554.setTop (mkF m 44 #[.val (.ref a), .val (.ref b), .val (.ref r), .val (.int (2 : Int32)), .val (.int (3 : Int32))] [(.int (cmpValue (FP.dcmp (FP.i2d t3) (FP.dadd (FP.dadd (FP.i2d t3) en) (4472406533629990549 : UInt64))) .g))])) τ
              refine XS.ifNo X554.here hx rfl (Jvm.hb hby d3_44) rfl ((if0 _ _).trans (flt q3).2.2.1) ?_
              refine XS.iinc X554.here hx rfl (Jvm.hb hby d3_47) rfl (l' := #[.val (.ref a), .val (.ref b), .val (.ref r), .val (.int (3 : Int32)), .val (.int (3 : Int32))]) rfl ?_
              refine XS.goto X554.here hx rfl (pc0 := 50) (pc' := 17) rfl (Jvm.hb hby d3_50) (by decide) (by decide) ?_
              refine XS.iloadN X554.here hx rfl (Jvm.hb hby d3_17) rfl ?_
              refine XS.iconst X554.here hx rfl (Jvm.hb hby d3_18) ?_
              refine XS.iadd X554.here hx rfl (Jvm.hb hby d3_19) rfl ?_
              refine XS.aloadN X554.here hx rfl (Jvm.hb hby d3_20) rfl rfl ?_
              refine X554.arraylength hx ((congrArg (fun (HH : Heap) => HH[b]?) (e554 : T554.heap = h519)).trans Ar559.1) (State.isArrayOf_alike hZ.alike Ar559.2.1) (g := (mkF m 21 #[.val (.ref a), .val (.ref b), .val (.ref r), .val (.int (3 : Int32)), .val (.int (3 : Int32))] [(.ref b), (.int (4 : Int32))])) rfl rfl (Jvm.hb hby d3_21) _ ?_
              exact kt)
            have pre561 : ∀ τ, Steps p.tables e below (T554.setTop (mkF m 22 #[.val (.ref a), .val (.ref b), .val (.ref r), .val (.int (3 : Int32)), .val (.int (3 : Int32))] [(.int (4 : Int32)), (.int (4 : Int32))])) τ → PS τ := by
              have hq := pre560
              rw [len_of S559 M559] at hq
              exact hq
            have pre562 := fun (τ : State) kt => pre561 τ (by
              show Steps p.tables e below (T554.setTop (mkF m 22 #[.val (.ref a), .val (.ref b), .val (.ref r), .val (.int (3 : Int32)), .val (.int (3 : Int32))] [(.int (4 : Int32)), (.int (4 : Int32))])) τ
              refine XS.icmpYes X554.here hx rfl (pc0 := 22) (pc' := 53) rfl (Jvm.hb hby d3_22) rfl (flt (by decide)).2.1 (by decide) (by decide) ?_
              exact kt)
            have f563 := j429_0.wr W519
            exact ⟨_, _, _, (3 : Int32), X554, e554, N519, K519, f563, f534, f521, V519, own_fin (j := (3 : Int32)) (v := 3) (by decide) (Int.not_lt.mp (fun z => q3 ((w3.2.2.1.2.2 (by decide)).mpr z))) (by have := w3.1.2; omega), pre562⟩
    · skip
      have pre564 : ∀ τ, Steps p.tables e below (T519.setTop (mkF m 17 #[.val (.ref a), .val (.ref b), .val (.ref r), .val (.int (1 : Int32)), .val (.int (3 : Int32))] [])) τ → PS τ := by have hq := pre525; rw [hc] at hq; exact hq
      obtain ⟨cl565, Ar565, q565, S565, M565, H565, U565⟩ := id f521
      have pre566 := fun (τ : State) kt => pre564 τ (by
        show Steps p.tables e below (T519.setTop (mkF m 17 #[.val (.ref a), .val (.ref b), .val (.ref r), .val (.int (1 : Int32)), .val (.int (3 : Int32))] [])) τ
        refine XS.iloadN X519.here hx rfl (Jvm.hb hby d3_17) rfl ?_
        refine XS.iconst X519.here hx rfl (Jvm.hb hby d3_18) ?_
        refine XS.iadd X519.here hx rfl (Jvm.hb hby d3_19) rfl ?_
        refine XS.aloadN X519.here hx rfl (Jvm.hb hby d3_20) rfl rfl ?_
        refine X519.arraylength hx ((congrArg (fun (HH : Heap) => HH[b]?) (e519 : T519.heap = h519)).trans Ar565.1) (State.isArrayOf_alike hZ.alike Ar565.2.1) (g := (mkF m 21 #[.val (.ref a), .val (.ref b), .val (.ref r), .val (.int (1 : Int32)), .val (.int (3 : Int32))] [(.ref b), (.int (2 : Int32))])) rfl rfl (Jvm.hb hby d3_21) _ ?_
        exact kt)
      have pre567 : ∀ τ, Steps p.tables e below (T519.setTop (mkF m 22 #[.val (.ref a), .val (.ref b), .val (.ref r), .val (.int (1 : Int32)), .val (.int (3 : Int32))] [(.int (4 : Int32)), (.int (2 : Int32))])) τ → PS τ := by
        have hq := pre566
        rw [len_of S565 M565] at hq
        exact hq
      obtain ⟨cl568, Ar568, q568, S568, M568, H568, U568⟩ := id f521
      have in568 : ¬ ((2 : Int32) < 0 ∨ cl568.slots.size ≤ ((2 : Int32)).toNatClampNeg) := inb_of S568 ⟨by decide, by decide⟩
      obtain ⟨cl569, Ar569, q569, S569, M569, H569, U569⟩ := id f521
      have in569 : ¬ ((3 : Int32) < 0 ∨ cl569.slots.size ≤ ((3 : Int32)).toNatClampNeg) := inb_of S569 ⟨by decide, by decide⟩
      have f571 := (j429_1.other W519 (Or.inl ne_a_r))
      obtain ⟨T570, X570, e570, st570⟩ := getF X519 hx hZ hown (host := "") (Or.inl (own_W16 hw)) Via.refl e519 f571 (g := (mkF m 35 #[.val (.ref a), .val (.ref b), .val (.ref r), .val (.int (1 : Int32)), .val (.int (3 : Int32))] [(.ref a), (.double (FP.i2d t3)), (.double (FP.i2d t2))])) rfl rfl (Jvm.hb hby d3_35)
      have pre572 := fun (τ : State) kt => pre567 τ (by
        show Steps p.tables e below (T519.setTop (mkF m 22 #[.val (.ref a), .val (.ref b), .val (.ref r), .val (.int (1 : Int32)), .val (.int (3 : Int32))] [(.int (4 : Int32)), (.int (2 : Int32))])) τ
        refine XS.icmpNo X519.here hx rfl (Jvm.hb hby d3_22) rfl (tlt (by decide)).2.1 ?_
        refine XS.aloadN X519.here hx rfl (Jvm.hb hby d3_25) rfl rfl ?_
        refine XS.iloadN X519.here hx rfl (Jvm.hb hby d3_26) rfl ?_
        refine XS.iconst X519.here hx rfl (Jvm.hb hby d3_27) ?_
        refine XS.iadd X519.here hx rfl (Jvm.hb hby d3_28) rfl ?_
        refine X519.daload hx ((congrArg (fun (HH : Heap) => HH[b]?) (e519 : T519.heap = h519)).trans Ar568.1) (State.isArrayOf_alike hZ.alike Ar568.2.1) Ar568.2.2 in568 (H568.at in568 rfl) (g := (mkF m 29 #[.val (.ref a), .val (.ref b), .val (.ref r), .val (.int (1 : Int32)), .val (.int (3 : Int32))] [(.int (2 : Int32)), (.ref b)])) rfl rfl (Jvm.hb hby d3_29) _ ?_
        refine XS.aloadN X519.here hx rfl (Jvm.hb hby d3_30) rfl rfl ?_
        refine XS.iload X519.here hx rfl (Jvm.hb hby d3_31) rfl ?_
        refine X519.daload hx ((congrArg (fun (HH : Heap) => HH[b]?) (e519 : T519.heap = h519)).trans Ar569.1) (State.isArrayOf_alike hZ.alike Ar569.2.1) Ar569.2.2 in569 (H569.at in569 rfl) (g := (mkF m 33 #[.val (.ref a), .val (.ref b), .val (.ref r), .val (.int (1 : Int32)), .val (.int (3 : Int32))] [(.int (3 : Int32)), (.ref b), (.double (FP.i2d t2))])) rfl rfl (Jvm.hb hby d3_33) _ ?_
        refine XS.aloadN X519.here hx rfl (Jvm.hb hby d3_34) rfl rfl ?_
        exact st570 τ kt)
      have pre573 := fun (τ : State) kt => pre572 τ (by
        show Steps p.tables e below (T570.setTop (mkF m 38 #[.val (.ref a), .val (.ref b), .val (.ref r), .val (.int (1 : Int32)), .val (.int (3 : Int32))] [(.double en), (.double (FP.i2d t3)), (.double (FP.i2d t2))])) τ
        refine own_dadd X570.here hx rfl (Jvm.hb hby d3_38) rfl (w3.2.1.1) ?_
        refine X570.ldc2DoubleC hx hown (mvT hZ (own_W27 hw)) (g := (mkF m 39 #[.val (.ref a), .val (.ref b), .val (.ref r), .val (.int (1 : Int32)), .val (.int (3 : Int32))] [(.double (FP.dadd (FP.i2d t3) en)), (.double (FP.i2d t2))])) rfl (Jvm.hb hby d3_39) _ ?_
        refine own_dadd X570.here hx rfl (Jvm.hb hby d3_42) rfl (w3.2.1.2) ?_
        refine own_dcmp X570.here hx rfl (Jvm.hb hby d3_43) rfl ?_
        exact kt)
      by_cases q2 : (0 : Int32) < (cmpValue (FP.dcmp (FP.i2d t2) (FP.dadd (FP.dadd (FP.i2d t3) en) (4472406533629990549 : UInt64))) .g)
      · skip
        have pre574 := fun (τ : State) kt => pre573 τ (by
          show Steps p.tables e below (T570.setTop (mkF m 44 #[.val (.ref a), .val (.ref b), .val (.ref r), .val (.int (1 : Int32)), .val (.int (3 : Int32))] [(.int (cmpValue (FP.dcmp (FP.i2d t2) (FP.dadd (FP.dadd (FP.i2d t3) en) (4472406533629990549 : UInt64))) .g))])) τ
          refine XS.ifYes X570.here hx rfl (pc0 := 44) (pc' := 53) rfl (Jvm.hb hby d3_44) rfl ((if0 _ _).trans (tlt q2).2.2.1) (by decide) (by decide) ?_
          exact kt)
        have f575 := j429_0.wr W519
        exact ⟨_, _, _, (1 : Int32), X570, e570, N519, K519, f575, f571, f521, V519, own_fin (j := (1 : Int32)) (v := 1) (by decide) (own_lo (by decide) hj429 hc m3) ((w3.2.2.1.2.1 (by decide)).mp q2), pre574⟩
      · skip
        obtain ⟨cl576, Ar576, q576, S576, M576, H576, U576⟩ := id f521
        have pre577 := fun (τ : State) kt => pre573 τ (by
          show Steps p.tables e below (T570.setTop (mkF m 44 #[.val (.ref a), .val (.ref b), .val (.ref r), .val (.int (1 : Int32)), .val (.int (3 : Int32))] [(.int (cmpValue (FP.dcmp (FP.i2d t2) (FP.dadd (FP.dadd (FP.i2d t3) en) (4472406533629990549 : UInt64))) .g))])) τ
          refine XS.ifNo X570.here hx rfl (Jvm.hb hby d3_44) rfl ((if0 _ _).trans (flt q2).2.2.1) ?_
          refine XS.iinc X570.here hx rfl (Jvm.hb hby d3_47) rfl (l' := #[.val (.ref a), .val (.ref b), .val (.ref r), .val (.int (2 : Int32)), .val (.int (3 : Int32))]) rfl ?_
          refine XS.goto X570.here hx rfl (pc0 := 50) (pc' := 17) rfl (Jvm.hb hby d3_50) (by decide) (by decide) ?_
          refine XS.iloadN X570.here hx rfl (Jvm.hb hby d3_17) rfl ?_
          refine XS.iconst X570.here hx rfl (Jvm.hb hby d3_18) ?_
          refine XS.iadd X570.here hx rfl (Jvm.hb hby d3_19) rfl ?_
          refine XS.aloadN X570.here hx rfl (Jvm.hb hby d3_20) rfl rfl ?_
          refine X570.arraylength hx ((congrArg (fun (HH : Heap) => HH[b]?) (e570 : T570.heap = h519)).trans Ar576.1) (State.isArrayOf_alike hZ.alike Ar576.2.1) (g := (mkF m 21 #[.val (.ref a), .val (.ref b), .val (.ref r), .val (.int (2 : Int32)), .val (.int (3 : Int32))] [(.ref b), (.int (3 : Int32))])) rfl rfl (Jvm.hb hby d3_21) _ ?_
          exact kt)
        have pre578 : ∀ τ, Steps p.tables e below (T570.setTop (mkF m 22 #[.val (.ref a), .val (.ref b), .val (.ref r), .val (.int (2 : Int32)), .val (.int (3 : Int32))] [(.int (4 : Int32)), (.int (3 : Int32))])) τ → PS τ := by
          have hq := pre577
          rw [len_of S576 M576] at hq
          exact hq
        obtain ⟨cl579, Ar579, q579, S579, M579, H579, U579⟩ := id f521
        have in579 : ¬ ((3 : Int32) < 0 ∨ cl579.slots.size ≤ ((3 : Int32)).toNatClampNeg) := inb_of S579 ⟨by decide, by decide⟩
        obtain ⟨cl580, Ar580, q580, S580, M580, H580, U580⟩ := id f521
        have in580 : ¬ ((3 : Int32) < 0 ∨ cl580.slots.size ≤ ((3 : Int32)).toNatClampNeg) := inb_of S580 ⟨by decide, by decide⟩
        obtain ⟨T581, X581, e581, st581⟩ := getF X570 hx hZ hown (host := "") (Or.inl (own_W16 hw)) Via.refl e570 f571 (g := (mkF m 35 #[.val (.ref a), .val (.ref b), .val (.ref r), .val (.int (2 : Int32)), .val (.int (3 : Int32))] [(.ref a), (.double (FP.i2d t3)), (.double (FP.i2d t3))])) rfl rfl (Jvm.hb hby d3_35)
        have pre582 := fun (τ : State) kt => pre578 τ (by
          show Steps p.tables e below (T570.setTop (mkF m 22 #[.val (.ref a), .val (.ref b), .val (.ref r), .val (.int (2 : Int32)), .val (.int (3 : Int32))] [(.int (4 : Int32)), (.int (3 : Int32))])) τ
          refine XS.icmpNo X570.here hx rfl (Jvm.hb hby d3_22) rfl (tlt (by decide)).2.1 ?_
          refine XS.aloadN X570.here hx rfl (Jvm.hb hby d3_25) rfl rfl ?_
          refine XS.iloadN X570.here hx rfl (Jvm.hb hby d3_26) rfl ?_
          refine XS.iconst X570.here hx rfl (Jvm.hb hby d3_27) ?_
          refine XS.iadd X570.here hx rfl (Jvm.hb hby d3_28) rfl ?_
          refine X570.daload hx ((congrArg (fun (HH : Heap) => HH[b]?) (e570 : T570.heap = h519)).trans Ar579.1) (State.isArrayOf_alike hZ.alike Ar579.2.1) Ar579.2.2 in579 (H579.at in579 rfl) (g := (mkF m 29 #[.val (.ref a), .val (.ref b), .val (.ref r), .val (.int (2 : Int32)), .val (.int (3 : Int32))] [(.int (3 : Int32)), (.ref b)])) rfl rfl (Jvm.hb hby d3_29) _ ?_
          refine XS.aloadN X570.here hx rfl (Jvm.hb hby d3_30) rfl rfl ?_
          refine XS.iload X570.here hx rfl (Jvm.hb hby d3_31) rfl ?_
          refine X570.daload hx ((congrArg (fun (HH : Heap) => HH[b]?) (e570 : T570.heap = h519)).trans Ar580.1) (State.isArrayOf_alike hZ.alike Ar580.2.1) Ar580.2.2 in580 (H580.at in580 rfl) (g := (mkF m 33 #[.val (.ref a), .val (.ref b), .val (.ref r), .val (.int (2 : Int32)), .val (.int (3 : Int32))] [(.int (3 : Int32)), (.ref b), (.double (FP.i2d t3))])) rfl rfl (Jvm.hb hby d3_33) _ ?_
          refine XS.aloadN X570.here hx rfl (Jvm.hb hby d3_34) rfl rfl ?_
          exact st581 τ kt)
        have pre583 := fun (τ : State) kt => pre582 τ (by
          show Steps p.tables e below (T581.setTop (mkF m 38 #[.val (.ref a), .val (.ref b), .val (.ref r), .val (.int (2 : Int32)), .val (.int (3 : Int32))] [(.double en), (.double (FP.i2d t3)), (.double (FP.i2d t3))])) τ
          refine own_dadd X581.here hx rfl (Jvm.hb hby d3_38) rfl (w3.2.1.1) ?_
          refine X581.ldc2DoubleC hx hown (mvT hZ (own_W27 hw)) (g := (mkF m 39 #[.val (.ref a), .val (.ref b), .val (.ref r), .val (.int (2 : Int32)), .val (.int (3 : Int32))] [(.double (FP.dadd (FP.i2d t3) en)), (.double (FP.i2d t3))])) rfl (Jvm.hb hby d3_39) _ ?_
          refine own_dadd X581.here hx rfl (Jvm.hb hby d3_42) rfl (w3.2.1.2) ?_
          refine own_dcmp X581.here hx rfl (Jvm.hb hby d3_43) rfl ?_
          exact kt)
        by_cases q3 : (0 : Int32) < (cmpValue (FP.dcmp (FP.i2d t3) (FP.dadd (FP.dadd (FP.i2d t3) en) (4472406533629990549 : UInt64))) .g)
        · skip
          have pre584 := fun (τ : State) kt => pre583 τ (by
            show Steps p.tables e below (T581.setTop (mkF m 44 #[.val (.ref a), .val (.ref b), .val (.ref r), .val (.int (2 : Int32)), .val (.int (3 : Int32))] [(.int (cmpValue (FP.dcmp (FP.i2d t3) (FP.dadd (FP.dadd (FP.i2d t3) en) (4472406533629990549 : UInt64))) .g))])) τ
            refine XS.ifYes X581.here hx rfl (pc0 := 44) (pc' := 53) rfl (Jvm.hb hby d3_44) rfl ((if0 _ _).trans (tlt q3).2.2.1) (by decide) (by decide) ?_
            exact kt)
          have f585 := j429_0.wr W519
          exact ⟨_, _, _, (2 : Int32), X581, e581, N519, K519, f585, f571, f521, V519, own_fin (j := (2 : Int32)) (v := 2) (by decide) (Int.not_lt.mp (fun z => q2 ((w3.2.2.1.2.1 (by decide)).mpr z))) ((w3.2.2.1.2.2 (by decide)).mp q3), pre584⟩
        · skip
          obtain ⟨cl586, Ar586, q586, S586, M586, H586, U586⟩ := id f521
          have pre587 := fun (τ : State) kt => pre583 τ (by
            show Steps p.tables e below (T581.setTop (mkF m 44 #[.val (.ref a), .val (.ref b), .val (.ref r), .val (.int (2 : Int32)), .val (.int (3 : Int32))] [(.int (cmpValue (FP.dcmp (FP.i2d t3) (FP.dadd (FP.dadd (FP.i2d t3) en) (4472406533629990549 : UInt64))) .g))])) τ
            refine XS.ifNo X581.here hx rfl (Jvm.hb hby d3_44) rfl ((if0 _ _).trans (flt q3).2.2.1) ?_
            refine XS.iinc X581.here hx rfl (Jvm.hb hby d3_47) rfl (l' := #[.val (.ref a), .val (.ref b), .val (.ref r), .val (.int (3 : Int32)), .val (.int (3 : Int32))]) rfl ?_
            refine XS.goto X581.here hx rfl (pc0 := 50) (pc' := 17) rfl (Jvm.hb hby d3_50) (by decide) (by decide) ?_
            refine XS.iloadN X581.here hx rfl (Jvm.hb hby d3_17) rfl ?_
            refine XS.iconst X581.here hx rfl (Jvm.hb hby d3_18) ?_
            refine XS.iadd X581.here hx rfl (Jvm.hb hby d3_19) rfl ?_
            refine XS.aloadN X581.here hx rfl (Jvm.hb hby d3_20) rfl rfl ?_
            refine X581.arraylength hx ((congrArg (fun (HH : Heap) => HH[b]?) (e581 : T581.heap = h519)).trans Ar586.1) (State.isArrayOf_alike hZ.alike Ar586.2.1) (g := (mkF m 21 #[.val (.ref a), .val (.ref b), .val (.ref r), .val (.int (3 : Int32)), .val (.int (3 : Int32))] [(.ref b), (.int (4 : Int32))])) rfl rfl (Jvm.hb hby d3_21) _ ?_
            exact kt)
          have pre588 : ∀ τ, Steps p.tables e below (T581.setTop (mkF m 22 #[.val (.ref a), .val (.ref b), .val (.ref r), .val (.int (3 : Int32)), .val (.int (3 : Int32))] [(.int (4 : Int32)), (.int (4 : Int32))])) τ → PS τ := by
            have hq := pre587
            rw [len_of S586 M586] at hq
            exact hq
          have pre589 := fun (τ : State) kt => pre588 τ (by
            show Steps p.tables e below (T581.setTop (mkF m 22 #[.val (.ref a), .val (.ref b), .val (.ref r), .val (.int (3 : Int32)), .val (.int (3 : Int32))] [(.int (4 : Int32)), (.int (4 : Int32))])) τ
            refine XS.icmpYes X581.here hx rfl (pc0 := 22) (pc' := 53) rfl (Jvm.hb hby d3_22) rfl (flt (by decide)).2.1 (by decide) (by decide) ?_
            exact kt)
          have f590 := j429_0.wr W519
          exact ⟨_, _, _, (3 : Int32), X581, e581, N519, K519, f590, f571, f521, V519, own_fin (j := (3 : Int32)) (v := 3) (by decide) (Int.not_lt.mp (fun z => q3 ((w3.2.2.1.2.2 (by decide)).mpr z))) (by have := w3.1.2; omega), pre589⟩
    · skip
      have pre591 : ∀ τ, Steps p.tables e below (T519.setTop (mkF m 17 #[.val (.ref a), .val (.ref b), .val (.ref r), .val (.int (2 : Int32)), .val (.int (3 : Int32))] [])) τ → PS τ := by have hq := pre525; rw [hc] at hq; exact hq
      obtain ⟨cl592, Ar592, q592, S592, M592, H592, U592⟩ := id f521
      have pre593 := fun (τ : State) kt => pre591 τ (by
        show Steps p.tables e below (T519.setTop (mkF m 17 #[.val (.ref a), .val (.ref b), .val (.ref r), .val (.int (2 : Int32)), .val (.int (3 : Int32))] [])) τ
        refine XS.iloadN X519.here hx rfl (Jvm.hb hby d3_17) rfl ?_
        refine XS.iconst X519.here hx rfl (Jvm.hb hby d3_18) ?_
        refine XS.iadd X519.here hx rfl (Jvm.hb hby d3_19) rfl ?_
        refine XS.aloadN X519.here hx rfl (Jvm.hb hby d3_20) rfl rfl ?_
        refine X519.arraylength hx ((congrArg (fun (HH : Heap) => HH[b]?) (e519 : T519.heap = h519)).trans Ar592.1) (State.isArrayOf_alike hZ.alike Ar592.2.1) (g := (mkF m 21 #[.val (.ref a), .val (.ref b), .val (.ref r), .val (.int (2 : Int32)), .val (.int (3 : Int32))] [(.ref b), (.int (3 : Int32))])) rfl rfl (Jvm.hb hby d3_21) _ ?_
        exact kt)
      have pre594 : ∀ τ, Steps p.tables e below (T519.setTop (mkF m 22 #[.val (.ref a), .val (.ref b), .val (.ref r), .val (.int (2 : Int32)), .val (.int (3 : Int32))] [(.int (4 : Int32)), (.int (3 : Int32))])) τ → PS τ := by
        have hq := pre593
        rw [len_of S592 M592] at hq
        exact hq
      obtain ⟨cl595, Ar595, q595, S595, M595, H595, U595⟩ := id f521
      have in595 : ¬ ((3 : Int32) < 0 ∨ cl595.slots.size ≤ ((3 : Int32)).toNatClampNeg) := inb_of S595 ⟨by decide, by decide⟩
      obtain ⟨cl596, Ar596, q596, S596, M596, H596, U596⟩ := id f521
      have in596 : ¬ ((3 : Int32) < 0 ∨ cl596.slots.size ≤ ((3 : Int32)).toNatClampNeg) := inb_of S596 ⟨by decide, by decide⟩
      have f598 := (j429_1.other W519 (Or.inl ne_a_r))
      obtain ⟨T597, X597, e597, st597⟩ := getF X519 hx hZ hown (host := "") (Or.inl (own_W16 hw)) Via.refl e519 f598 (g := (mkF m 35 #[.val (.ref a), .val (.ref b), .val (.ref r), .val (.int (2 : Int32)), .val (.int (3 : Int32))] [(.ref a), (.double (FP.i2d t3)), (.double (FP.i2d t3))])) rfl rfl (Jvm.hb hby d3_35)
      have pre599 := fun (τ : State) kt => pre594 τ (by
        show Steps p.tables e below (T519.setTop (mkF m 22 #[.val (.ref a), .val (.ref b), .val (.ref r), .val (.int (2 : Int32)), .val (.int (3 : Int32))] [(.int (4 : Int32)), (.int (3 : Int32))])) τ
        refine XS.icmpNo X519.here hx rfl (Jvm.hb hby d3_22) rfl (tlt (by decide)).2.1 ?_
        refine XS.aloadN X519.here hx rfl (Jvm.hb hby d3_25) rfl rfl ?_
        refine XS.iloadN X519.here hx rfl (Jvm.hb hby d3_26) rfl ?_
        refine XS.iconst X519.here hx rfl (Jvm.hb hby d3_27) ?_
        refine XS.iadd X519.here hx rfl (Jvm.hb hby d3_28) rfl ?_
        refine X519.daload hx ((congrArg (fun (HH : Heap) => HH[b]?) (e519 : T519.heap = h519)).trans Ar595.1) (State.isArrayOf_alike hZ.alike Ar595.2.1) Ar595.2.2 in595 (H595.at in595 rfl) (g := (mkF m 29 #[.val (.ref a), .val (.ref b), .val (.ref r), .val (.int (2 : Int32)), .val (.int (3 : Int32))] [(.int (3 : Int32)), (.ref b)])) rfl rfl (Jvm.hb hby d3_29) _ ?_
        refine XS.aloadN X519.here hx rfl (Jvm.hb hby d3_30) rfl rfl ?_
        refine XS.iload X519.here hx rfl (Jvm.hb hby d3_31) rfl ?_
        refine X519.daload hx ((congrArg (fun (HH : Heap) => HH[b]?) (e519 : T519.heap = h519)).trans Ar596.1) (State.isArrayOf_alike hZ.alike Ar596.2.1) Ar596.2.2 in596 (H596.at in596 rfl) (g := (mkF m 33 #[.val (.ref a), .val (.ref b), .val (.ref r), .val (.int (2 : Int32)), .val (.int (3 : Int32))] [(.int (3 : Int32)), (.ref b), (.double (FP.i2d t3))])) rfl rfl (Jvm.hb hby d3_33) _ ?_
        refine XS.aloadN X519.here hx rfl (Jvm.hb hby d3_34) rfl rfl ?_
        exact st597 τ kt)
      have pre600 := fun (τ : State) kt => pre599 τ (by
        show Steps p.tables e below (T597.setTop (mkF m 38 #[.val (.ref a), .val (.ref b), .val (.ref r), .val (.int (2 : Int32)), .val (.int (3 : Int32))] [(.double en), (.double (FP.i2d t3)), (.double (FP.i2d t3))])) τ
        refine own_dadd X597.here hx rfl (Jvm.hb hby d3_38) rfl (w3.2.1.1) ?_
        refine X597.ldc2DoubleC hx hown (mvT hZ (own_W27 hw)) (g := (mkF m 39 #[.val (.ref a), .val (.ref b), .val (.ref r), .val (.int (2 : Int32)), .val (.int (3 : Int32))] [(.double (FP.dadd (FP.i2d t3) en)), (.double (FP.i2d t3))])) rfl (Jvm.hb hby d3_39) _ ?_
        refine own_dadd X597.here hx rfl (Jvm.hb hby d3_42) rfl (w3.2.1.2) ?_
        refine own_dcmp X597.here hx rfl (Jvm.hb hby d3_43) rfl ?_
        exact kt)
      by_cases q3 : (0 : Int32) < (cmpValue (FP.dcmp (FP.i2d t3) (FP.dadd (FP.dadd (FP.i2d t3) en) (4472406533629990549 : UInt64))) .g)
      · skip
        have pre601 := fun (τ : State) kt => pre600 τ (by
          show Steps p.tables e below (T597.setTop (mkF m 44 #[.val (.ref a), .val (.ref b), .val (.ref r), .val (.int (2 : Int32)), .val (.int (3 : Int32))] [(.int (cmpValue (FP.dcmp (FP.i2d t3) (FP.dadd (FP.dadd (FP.i2d t3) en) (4472406533629990549 : UInt64))) .g))])) τ
          refine XS.ifYes X597.here hx rfl (pc0 := 44) (pc' := 53) rfl (Jvm.hb hby d3_44) rfl ((if0 _ _).trans (tlt q3).2.2.1) (by decide) (by decide) ?_
          exact kt)
        have f602 := j429_0.wr W519
        exact ⟨_, _, _, (2 : Int32), X597, e597, N519, K519, f602, f598, f521, V519, own_fin (j := (2 : Int32)) (v := 2) (by decide) (own_lo (by decide) hj429 hc m3) ((w3.2.2.1.2.2 (by decide)).mp q3), pre601⟩
      · skip
        obtain ⟨cl603, Ar603, q603, S603, M603, H603, U603⟩ := id f521
        have pre604 := fun (τ : State) kt => pre600 τ (by
          show Steps p.tables e below (T597.setTop (mkF m 44 #[.val (.ref a), .val (.ref b), .val (.ref r), .val (.int (2 : Int32)), .val (.int (3 : Int32))] [(.int (cmpValue (FP.dcmp (FP.i2d t3) (FP.dadd (FP.dadd (FP.i2d t3) en) (4472406533629990549 : UInt64))) .g))])) τ
          refine XS.ifNo X597.here hx rfl (Jvm.hb hby d3_44) rfl ((if0 _ _).trans (flt q3).2.2.1) ?_
          refine XS.iinc X597.here hx rfl (Jvm.hb hby d3_47) rfl (l' := #[.val (.ref a), .val (.ref b), .val (.ref r), .val (.int (3 : Int32)), .val (.int (3 : Int32))]) rfl ?_
          refine XS.goto X597.here hx rfl (pc0 := 50) (pc' := 17) rfl (Jvm.hb hby d3_50) (by decide) (by decide) ?_
          refine XS.iloadN X597.here hx rfl (Jvm.hb hby d3_17) rfl ?_
          refine XS.iconst X597.here hx rfl (Jvm.hb hby d3_18) ?_
          refine XS.iadd X597.here hx rfl (Jvm.hb hby d3_19) rfl ?_
          refine XS.aloadN X597.here hx rfl (Jvm.hb hby d3_20) rfl rfl ?_
          refine X597.arraylength hx ((congrArg (fun (HH : Heap) => HH[b]?) (e597 : T597.heap = h519)).trans Ar603.1) (State.isArrayOf_alike hZ.alike Ar603.2.1) (g := (mkF m 21 #[.val (.ref a), .val (.ref b), .val (.ref r), .val (.int (3 : Int32)), .val (.int (3 : Int32))] [(.ref b), (.int (4 : Int32))])) rfl rfl (Jvm.hb hby d3_21) _ ?_
          exact kt)
        have pre605 : ∀ τ, Steps p.tables e below (T597.setTop (mkF m 22 #[.val (.ref a), .val (.ref b), .val (.ref r), .val (.int (3 : Int32)), .val (.int (3 : Int32))] [(.int (4 : Int32)), (.int (4 : Int32))])) τ → PS τ := by
          have hq := pre604
          rw [len_of S603 M603] at hq
          exact hq
        have pre606 := fun (τ : State) kt => pre605 τ (by
          show Steps p.tables e below (T597.setTop (mkF m 22 #[.val (.ref a), .val (.ref b), .val (.ref r), .val (.int (3 : Int32)), .val (.int (3 : Int32))] [(.int (4 : Int32)), (.int (4 : Int32))])) τ
          refine XS.icmpYes X597.here hx rfl (pc0 := 22) (pc' := 53) rfl (Jvm.hb hby d3_22) rfl (flt (by decide)).2.1 (by decide) (by decide) ?_
          exact kt)
        have f607 := j429_0.wr W519
        exact ⟨_, _, _, (3 : Int32), X597, e597, N519, K519, f607, f598, f521, V519, own_fin (j := (3 : Int32)) (v := 3) (by decide) (Int.not_lt.mp (fun z => q3 ((w3.2.2.1.2.2 (by decide)).mpr z))) (by have := w3.1.2; omega), pre606⟩
    · skip
      have pre608 : ∀ τ, Steps p.tables e below (T519.setTop (mkF m 17 #[.val (.ref a), .val (.ref b), .val (.ref r), .val (.int (3 : Int32)), .val (.int (3 : Int32))] [])) τ → PS τ := by have hq := pre525; rw [hc] at hq; exact hq
      obtain ⟨cl609, Ar609, q609, S609, M609, H609, U609⟩ := id f521
      have pre610 := fun (τ : State) kt => pre608 τ (by
        show Steps p.tables e below (T519.setTop (mkF m 17 #[.val (.ref a), .val (.ref b), .val (.ref r), .val (.int (3 : Int32)), .val (.int (3 : Int32))] [])) τ
        refine XS.iloadN X519.here hx rfl (Jvm.hb hby d3_17) rfl ?_
        refine XS.iconst X519.here hx rfl (Jvm.hb hby d3_18) ?_
        refine XS.iadd X519.here hx rfl (Jvm.hb hby d3_19) rfl ?_
        refine XS.aloadN X519.here hx rfl (Jvm.hb hby d3_20) rfl rfl ?_
        refine X519.arraylength hx ((congrArg (fun (HH : Heap) => HH[b]?) (e519 : T519.heap = h519)).trans Ar609.1) (State.isArrayOf_alike hZ.alike Ar609.2.1) (g := (mkF m 21 #[.val (.ref a), .val (.ref b), .val (.ref r), .val (.int (3 : Int32)), .val (.int (3 : Int32))] [(.ref b), (.int (4 : Int32))])) rfl rfl (Jvm.hb hby d3_21) _ ?_
        exact kt)
      have pre611 : ∀ τ, Steps p.tables e below (T519.setTop (mkF m 22 #[.val (.ref a), .val (.ref b), .val (.ref r), .val (.int (3 : Int32)), .val (.int (3 : Int32))] [(.int (4 : Int32)), (.int (4 : Int32))])) τ → PS τ := by
        have hq := pre610
        rw [len_of S609 M609] at hq
        exact hq
      have pre612 := fun (τ : State) kt => pre611 τ (by
        show Steps p.tables e below (T519.setTop (mkF m 22 #[.val (.ref a), .val (.ref b), .val (.ref r), .val (.int (3 : Int32)), .val (.int (3 : Int32))] [(.int (4 : Int32)), (.int (4 : Int32))])) τ
        refine XS.icmpYes X519.here hx rfl (pc0 := 22) (pc' := 53) rfl (Jvm.hb hby d3_22) rfl (flt (by decide)).2.1 (by decide) (by decide) ?_
        exact kt)
      have f613 := j429_0.wr W519
      have f614 := (j429_1.other W519 (Or.inl ne_a_r))
      exact ⟨_, _, _, (3 : Int32), X519, e519, N519, K519, f613, f614, f521, V519, own_fin (j := (3 : Int32)) (v := 3) (by decide) (own_lo (by decide) hj429 hc m3) (by have := w3.1.2; omega), pre612⟩
  obtain ⟨cl615, Ar615, q615, S615, M615, H615, U615⟩ := id j526_3
  obtain ⟨T616, h616, X616, e616, W616, st616⟩ := stI X526 hx hZ e526 Ar615 (j := (3 : Int32)) (inb_of S615 ⟨by decide, by decide⟩) (g := (mkF m 57 #[.val (.ref a), .val (.ref b), .val (.ref r), .val (.int j3), .val (.int (3 : Int32))] [(.int j3), (.int (3 : Int32)), (.ref r)])) rfl rfl (Jvm.hb hby d3_57)
  have V616 : Arv Z h616 r k280 .int (4 : Int32) [(.int j0), (.int j1), (.int j2), (.int j3)] (.int (0 : Int32)) := Arv.set Ar615 q615 S615 M615 H615 U615 rfl W616 3 rfl (Nat.le_of_ble_eq_true rfl)
  have N616 := Fr.snoc X616 N526 g_r
  have K616 : Keep h0 h616 [] := K526.wr W616 (Or.inr sz_r)
  have pre617 := fun (τ : State) kt => pre526 τ (by
    show Steps p.tables e below (T526.setTop (mkF m 53 #[.val (.ref a), .val (.ref b), .val (.ref r), .val (.int j3), .val (.int (3 : Int32))] [])) τ
    refine XS.aloadN X526.here hx rfl (Jvm.hb hby d3_53) rfl rfl ?_
    refine XS.iload X526.here hx rfl (Jvm.hb hby d3_54) rfl ?_
    refine XS.iloadN X526.here hx rfl (Jvm.hb hby d3_56) rfl ?_
    exact st616 τ kt)
  have f618 := j526_2.other W616 ne_b_r
  obtain ⟨cl619, Ar619, q619, S619, M619, H619, U619⟩ := id f618
  have pre620 := fun (τ : State) kt => pre617 τ (by
    show Steps p.tables e below (T616.setTop (mkF m 58 #[.val (.ref a), .val (.ref b), .val (.ref r), .val (.int j3), .val (.int (3 : Int32))] [])) τ
    refine XS.iinc X616.here hx rfl (Jvm.hb hby d3_58) rfl (l' := #[.val (.ref a), .val (.ref b), .val (.ref r), .val (.int j3), .val (.int (4 : Int32))]) rfl ?_
    refine XS.goto X616.here hx rfl (pc0 := 61) (pc' := 10) rfl (Jvm.hb hby d3_61) (by decide) (by decide) ?_
    refine XS.iload X616.here hx rfl (Jvm.hb hby d3_10) rfl ?_
    refine XS.aloadN X616.here hx rfl (Jvm.hb hby d3_12) rfl rfl ?_
    refine X616.arraylength hx ((congrArg (fun (HH : Heap) => HH[b]?) (e616 : T616.heap = h616)).trans Ar619.1) (State.isArrayOf_alike hZ.alike Ar619.2.1) (g := (mkF m 13 #[.val (.ref a), .val (.ref b), .val (.ref r), .val (.int j3), .val (.int (4 : Int32))] [(.ref b), (.int (4 : Int32))])) rfl rfl (Jvm.hb hby d3_13) _ ?_
    exact kt)
  have pre621 : ∀ τ, Steps p.tables e below (T616.setTop (mkF m 14 #[.val (.ref a), .val (.ref b), .val (.ref r), .val (.int j3), .val (.int (4 : Int32))] [(.int (4 : Int32)), (.int (4 : Int32))])) τ → PS τ := by
    have hq := pre620
    rw [len_of S619 M619] at hq
    exact hq
  have hres : Arv Z h616 r k280 .int (4 : Int32) [(.int lx0), (.int lx1), (.int lx2), (.int lx3)] (.int (0 : Int32)) := by
    rw [← hj287, ← hj332, ← hj429, ← hj526]
    exact V616
  have pre622 := fun (τ : State) kt => pre621 τ (by
    show Steps p.tables e below (T616.setTop (mkF m 14 #[.val (.ref a), .val (.ref b), .val (.ref r), .val (.int j3), .val (.int (4 : Int32))] [(.int (4 : Int32)), (.int (4 : Int32))])) τ
    refine XS.icmpYes X616.here hx rfl (pc0 := 14) (pc' := 64) rfl (Jvm.hb hby d3_14) rfl (flt (by decide)).2.1 (by decide) (by decide) ?_
    refine XS.aloadN X616.here hx rfl (Jvm.hb hby d3_64) rfl rfl ?_
    exact kt)
  obtain ⟨fs, hrL, hrun, hended, hW, hsame⟩ := X616.leave (v := some (.ref r)) (fun h => by rw [Bd.returns] at h; cases h)
  refine ⟨_, _, cast (congrFun hPS _) (pre622 _ ?_), hrun, hended, _, _, rfl, ?_, ⟨_, rfl⟩, hW, hsame.mono (by decide) (by decide)⟩
  · show Steps p.tables e below (T616.setTop (mkF m 65 #[.val (.ref a), .val (.ref b), .val (.ref r), .val (.int j3), .val (.int (4 : Int32))] [(.ref r)])) _
    exact retOut X616 hx Bd.returns rfl (Or.inr (Or.inr (Or.inr (Or.inr ⟨rfl, rfl, rfl⟩)))) (Jvm.hb hby d3_65) hrL
  · show QL4 Z lx0 lx1 lx2 lx3 h0 n0 _ T616.heap _
    rw [e616]
    exact ⟨r, _, rfl, N616, K616, g_r, sz_r, hres⟩
theorem d4_0 : decode method_3_code 0 = .ok (.iload_n 1, 1) := by decide +kernel
theorem d4_1 : decode method_3_code 1 = .ok (.iload_n 2, 1) := by decide +kernel
theorem d4_2 : decode method_3_code 2 = .ok (.if_icmp .lt 5, 3) := by decide +kernel
theorem d4_5 : decode method_3_code 5 = .ok (.iconst 1, 1) := by decide +kernel
theorem d4_6 : decode method_3_code 6 = .ok (.ireturn, 1) := by decide +kernel
theorem d4_7 : decode method_3_code 7 = .ok (.iload 5, 2) := by decide +kernel
theorem d4_9 : decode method_3_code 9 = .ok (.ifCond .eq 11, 3) := by decide +kernel
theorem d4_12 : decode method_3_code 12 = .ok (.iload_n 2, 1) := by decide +kernel
theorem d4_13 : decode method_3_code 13 = .ok (.iconst 1, 1) := by decide +kernel
theorem d4_14 : decode method_3_code 14 = .ok (.isub, 1) := by decide +kernel
theorem d4_15 : decode method_3_code 15 = .ok (.istore 6, 2) := by decide +kernel
theorem d4_17 : decode method_3_code 17 = .ok (.goto 71, 3) := by decide +kernel
theorem d4_20 : decode method_3_code 20 = .ok (.aload_n 3, 1) := by decide +kernel
theorem d4_21 : decode method_3_code 21 = .ok (.iload_n 1, 1) := by decide +kernel
theorem d4_22 : decode method_3_code 22 = .ok (.iaload, 1) := by decide +kernel
theorem d4_23 : decode method_3_code 23 = .ok (.iload 4, 2) := by decide +kernel
theorem d4_25 : decode method_3_code 25 = .ok (.iadd, 1) := by decide +kernel
theorem d4_26 : decode method_3_code 26 = .ok (.istore 7, 2) := by decide +kernel
theorem d4_28 : decode method_3_code 28 = .ok (.iconst 0, 1) := by decide +kernel
theorem d4_29 : decode method_3_code 29 = .ok (.istore 6, 2) := by decide +kernel
theorem d4_31 : decode method_3_code 31 = .ok (.iload_n 2, 1) := by decide +kernel
theorem d4_32 : decode method_3_code 32 = .ok (.iconst 1, 1) := by decide +kernel
theorem d4_33 : decode method_3_code 33 = .ok (.if_icmp .le 17, 3) := by decide +kernel
theorem d4_36 : decode method_3_code 36 = .ok (.aload_n 3, 1) := by decide +kernel
theorem d4_37 : decode method_3_code 37 = .ok (.iconst 1, 1) := by decide +kernel
theorem d4_38 : decode method_3_code 38 = .ok (.iaload, 1) := by decide +kernel
theorem d4_39 : decode method_3_code 39 = .ok (.iload 7, 2) := by decide +kernel
theorem d4_41 : decode method_3_code 41 = .ok (.if_icmp .gt 9, 3) := by decide +kernel
theorem d4_44 : decode method_3_code 44 = .ok (.iload 6, 2) := by decide +kernel
theorem d4_46 : decode method_3_code 46 = .ok (.iconst 1, 1) := by decide +kernel
theorem d4_47 : decode method_3_code 47 = .ok (.iadd, 1) := by decide +kernel
theorem d4_48 : decode method_3_code 48 = .ok (.istore 6, 2) := by decide +kernel
theorem d4_50 : decode method_3_code 50 = .ok (.iload_n 2, 1) := by decide +kernel
theorem d4_51 : decode method_3_code 51 = .ok (.iconst 2, 1) := by decide +kernel
theorem d4_52 : decode method_3_code 52 = .ok (.if_icmp .le 17, 3) := by decide +kernel
theorem d4_55 : decode method_3_code 55 = .ok (.aload_n 3, 1) := by decide +kernel
theorem d4_56 : decode method_3_code 56 = .ok (.iconst 2, 1) := by decide +kernel
theorem d4_57 : decode method_3_code 57 = .ok (.iaload, 1) := by decide +kernel
theorem d4_58 : decode method_3_code 58 = .ok (.iload 7, 2) := by decide +kernel
theorem d4_60 : decode method_3_code 60 = .ok (.if_icmp .gt 9, 3) := by decide +kernel
theorem d4_63 : decode method_3_code 63 = .ok (.iload 6, 2) := by decide +kernel
theorem d4_65 : decode method_3_code 65 = .ok (.iconst 1, 1) := by decide +kernel
theorem d4_66 : decode method_3_code 66 = .ok (.iadd, 1) := by decide +kernel
theorem d4_67 : decode method_3_code 67 = .ok (.istore 6, 2) := by decide +kernel
theorem d4_69 : decode method_3_code 69 = .ok (.iload_n 2, 1) := by decide +kernel
theorem d4_70 : decode method_3_code 70 = .ok (.iconst 3, 1) := by decide +kernel
theorem d4_71 : decode method_3_code 71 = .ok (.if_icmp .le 17, 3) := by decide +kernel
theorem d4_74 : decode method_3_code 74 = .ok (.aload_n 3, 1) := by decide +kernel
theorem d4_75 : decode method_3_code 75 = .ok (.iconst 3, 1) := by decide +kernel
theorem d4_76 : decode method_3_code 76 = .ok (.iaload, 1) := by decide +kernel
theorem d4_77 : decode method_3_code 77 = .ok (.iload 7, 2) := by decide +kernel
theorem d4_79 : decode method_3_code 79 = .ok (.if_icmp .gt 9, 3) := by decide +kernel
theorem d4_82 : decode method_3_code 82 = .ok (.iload 6, 2) := by decide +kernel
theorem d4_84 : decode method_3_code 84 = .ok (.iconst 1, 1) := by decide +kernel
theorem d4_85 : decode method_3_code 85 = .ok (.iadd, 1) := by decide +kernel
theorem d4_86 : decode method_3_code 86 = .ok (.istore 6, 2) := by decide +kernel
theorem d4_88 : decode method_3_code 88 = .ok (.aload_n 0, 1) := by decide +kernel
theorem d4_89 : decode method_3_code 89 = .ok (.iload_n 1, 1) := by decide +kernel
theorem d4_90 : decode method_3_code 90 = .ok (.iaload, 1) := by decide +kernel
theorem d4_91 : decode method_3_code 91 = .ok (.iload 6, 2) := by decide +kernel
theorem d4_93 : decode method_3_code 93 = .ok (.if_icmp .ne 7, 3) := by decide +kernel
theorem d4_96 : decode method_3_code 96 = .ok (.iconst 1, 1) := by decide +kernel
theorem d4_97 : decode method_3_code 97 = .ok (.goto 4, 3) := by decide +kernel
theorem d4_100 : decode method_3_code 100 = .ok (.iconst 0, 1) := by decide +kernel
theorem d4_101 : decode method_3_code 101 = .ok (.ireturn, 1) := by decide +kernel
theorem own_pn_com_example_counterpath_counterpath_core_WindowLastsPinLaw : plainName "com/example/counterpath/counterpath/core/WindowLastsPinLaw" = true := by first | (simp [plainName, overriddenIn]; done) | decide +kernel
theorem own_ef4 (m : MethodId) (x0 : Addr) (x1 : Int32) (x2 : Int32) (x3 : Addr) (x4 : Int32) (x5 : Int32) : entryFrame m #[(.ref x0), (.int x1), (.int x2), (.ref x3), (.int x4), (.int x5)] 8 = mkF m 0 #[.val (.ref x0), .val (.int x1), .val (.int x2), .val (.ref x3), .val (.int x4), .val (.int x5), .unset, .unset] [] := by first | (simp [entryFrame, mkF, argsToLocals, Value.category]; done) | rfl
set_option maxRecDepth 65536 in
set_option maxHeartbeats 40000000 in
theorem rmCo (l : Launch) (Z : State) (a0 : Array Value) (hw : ∀ d ∈ tables_1, d.before a0 Z = true) (ws : List Jvm.Cond) (r : Addr) (ci : Int32) (cn : Int32) (t : Addr) (ev : Int32) (iv : Int32)  (h0 : Heap) (n0 : Nat) (Z0 : n0 ≤ h0.size) (hc : ¬ ci < cn) :
    MetFree l (⟨"com/example/counterpath/counterpath/core/WindowLastsPinLaw", "check", "([III[IIZ)Z"⟩ : MethodName) (head1 (Jvm.Cond.code (⟨"com/example/counterpath/counterpath/core/WindowLastsPinLaw", "check", "([III[IIZ)Z"⟩ : MethodName) method_3_code 8 (some .boolean) :: ws) ({ frames := 0, cells := 0, slots := 0, locals := 0 } : Room)) (fun α U => α = #[(.ref r), (.int ci), (.int cn), (.ref t), (.int ev), (.int iv)] ∧ Z.Warmed39 U.vm ∧ U.heap = h0) (fun _ _ _ _ _ => True) (fun _ U ω U' => ∃ ν Λ, ω = .returned ν ∧ QZ h0 n0 ν U'.heap Λ ∧ FrameEnd U ω U' Λ ({ frames := 0, cells := 0, slots := 0, locals := 0 } : Room).cells ({ frames := 0, cells := 0, slots := 0, locals := 0 } : Room).slots) := by
  refine MetFree.of_bodySF (plainFor_of_name own_pn_com_example_counterpath_counterpath_core_WindowLastsPinLaw) hisR ?_
  intro p e s m args below meth c s₁ Bd hml0 hP hK
  obtain ⟨rfl, hZ, hh⟩ := hP
  have hx := Bd.exec
  have hby := Bd.bytes
  have hml : c.maxLocals = 8 := hml0
  have hown : s.vm.findClass "com/example/counterpath/counterpath/core/WindowLastsPinLaw" = some m.cls := findClass_of_methodNamed Bd.named
  have hnm := (name_of_methodNamed Bd.named Bd.method).1
  have X0 : Stand p l e ({ frames := 0, cells := 0, slots := 0, locals := 0 } : Room) s m #[(.ref r), (.int ci), (.int cn), (.ref t), (.int ev), (.int iv)] below meth c s₁ [] 0 0 := Stand.of_body Bd
  have e0 : s₁.heap = h0 := by rw [← hh, Bd.state]; rfl
  have N0 := Fr.nil n0
  have KK0 : Keep h0 h0 [] := Keep.refl h0 []
  obtain ⟨PS, hPS⟩ : ∃ P : State → Prop, P = fun τ => Steps p.tables e below (s₁.setTop (entryFrame m #[(.ref r), (.int ci), (.int cn), (.ref t), (.int ev), (.int iv)] 8)) τ := ⟨_, rfl⟩
  have pre0 : ∀ τ, Steps p.tables e below (s₁.setTop (mkF m 0 #[.val (.ref r), .val (.int ci), .val (.int cn), .val (.ref t), .val (.int ev), .val (.int iv), .unset, .unset] [])) τ → PS τ := by rw [hPS]; exact fun τ κ => castTop (own_ef4 m r ci cn t ev iv) κ
  have pre623 := fun (τ : State) kt => pre0 τ (by
    show Steps p.tables e below (s₁.setTop (mkF m 0 #[.val (.ref r), .val (.int ci), .val (.int cn), .val (.ref t), .val (.int ev), .val (.int iv), .unset, .unset] [])) τ
    refine XS.iloadN X0.here hx rfl (Jvm.hb hby d4_0) rfl ?_
    refine XS.iloadN X0.here hx rfl (Jvm.hb hby d4_1) rfl ?_
    refine XS.icmpNo X0.here hx rfl (Jvm.hb hby d4_2) rfl (flt hc).1 ?_
    refine XS.iconst X0.here hx rfl (Jvm.hb hby d4_5) ?_
    exact kt)
  obtain ⟨fs, hrL, hrun, hended, hW, hsame⟩ := X0.leave (v := some (.int (1 : Int32))) (fun h => by rw [Bd.returns] at h; cases h)
  refine ⟨_, _, cast (congrFun hPS _) (pre623 _ ?_), hrun, hended, _, _, rfl, ?_, ⟨_, rfl⟩, hW, hsame.mono (by decide) (by decide)⟩
  · show Steps p.tables e below (s₁.setTop (mkF m 6 #[.val (.ref r), .val (.int ci), .val (.int cn), .val (.ref t), .val (.int ev), .val (.int iv), .unset, .unset] [(.int (1 : Int32))])) _
    exact retN X0 hx (t := .boolean) Bd.returns (by simp) (Jvm.hb hby d4_6) hrL
  · show QZ h0 n0 _ s₁.heap _
    rw [e0]
    exact ⟨rfl, N0, rfl⟩
set_option maxRecDepth 65536 in
set_option maxHeartbeats 40000000 in
theorem rmC0_1 (l : Launch) (Z : State) (a0 : Array Value) (hw : ∀ d ∈ tables_1, d.before a0 Z = true) (ws : List Jvm.Cond) (r : Addr) (ci : Int32) (cn : Int32) (t : Addr) (ev : Int32) (iv : Int32) (kr kt : ClassId) (t0 t1 t2 t3 lx0 : Int32) (en : UInt64) (h0 : Heap) (n0 : Nat) (Z0 : n0 ≤ h0.size) (hi : ci = (0 : Int32)) (hn : cn = (1 : Int32)) (VR : Arv Z h0 r kr .int (1 : Int32) [(.int lx0)] (.int (0 : Int32))) (VT : Arv Z h0 t kt .int (4 : Int32) [(.int t0), (.int t1), (.int t2), (.int t3)] (.int (0 : Int32))) (w0 : own_row 1 iv t1 t2 t3 t0 ev en lx0) :
    MetFree l (⟨"com/example/counterpath/counterpath/core/WindowLastsPinLaw", "check", "([III[IIZ)Z"⟩ : MethodName) (head1 (Jvm.Cond.code (⟨"com/example/counterpath/counterpath/core/WindowLastsPinLaw", "check", "([III[IIZ)Z"⟩ : MethodName) method_3_code 8 (some .boolean) :: ws) ({ frames := 0, cells := 0, slots := 0, locals := 0 } : Room)) (fun α U => α = #[(.ref r), (.int ci), (.int cn), (.ref t), (.int ev), (.int iv)] ∧ Z.Warmed39 U.vm ∧ U.heap = h0) (fun _ _ _ _ _ => True) (fun _ U ω U' => ∃ ν Λ, ω = .returned ν ∧ QZ h0 n0 ν U'.heap Λ ∧ FrameEnd U ω U' Λ ({ frames := 0, cells := 0, slots := 0, locals := 0 } : Room).cells ({ frames := 0, cells := 0, slots := 0, locals := 0 } : Room).slots) := by
  refine MetFree.of_bodySF (plainFor_of_name own_pn_com_example_counterpath_counterpath_core_WindowLastsPinLaw) hisR ?_
  intro p e s m args below meth c s₁ Bd hml0 hP hK
  obtain ⟨rfl, hZ, hh⟩ := hP
  have hx := Bd.exec
  have hby := Bd.bytes
  have hml : c.maxLocals = 8 := hml0
  have hown : s.vm.findClass "com/example/counterpath/counterpath/core/WindowLastsPinLaw" = some m.cls := findClass_of_methodNamed Bd.named
  have hnm := (name_of_methodNamed Bd.named Bd.method).1
  have X0 : Stand p l e ({ frames := 0, cells := 0, slots := 0, locals := 0 } : Room) s m #[(.ref r), (.int ci), (.int cn), (.ref t), (.int ev), (.int iv)] below meth c s₁ [] 0 0 := Stand.of_body Bd
  have e0 : s₁.heap = h0 := by rw [← hh, Bd.state]; rfl
  have N0 := Fr.nil n0
  have KK0 : Keep h0 h0 [] := Keep.refl h0 []
  obtain ⟨PS, hPS⟩ : ∃ P : State → Prop, P = fun τ => Steps p.tables e below (s₁.setTop (entryFrame m #[(.ref r), (.int ci), (.int cn), (.ref t), (.int ev), (.int iv)] 8)) τ := ⟨_, rfl⟩
  have pre0 : ∀ τ, Steps p.tables e below (s₁.setTop (mkF m 0 #[.val (.ref r), .val (.int ci), .val (.int cn), .val (.ref t), .val (.int ev), .val (.int iv), .unset, .unset] [])) τ → PS τ := by rw [hPS]; exact fun τ κ => castTop (own_ef4 m r ci cn t ev iv) κ
  have pre624 : ∀ τ, Steps p.tables e below (s₁.setTop (mkF m 0 #[.val (.ref r), .val (.int (0 : Int32)), .val (.int cn), .val (.ref t), .val (.int ev), .val (.int iv), .unset, .unset] [])) τ → PS τ := by have hq := pre0; rw [hi] at hq; exact hq
  have pre625 : ∀ τ, Steps p.tables e below (s₁.setTop (mkF m 0 #[.val (.ref r), .val (.int (0 : Int32)), .val (.int (1 : Int32)), .val (.ref t), .val (.int ev), .val (.int iv), .unset, .unset] [])) τ → PS τ := by have hq := pre624; rw [hn] at hq; exact hq
  have pre626 := fun (τ : State) kt => pre625 τ (by
    show Steps p.tables e below (s₁.setTop (mkF m 0 #[.val (.ref r), .val (.int (0 : Int32)), .val (.int (1 : Int32)), .val (.ref t), .val (.int ev), .val (.int iv), .unset, .unset] [])) τ
    refine XS.iloadN X0.here hx rfl (Jvm.hb hby d4_0) rfl ?_
    refine XS.iloadN X0.here hx rfl (Jvm.hb hby d4_1) rfl ?_
    refine XS.icmpYes X0.here hx rfl (pc0 := 2) (pc' := 7) rfl (Jvm.hb hby d4_2) rfl (tlt (by decide)).1 (by decide) (by decide) ?_
    refine XS.iload X0.here hx rfl (Jvm.hb hby d4_7) rfl ?_
    exact kt)
  by_cases qi : iv = (0 : Int32)
  · skip
    obtain ⟨cl627, Ar627, q627, S627, M627, H627, U627⟩ := id VT
    have in627 : ¬ ((0 : Int32) < 0 ∨ cl627.slots.size ≤ ((0 : Int32)).toNatClampNeg) := inb_of S627 ⟨by decide, by decide⟩
    obtain ⟨cl628, Ar628, q628, S628, M628, H628, U628⟩ := id VR
    have in628 : ¬ ((0 : Int32) < 0 ∨ cl628.slots.size ≤ ((0 : Int32)).toNatClampNeg) := inb_of S628 ⟨by decide, by decide⟩
    have hz : lx0 = (0 : Int32) := (Int32.toInt_inj.mp (by rw [show (0 : Int32).toInt = 0 by decide]; have b0 := w0.1; omega))
    have pre629 := fun (τ : State) kt => pre626 τ (by
      show Steps p.tables e below (s₁.setTop (mkF m 9 #[.val (.ref r), .val (.int (0 : Int32)), .val (.int (1 : Int32)), .val (.ref t), .val (.int ev), .val (.int iv), .unset, .unset] [(.int iv)])) τ
      refine XS.ifYes X0.here hx rfl (pc0 := 9) (pc' := 20) rfl (Jvm.hb hby d4_9) rfl ((if0 _ _).trans (teq qi).1) (by decide) (by decide) ?_
      refine XS.aloadN X0.here hx rfl (Jvm.hb hby d4_20) rfl rfl ?_
      refine XS.iloadN X0.here hx rfl (Jvm.hb hby d4_21) rfl ?_
      refine X0.iaload hx ((congrArg (fun (HH : Heap) => HH[t]?) (e0 : s₁.heap = h0)).trans Ar627.1) (State.isArrayOf_alike hZ.alike Ar627.2.1) Ar627.2.2 in627 (H627.at in627 rfl) (g := (mkF m 22 #[.val (.ref r), .val (.int (0 : Int32)), .val (.int (1 : Int32)), .val (.ref t), .val (.int ev), .val (.int iv), .unset, .unset] [(.int (0 : Int32)), (.ref t)])) rfl rfl (Jvm.hb hby d4_22) _ ?_
      refine XS.iload X0.here hx rfl (Jvm.hb hby d4_23) rfl ?_
      refine XS.iadd X0.here hx rfl (Jvm.hb hby d4_25) rfl ?_
      refine XS.istore X0.here hx rfl (Jvm.hb hby d4_26) rfl (l' := #[.val (.ref r), .val (.int (0 : Int32)), .val (.int (1 : Int32)), .val (.ref t), .val (.int ev), .val (.int iv), .unset, .val (.int (t0 + ev))]) rfl ?_
      refine XS.iconst X0.here hx rfl (Jvm.hb hby d4_28) ?_
      refine XS.istore X0.here hx rfl (Jvm.hb hby d4_29) rfl (l' := #[.val (.ref r), .val (.int (0 : Int32)), .val (.int (1 : Int32)), .val (.ref t), .val (.int ev), .val (.int iv), .val (.int (0 : Int32)), .val (.int (t0 + ev))]) rfl ?_
      refine XS.iloadN X0.here hx rfl (Jvm.hb hby d4_31) rfl ?_
      refine XS.iconst X0.here hx rfl (Jvm.hb hby d4_32) ?_
      refine XS.icmpYes X0.here hx rfl (pc0 := 33) (pc' := 50) rfl (Jvm.hb hby d4_33) rfl (flt (by decide)).2.2.2 (by decide) (by decide) ?_
      refine XS.iloadN X0.here hx rfl (Jvm.hb hby d4_50) rfl ?_
      refine XS.iconst X0.here hx rfl (Jvm.hb hby d4_51) ?_
      refine XS.icmpYes X0.here hx rfl (pc0 := 52) (pc' := 69) rfl (Jvm.hb hby d4_52) rfl (flt (by decide)).2.2.2 (by decide) (by decide) ?_
      refine XS.iloadN X0.here hx rfl (Jvm.hb hby d4_69) rfl ?_
      refine XS.iconst X0.here hx rfl (Jvm.hb hby d4_70) ?_
      refine XS.icmpYes X0.here hx rfl (pc0 := 71) (pc' := 88) rfl (Jvm.hb hby d4_71) rfl (flt (by decide)).2.2.2 (by decide) (by decide) ?_
      refine XS.aloadN X0.here hx rfl (Jvm.hb hby d4_88) rfl rfl ?_
      refine XS.iloadN X0.here hx rfl (Jvm.hb hby d4_89) rfl ?_
      refine X0.iaload hx ((congrArg (fun (HH : Heap) => HH[r]?) (e0 : s₁.heap = h0)).trans Ar628.1) (State.isArrayOf_alike hZ.alike Ar628.2.1) Ar628.2.2 in628 (H628.at in628 rfl) (g := (mkF m 90 #[.val (.ref r), .val (.int (0 : Int32)), .val (.int (1 : Int32)), .val (.ref t), .val (.int ev), .val (.int iv), .val (.int (0 : Int32)), .val (.int (t0 + ev))] [(.int (0 : Int32)), (.ref r)])) rfl rfl (Jvm.hb hby d4_90) _ ?_
      refine XS.iload X0.here hx rfl (Jvm.hb hby d4_91) rfl ?_
      refine XS.icmpNo X0.here hx rfl (Jvm.hb hby d4_93) rfl (teq hz).2 ?_
      refine XS.iconst X0.here hx rfl (Jvm.hb hby d4_96) ?_
      refine XS.goto X0.here hx rfl (pc0 := 97) (pc' := 101) rfl (Jvm.hb hby d4_97) (by decide) (by decide) ?_
      exact kt)
    obtain ⟨fs, hrL, hrun, hended, hW, hsame⟩ := X0.leave (v := some (.int (1 : Int32))) (fun h => by rw [Bd.returns] at h; cases h)
    refine ⟨_, _, cast (congrFun hPS _) (pre629 _ ?_), hrun, hended, _, _, rfl, ?_, ⟨_, rfl⟩, hW, hsame.mono (by decide) (by decide)⟩
    · show Steps p.tables e below (s₁.setTop (mkF m 101 #[.val (.ref r), .val (.int (0 : Int32)), .val (.int (1 : Int32)), .val (.ref t), .val (.int ev), .val (.int iv), .val (.int (0 : Int32)), .val (.int (t0 + ev))] [(.int (1 : Int32))])) _
      exact retN X0 hx (t := .boolean) Bd.returns (by simp) (Jvm.hb hby d4_101) hrL
    · show QZ h0 n0 _ s₁.heap _
      rw [e0]
      exact ⟨rfl, N0, rfl⟩
  · skip
    obtain ⟨cl630, Ar630, q630, S630, M630, H630, U630⟩ := id VR
    have in630 : ¬ ((0 : Int32) < 0 ∨ cl630.slots.size ≤ ((0 : Int32)).toNatClampNeg) := inb_of S630 ⟨by decide, by decide⟩
    have hz : lx0 = (0 : Int32) := (Int32.toInt_inj.mp (by rw [w0.2.2.2.1 qi]; decide))
    have pre631 := fun (τ : State) kt => pre626 τ (by
      show Steps p.tables e below (s₁.setTop (mkF m 9 #[.val (.ref r), .val (.int (0 : Int32)), .val (.int (1 : Int32)), .val (.ref t), .val (.int ev), .val (.int iv), .unset, .unset] [(.int iv)])) τ
      refine XS.ifNo X0.here hx rfl (Jvm.hb hby d4_9) rfl ((if0 _ _).trans (feq qi).1) ?_
      refine XS.iloadN X0.here hx rfl (Jvm.hb hby d4_12) rfl ?_
      refine XS.iconst X0.here hx rfl (Jvm.hb hby d4_13) ?_
      refine XS.isub X0.here hx rfl (Jvm.hb hby d4_14) rfl ?_
      refine XS.istore X0.here hx rfl (Jvm.hb hby d4_15) rfl (l' := #[.val (.ref r), .val (.int (0 : Int32)), .val (.int (1 : Int32)), .val (.ref t), .val (.int ev), .val (.int iv), .val (.int (0 : Int32)), .unset]) rfl ?_
      refine XS.goto X0.here hx rfl (pc0 := 17) (pc' := 88) rfl (Jvm.hb hby d4_17) (by decide) (by decide) ?_
      refine XS.aloadN X0.here hx rfl (Jvm.hb hby d4_88) rfl rfl ?_
      refine XS.iloadN X0.here hx rfl (Jvm.hb hby d4_89) rfl ?_
      refine X0.iaload hx ((congrArg (fun (HH : Heap) => HH[r]?) (e0 : s₁.heap = h0)).trans Ar630.1) (State.isArrayOf_alike hZ.alike Ar630.2.1) Ar630.2.2 in630 (H630.at in630 rfl) (g := (mkF m 90 #[.val (.ref r), .val (.int (0 : Int32)), .val (.int (1 : Int32)), .val (.ref t), .val (.int ev), .val (.int iv), .val (.int (0 : Int32)), .unset] [(.int (0 : Int32)), (.ref r)])) rfl rfl (Jvm.hb hby d4_90) _ ?_
      refine XS.iload X0.here hx rfl (Jvm.hb hby d4_91) rfl ?_
      refine XS.icmpNo X0.here hx rfl (Jvm.hb hby d4_93) rfl (teq hz).2 ?_
      refine XS.iconst X0.here hx rfl (Jvm.hb hby d4_96) ?_
      refine XS.goto X0.here hx rfl (pc0 := 97) (pc' := 101) rfl (Jvm.hb hby d4_97) (by decide) (by decide) ?_
      exact kt)
    obtain ⟨fs, hrL, hrun, hended, hW, hsame⟩ := X0.leave (v := some (.int (1 : Int32))) (fun h => by rw [Bd.returns] at h; cases h)
    refine ⟨_, _, cast (congrFun hPS _) (pre631 _ ?_), hrun, hended, _, _, rfl, ?_, ⟨_, rfl⟩, hW, hsame.mono (by decide) (by decide)⟩
    · show Steps p.tables e below (s₁.setTop (mkF m 101 #[.val (.ref r), .val (.int (0 : Int32)), .val (.int (1 : Int32)), .val (.ref t), .val (.int ev), .val (.int iv), .val (.int (0 : Int32)), .unset] [(.int (1 : Int32))])) _
      exact retN X0 hx (t := .boolean) Bd.returns (by simp) (Jvm.hb hby d4_101) hrL
    · show QZ h0 n0 _ s₁.heap _
      rw [e0]
      exact ⟨rfl, N0, rfl⟩
set_option maxRecDepth 65536 in
set_option maxHeartbeats 40000000 in
theorem rmC0_2 (l : Launch) (Z : State) (a0 : Array Value) (hw : ∀ d ∈ tables_1, d.before a0 Z = true) (ws : List Jvm.Cond) (r : Addr) (ci : Int32) (cn : Int32) (t : Addr) (ev : Int32) (iv : Int32) (kr kt : ClassId) (t0 t1 t2 t3 lx0 lx1 : Int32) (en : UInt64) (h0 : Heap) (n0 : Nat) (Z0 : n0 ≤ h0.size) (hi : ci = (0 : Int32)) (hn : cn = (2 : Int32)) (VR : Arv Z h0 r kr .int (2 : Int32) [(.int lx0), (.int lx1)] (.int (0 : Int32))) (VT : Arv Z h0 t kt .int (4 : Int32) [(.int t0), (.int t1), (.int t2), (.int t3)] (.int (0 : Int32))) (w0 : own_row 2 iv t1 t2 t3 t0 ev en lx0) :
    MetFree l (⟨"com/example/counterpath/counterpath/core/WindowLastsPinLaw", "check", "([III[IIZ)Z"⟩ : MethodName) (head1 (Jvm.Cond.code (⟨"com/example/counterpath/counterpath/core/WindowLastsPinLaw", "check", "([III[IIZ)Z"⟩ : MethodName) method_3_code 8 (some .boolean) :: ws) ({ frames := 0, cells := 0, slots := 0, locals := 0 } : Room)) (fun α U => α = #[(.ref r), (.int ci), (.int cn), (.ref t), (.int ev), (.int iv)] ∧ Z.Warmed39 U.vm ∧ U.heap = h0) (fun _ _ _ _ _ => True) (fun _ U ω U' => ∃ ν Λ, ω = .returned ν ∧ QZ h0 n0 ν U'.heap Λ ∧ FrameEnd U ω U' Λ ({ frames := 0, cells := 0, slots := 0, locals := 0 } : Room).cells ({ frames := 0, cells := 0, slots := 0, locals := 0 } : Room).slots) := by
  refine MetFree.of_bodySF (plainFor_of_name own_pn_com_example_counterpath_counterpath_core_WindowLastsPinLaw) hisR ?_
  intro p e s m args below meth c s₁ Bd hml0 hP hK
  obtain ⟨rfl, hZ, hh⟩ := hP
  have hx := Bd.exec
  have hby := Bd.bytes
  have hml : c.maxLocals = 8 := hml0
  have hown : s.vm.findClass "com/example/counterpath/counterpath/core/WindowLastsPinLaw" = some m.cls := findClass_of_methodNamed Bd.named
  have hnm := (name_of_methodNamed Bd.named Bd.method).1
  have X0 : Stand p l e ({ frames := 0, cells := 0, slots := 0, locals := 0 } : Room) s m #[(.ref r), (.int ci), (.int cn), (.ref t), (.int ev), (.int iv)] below meth c s₁ [] 0 0 := Stand.of_body Bd
  have e0 : s₁.heap = h0 := by rw [← hh, Bd.state]; rfl
  have N0 := Fr.nil n0
  have KK0 : Keep h0 h0 [] := Keep.refl h0 []
  obtain ⟨PS, hPS⟩ : ∃ P : State → Prop, P = fun τ => Steps p.tables e below (s₁.setTop (entryFrame m #[(.ref r), (.int ci), (.int cn), (.ref t), (.int ev), (.int iv)] 8)) τ := ⟨_, rfl⟩
  have pre0 : ∀ τ, Steps p.tables e below (s₁.setTop (mkF m 0 #[.val (.ref r), .val (.int ci), .val (.int cn), .val (.ref t), .val (.int ev), .val (.int iv), .unset, .unset] [])) τ → PS τ := by rw [hPS]; exact fun τ κ => castTop (own_ef4 m r ci cn t ev iv) κ
  have pre632 : ∀ τ, Steps p.tables e below (s₁.setTop (mkF m 0 #[.val (.ref r), .val (.int (0 : Int32)), .val (.int cn), .val (.ref t), .val (.int ev), .val (.int iv), .unset, .unset] [])) τ → PS τ := by have hq := pre0; rw [hi] at hq; exact hq
  have pre633 : ∀ τ, Steps p.tables e below (s₁.setTop (mkF m 0 #[.val (.ref r), .val (.int (0 : Int32)), .val (.int (2 : Int32)), .val (.ref t), .val (.int ev), .val (.int iv), .unset, .unset] [])) τ → PS τ := by have hq := pre632; rw [hn] at hq; exact hq
  have pre634 := fun (τ : State) kt => pre633 τ (by
    show Steps p.tables e below (s₁.setTop (mkF m 0 #[.val (.ref r), .val (.int (0 : Int32)), .val (.int (2 : Int32)), .val (.ref t), .val (.int ev), .val (.int iv), .unset, .unset] [])) τ
    refine XS.iloadN X0.here hx rfl (Jvm.hb hby d4_0) rfl ?_
    refine XS.iloadN X0.here hx rfl (Jvm.hb hby d4_1) rfl ?_
    refine XS.icmpYes X0.here hx rfl (pc0 := 2) (pc' := 7) rfl (Jvm.hb hby d4_2) rfl (tlt (by decide)).1 (by decide) (by decide) ?_
    refine XS.iload X0.here hx rfl (Jvm.hb hby d4_7) rfl ?_
    exact kt)
  by_cases qi : iv = (0 : Int32)
  · skip
    obtain ⟨cl635, Ar635, q635, S635, M635, H635, U635⟩ := id VT
    have in635 : ¬ ((0 : Int32) < 0 ∨ cl635.slots.size ≤ ((0 : Int32)).toNatClampNeg) := inb_of S635 ⟨by decide, by decide⟩
    obtain ⟨cl636, Ar636, q636, S636, M636, H636, U636⟩ := id VT
    have in636 : ¬ ((1 : Int32) < 0 ∨ cl636.slots.size ≤ ((1 : Int32)).toNatClampNeg) := inb_of S636 ⟨by decide, by decide⟩
    have pre637 := fun (τ : State) kt => pre634 τ (by
      show Steps p.tables e below (s₁.setTop (mkF m 9 #[.val (.ref r), .val (.int (0 : Int32)), .val (.int (2 : Int32)), .val (.ref t), .val (.int ev), .val (.int iv), .unset, .unset] [(.int iv)])) τ
      refine XS.ifYes X0.here hx rfl (pc0 := 9) (pc' := 20) rfl (Jvm.hb hby d4_9) rfl ((if0 _ _).trans (teq qi).1) (by decide) (by decide) ?_
      refine XS.aloadN X0.here hx rfl (Jvm.hb hby d4_20) rfl rfl ?_
      refine XS.iloadN X0.here hx rfl (Jvm.hb hby d4_21) rfl ?_
      refine X0.iaload hx ((congrArg (fun (HH : Heap) => HH[t]?) (e0 : s₁.heap = h0)).trans Ar635.1) (State.isArrayOf_alike hZ.alike Ar635.2.1) Ar635.2.2 in635 (H635.at in635 rfl) (g := (mkF m 22 #[.val (.ref r), .val (.int (0 : Int32)), .val (.int (2 : Int32)), .val (.ref t), .val (.int ev), .val (.int iv), .unset, .unset] [(.int (0 : Int32)), (.ref t)])) rfl rfl (Jvm.hb hby d4_22) _ ?_
      refine XS.iload X0.here hx rfl (Jvm.hb hby d4_23) rfl ?_
      refine XS.iadd X0.here hx rfl (Jvm.hb hby d4_25) rfl ?_
      refine XS.istore X0.here hx rfl (Jvm.hb hby d4_26) rfl (l' := #[.val (.ref r), .val (.int (0 : Int32)), .val (.int (2 : Int32)), .val (.ref t), .val (.int ev), .val (.int iv), .unset, .val (.int (t0 + ev))]) rfl ?_
      refine XS.iconst X0.here hx rfl (Jvm.hb hby d4_28) ?_
      refine XS.istore X0.here hx rfl (Jvm.hb hby d4_29) rfl (l' := #[.val (.ref r), .val (.int (0 : Int32)), .val (.int (2 : Int32)), .val (.ref t), .val (.int ev), .val (.int iv), .val (.int (0 : Int32)), .val (.int (t0 + ev))]) rfl ?_
      refine XS.iloadN X0.here hx rfl (Jvm.hb hby d4_31) rfl ?_
      refine XS.iconst X0.here hx rfl (Jvm.hb hby d4_32) ?_
      refine XS.icmpNo X0.here hx rfl (Jvm.hb hby d4_33) rfl (tlt (by decide)).2.2.2 ?_
      refine XS.aloadN X0.here hx rfl (Jvm.hb hby d4_36) rfl rfl ?_
      refine XS.iconst X0.here hx rfl (Jvm.hb hby d4_37) ?_
      refine X0.iaload hx ((congrArg (fun (HH : Heap) => HH[t]?) (e0 : s₁.heap = h0)).trans Ar636.1) (State.isArrayOf_alike hZ.alike Ar636.2.1) Ar636.2.2 in636 (H636.at in636 rfl) (g := (mkF m 38 #[.val (.ref r), .val (.int (0 : Int32)), .val (.int (2 : Int32)), .val (.ref t), .val (.int ev), .val (.int iv), .val (.int (0 : Int32)), .val (.int (t0 + ev))] [(.int (1 : Int32)), (.ref t)])) rfl rfl (Jvm.hb hby d4_38) _ ?_
      refine XS.iload X0.here hx rfl (Jvm.hb hby d4_39) rfl ?_
      exact kt)
    by_cases q1 : (t0 + ev) < t1
    · skip
      obtain ⟨cl638, Ar638, q638, S638, M638, H638, U638⟩ := id VR
      have in638 : ¬ ((0 : Int32) < 0 ∨ cl638.slots.size ≤ ((0 : Int32)).toNatClampNeg) := inb_of S638 ⟨by decide, by decide⟩
      have hz : lx0 = (0 : Int32) := (Int32.toInt_inj.mp (by rw [show (0 : Int32).toInt = 0 by decide]; have b0 := w0.1; have b1 := (w0.2.2.2.2.1 (by decide) qi).mp q1; omega))
      have pre639 := fun (τ : State) kt => pre637 τ (by
        show Steps p.tables e below (s₁.setTop (mkF m 41 #[.val (.ref r), .val (.int (0 : Int32)), .val (.int (2 : Int32)), .val (.ref t), .val (.int ev), .val (.int iv), .val (.int (0 : Int32)), .val (.int (t0 + ev))] [(.int (t0 + ev)), (.int t1)])) τ
        refine XS.icmpYes X0.here hx rfl (pc0 := 41) (pc' := 50) rfl (Jvm.hb hby d4_41) rfl (tlt q1).2.2.1 (by decide) (by decide) ?_
        refine XS.iloadN X0.here hx rfl (Jvm.hb hby d4_50) rfl ?_
        refine XS.iconst X0.here hx rfl (Jvm.hb hby d4_51) ?_
        refine XS.icmpYes X0.here hx rfl (pc0 := 52) (pc' := 69) rfl (Jvm.hb hby d4_52) rfl (flt (by decide)).2.2.2 (by decide) (by decide) ?_
        refine XS.iloadN X0.here hx rfl (Jvm.hb hby d4_69) rfl ?_
        refine XS.iconst X0.here hx rfl (Jvm.hb hby d4_70) ?_
        refine XS.icmpYes X0.here hx rfl (pc0 := 71) (pc' := 88) rfl (Jvm.hb hby d4_71) rfl (flt (by decide)).2.2.2 (by decide) (by decide) ?_
        refine XS.aloadN X0.here hx rfl (Jvm.hb hby d4_88) rfl rfl ?_
        refine XS.iloadN X0.here hx rfl (Jvm.hb hby d4_89) rfl ?_
        refine X0.iaload hx ((congrArg (fun (HH : Heap) => HH[r]?) (e0 : s₁.heap = h0)).trans Ar638.1) (State.isArrayOf_alike hZ.alike Ar638.2.1) Ar638.2.2 in638 (H638.at in638 rfl) (g := (mkF m 90 #[.val (.ref r), .val (.int (0 : Int32)), .val (.int (2 : Int32)), .val (.ref t), .val (.int ev), .val (.int iv), .val (.int (0 : Int32)), .val (.int (t0 + ev))] [(.int (0 : Int32)), (.ref r)])) rfl rfl (Jvm.hb hby d4_90) _ ?_
        refine XS.iload X0.here hx rfl (Jvm.hb hby d4_91) rfl ?_
        refine XS.icmpNo X0.here hx rfl (Jvm.hb hby d4_93) rfl (teq hz).2 ?_
        refine XS.iconst X0.here hx rfl (Jvm.hb hby d4_96) ?_
        refine XS.goto X0.here hx rfl (pc0 := 97) (pc' := 101) rfl (Jvm.hb hby d4_97) (by decide) (by decide) ?_
        exact kt)
      obtain ⟨fs, hrL, hrun, hended, hW, hsame⟩ := X0.leave (v := some (.int (1 : Int32))) (fun h => by rw [Bd.returns] at h; cases h)
      refine ⟨_, _, cast (congrFun hPS _) (pre639 _ ?_), hrun, hended, _, _, rfl, ?_, ⟨_, rfl⟩, hW, hsame.mono (by decide) (by decide)⟩
      · show Steps p.tables e below (s₁.setTop (mkF m 101 #[.val (.ref r), .val (.int (0 : Int32)), .val (.int (2 : Int32)), .val (.ref t), .val (.int ev), .val (.int iv), .val (.int (0 : Int32)), .val (.int (t0 + ev))] [(.int (1 : Int32))])) _
        exact retN X0 hx (t := .boolean) Bd.returns (by simp) (Jvm.hb hby d4_101) hrL
      · show QZ h0 n0 _ s₁.heap _
        rw [e0]
        exact ⟨rfl, N0, rfl⟩
    · skip
      obtain ⟨cl640, Ar640, q640, S640, M640, H640, U640⟩ := id VR
      have in640 : ¬ ((0 : Int32) < 0 ∨ cl640.slots.size ≤ ((0 : Int32)).toNatClampNeg) := inb_of S640 ⟨by decide, by decide⟩
      have hz : lx0 = (1 : Int32) := (Int32.toInt_inj.mp (by rw [show (1 : Int32).toInt = 1 by decide]; have b0 := w0.1; have b1 := Int.not_lt.mp (fun z => q1 ((w0.2.2.2.2.1 (by decide) qi).mpr z)); omega))
      have pre641 := fun (τ : State) kt => pre637 τ (by
        show Steps p.tables e below (s₁.setTop (mkF m 41 #[.val (.ref r), .val (.int (0 : Int32)), .val (.int (2 : Int32)), .val (.ref t), .val (.int ev), .val (.int iv), .val (.int (0 : Int32)), .val (.int (t0 + ev))] [(.int (t0 + ev)), (.int t1)])) τ
        refine XS.icmpNo X0.here hx rfl (Jvm.hb hby d4_41) rfl (flt q1).2.2.1 ?_
        refine XS.iload X0.here hx rfl (Jvm.hb hby d4_44) rfl ?_
        refine XS.iconst X0.here hx rfl (Jvm.hb hby d4_46) ?_
        refine XS.iadd X0.here hx rfl (Jvm.hb hby d4_47) rfl ?_
        refine XS.istore X0.here hx rfl (Jvm.hb hby d4_48) rfl (l' := #[.val (.ref r), .val (.int (0 : Int32)), .val (.int (2 : Int32)), .val (.ref t), .val (.int ev), .val (.int iv), .val (.int (1 : Int32)), .val (.int (t0 + ev))]) rfl ?_
        refine XS.iloadN X0.here hx rfl (Jvm.hb hby d4_50) rfl ?_
        refine XS.iconst X0.here hx rfl (Jvm.hb hby d4_51) ?_
        refine XS.icmpYes X0.here hx rfl (pc0 := 52) (pc' := 69) rfl (Jvm.hb hby d4_52) rfl (flt (by decide)).2.2.2 (by decide) (by decide) ?_
        refine XS.iloadN X0.here hx rfl (Jvm.hb hby d4_69) rfl ?_
        refine XS.iconst X0.here hx rfl (Jvm.hb hby d4_70) ?_
        refine XS.icmpYes X0.here hx rfl (pc0 := 71) (pc' := 88) rfl (Jvm.hb hby d4_71) rfl (flt (by decide)).2.2.2 (by decide) (by decide) ?_
        refine XS.aloadN X0.here hx rfl (Jvm.hb hby d4_88) rfl rfl ?_
        refine XS.iloadN X0.here hx rfl (Jvm.hb hby d4_89) rfl ?_
        refine X0.iaload hx ((congrArg (fun (HH : Heap) => HH[r]?) (e0 : s₁.heap = h0)).trans Ar640.1) (State.isArrayOf_alike hZ.alike Ar640.2.1) Ar640.2.2 in640 (H640.at in640 rfl) (g := (mkF m 90 #[.val (.ref r), .val (.int (0 : Int32)), .val (.int (2 : Int32)), .val (.ref t), .val (.int ev), .val (.int iv), .val (.int (1 : Int32)), .val (.int (t0 + ev))] [(.int (0 : Int32)), (.ref r)])) rfl rfl (Jvm.hb hby d4_90) _ ?_
        refine XS.iload X0.here hx rfl (Jvm.hb hby d4_91) rfl ?_
        refine XS.icmpNo X0.here hx rfl (Jvm.hb hby d4_93) rfl (teq hz).2 ?_
        refine XS.iconst X0.here hx rfl (Jvm.hb hby d4_96) ?_
        refine XS.goto X0.here hx rfl (pc0 := 97) (pc' := 101) rfl (Jvm.hb hby d4_97) (by decide) (by decide) ?_
        exact kt)
      obtain ⟨fs, hrL, hrun, hended, hW, hsame⟩ := X0.leave (v := some (.int (1 : Int32))) (fun h => by rw [Bd.returns] at h; cases h)
      refine ⟨_, _, cast (congrFun hPS _) (pre641 _ ?_), hrun, hended, _, _, rfl, ?_, ⟨_, rfl⟩, hW, hsame.mono (by decide) (by decide)⟩
      · show Steps p.tables e below (s₁.setTop (mkF m 101 #[.val (.ref r), .val (.int (0 : Int32)), .val (.int (2 : Int32)), .val (.ref t), .val (.int ev), .val (.int iv), .val (.int (1 : Int32)), .val (.int (t0 + ev))] [(.int (1 : Int32))])) _
        exact retN X0 hx (t := .boolean) Bd.returns (by simp) (Jvm.hb hby d4_101) hrL
      · show QZ h0 n0 _ s₁.heap _
        rw [e0]
        exact ⟨rfl, N0, rfl⟩
  · skip
    obtain ⟨cl642, Ar642, q642, S642, M642, H642, U642⟩ := id VR
    have in642 : ¬ ((0 : Int32) < 0 ∨ cl642.slots.size ≤ ((0 : Int32)).toNatClampNeg) := inb_of S642 ⟨by decide, by decide⟩
    have hz : lx0 = (1 : Int32) := (Int32.toInt_inj.mp (by rw [w0.2.2.2.1 qi]; decide))
    have pre643 := fun (τ : State) kt => pre634 τ (by
      show Steps p.tables e below (s₁.setTop (mkF m 9 #[.val (.ref r), .val (.int (0 : Int32)), .val (.int (2 : Int32)), .val (.ref t), .val (.int ev), .val (.int iv), .unset, .unset] [(.int iv)])) τ
      refine XS.ifNo X0.here hx rfl (Jvm.hb hby d4_9) rfl ((if0 _ _).trans (feq qi).1) ?_
      refine XS.iloadN X0.here hx rfl (Jvm.hb hby d4_12) rfl ?_
      refine XS.iconst X0.here hx rfl (Jvm.hb hby d4_13) ?_
      refine XS.isub X0.here hx rfl (Jvm.hb hby d4_14) rfl ?_
      refine XS.istore X0.here hx rfl (Jvm.hb hby d4_15) rfl (l' := #[.val (.ref r), .val (.int (0 : Int32)), .val (.int (2 : Int32)), .val (.ref t), .val (.int ev), .val (.int iv), .val (.int (1 : Int32)), .unset]) rfl ?_
      refine XS.goto X0.here hx rfl (pc0 := 17) (pc' := 88) rfl (Jvm.hb hby d4_17) (by decide) (by decide) ?_
      refine XS.aloadN X0.here hx rfl (Jvm.hb hby d4_88) rfl rfl ?_
      refine XS.iloadN X0.here hx rfl (Jvm.hb hby d4_89) rfl ?_
      refine X0.iaload hx ((congrArg (fun (HH : Heap) => HH[r]?) (e0 : s₁.heap = h0)).trans Ar642.1) (State.isArrayOf_alike hZ.alike Ar642.2.1) Ar642.2.2 in642 (H642.at in642 rfl) (g := (mkF m 90 #[.val (.ref r), .val (.int (0 : Int32)), .val (.int (2 : Int32)), .val (.ref t), .val (.int ev), .val (.int iv), .val (.int (1 : Int32)), .unset] [(.int (0 : Int32)), (.ref r)])) rfl rfl (Jvm.hb hby d4_90) _ ?_
      refine XS.iload X0.here hx rfl (Jvm.hb hby d4_91) rfl ?_
      refine XS.icmpNo X0.here hx rfl (Jvm.hb hby d4_93) rfl (teq hz).2 ?_
      refine XS.iconst X0.here hx rfl (Jvm.hb hby d4_96) ?_
      refine XS.goto X0.here hx rfl (pc0 := 97) (pc' := 101) rfl (Jvm.hb hby d4_97) (by decide) (by decide) ?_
      exact kt)
    obtain ⟨fs, hrL, hrun, hended, hW, hsame⟩ := X0.leave (v := some (.int (1 : Int32))) (fun h => by rw [Bd.returns] at h; cases h)
    refine ⟨_, _, cast (congrFun hPS _) (pre643 _ ?_), hrun, hended, _, _, rfl, ?_, ⟨_, rfl⟩, hW, hsame.mono (by decide) (by decide)⟩
    · show Steps p.tables e below (s₁.setTop (mkF m 101 #[.val (.ref r), .val (.int (0 : Int32)), .val (.int (2 : Int32)), .val (.ref t), .val (.int ev), .val (.int iv), .val (.int (1 : Int32)), .unset] [(.int (1 : Int32))])) _
      exact retN X0 hx (t := .boolean) Bd.returns (by simp) (Jvm.hb hby d4_101) hrL
    · show QZ h0 n0 _ s₁.heap _
      rw [e0]
      exact ⟨rfl, N0, rfl⟩
set_option maxRecDepth 65536 in
set_option maxHeartbeats 40000000 in
theorem rmC1_2 (l : Launch) (Z : State) (a0 : Array Value) (hw : ∀ d ∈ tables_1, d.before a0 Z = true) (ws : List Jvm.Cond) (r : Addr) (ci : Int32) (cn : Int32) (t : Addr) (ev : Int32) (iv : Int32) (kr kt : ClassId) (t0 t1 t2 t3 lx0 lx1 : Int32) (en : UInt64) (h0 : Heap) (n0 : Nat) (Z0 : n0 ≤ h0.size) (hi : ci = (1 : Int32)) (hn : cn = (2 : Int32)) (VR : Arv Z h0 r kr .int (2 : Int32) [(.int lx0), (.int lx1)] (.int (0 : Int32))) (VT : Arv Z h0 t kt .int (4 : Int32) [(.int t0), (.int t1), (.int t2), (.int t3)] (.int (0 : Int32))) (w0 : own_row 2 iv t1 t2 t3 t1 ev en lx1) :
    MetFree l (⟨"com/example/counterpath/counterpath/core/WindowLastsPinLaw", "check", "([III[IIZ)Z"⟩ : MethodName) (head1 (Jvm.Cond.code (⟨"com/example/counterpath/counterpath/core/WindowLastsPinLaw", "check", "([III[IIZ)Z"⟩ : MethodName) method_3_code 8 (some .boolean) :: ws) ({ frames := 0, cells := 0, slots := 0, locals := 0 } : Room)) (fun α U => α = #[(.ref r), (.int ci), (.int cn), (.ref t), (.int ev), (.int iv)] ∧ Z.Warmed39 U.vm ∧ U.heap = h0) (fun _ _ _ _ _ => True) (fun _ U ω U' => ∃ ν Λ, ω = .returned ν ∧ QZ h0 n0 ν U'.heap Λ ∧ FrameEnd U ω U' Λ ({ frames := 0, cells := 0, slots := 0, locals := 0 } : Room).cells ({ frames := 0, cells := 0, slots := 0, locals := 0 } : Room).slots) := by
  refine MetFree.of_bodySF (plainFor_of_name own_pn_com_example_counterpath_counterpath_core_WindowLastsPinLaw) hisR ?_
  intro p e s m args below meth c s₁ Bd hml0 hP hK
  obtain ⟨rfl, hZ, hh⟩ := hP
  have hx := Bd.exec
  have hby := Bd.bytes
  have hml : c.maxLocals = 8 := hml0
  have hown : s.vm.findClass "com/example/counterpath/counterpath/core/WindowLastsPinLaw" = some m.cls := findClass_of_methodNamed Bd.named
  have hnm := (name_of_methodNamed Bd.named Bd.method).1
  have X0 : Stand p l e ({ frames := 0, cells := 0, slots := 0, locals := 0 } : Room) s m #[(.ref r), (.int ci), (.int cn), (.ref t), (.int ev), (.int iv)] below meth c s₁ [] 0 0 := Stand.of_body Bd
  have e0 : s₁.heap = h0 := by rw [← hh, Bd.state]; rfl
  have N0 := Fr.nil n0
  have KK0 : Keep h0 h0 [] := Keep.refl h0 []
  obtain ⟨PS, hPS⟩ : ∃ P : State → Prop, P = fun τ => Steps p.tables e below (s₁.setTop (entryFrame m #[(.ref r), (.int ci), (.int cn), (.ref t), (.int ev), (.int iv)] 8)) τ := ⟨_, rfl⟩
  have pre0 : ∀ τ, Steps p.tables e below (s₁.setTop (mkF m 0 #[.val (.ref r), .val (.int ci), .val (.int cn), .val (.ref t), .val (.int ev), .val (.int iv), .unset, .unset] [])) τ → PS τ := by rw [hPS]; exact fun τ κ => castTop (own_ef4 m r ci cn t ev iv) κ
  have pre644 : ∀ τ, Steps p.tables e below (s₁.setTop (mkF m 0 #[.val (.ref r), .val (.int (1 : Int32)), .val (.int cn), .val (.ref t), .val (.int ev), .val (.int iv), .unset, .unset] [])) τ → PS τ := by have hq := pre0; rw [hi] at hq; exact hq
  have pre645 : ∀ τ, Steps p.tables e below (s₁.setTop (mkF m 0 #[.val (.ref r), .val (.int (1 : Int32)), .val (.int (2 : Int32)), .val (.ref t), .val (.int ev), .val (.int iv), .unset, .unset] [])) τ → PS τ := by have hq := pre644; rw [hn] at hq; exact hq
  have pre646 := fun (τ : State) kt => pre645 τ (by
    show Steps p.tables e below (s₁.setTop (mkF m 0 #[.val (.ref r), .val (.int (1 : Int32)), .val (.int (2 : Int32)), .val (.ref t), .val (.int ev), .val (.int iv), .unset, .unset] [])) τ
    refine XS.iloadN X0.here hx rfl (Jvm.hb hby d4_0) rfl ?_
    refine XS.iloadN X0.here hx rfl (Jvm.hb hby d4_1) rfl ?_
    refine XS.icmpYes X0.here hx rfl (pc0 := 2) (pc' := 7) rfl (Jvm.hb hby d4_2) rfl (tlt (by decide)).1 (by decide) (by decide) ?_
    refine XS.iload X0.here hx rfl (Jvm.hb hby d4_7) rfl ?_
    exact kt)
  by_cases qi : iv = (0 : Int32)
  · skip
    obtain ⟨cl647, Ar647, q647, S647, M647, H647, U647⟩ := id VT
    have in647 : ¬ ((1 : Int32) < 0 ∨ cl647.slots.size ≤ ((1 : Int32)).toNatClampNeg) := inb_of S647 ⟨by decide, by decide⟩
    obtain ⟨cl648, Ar648, q648, S648, M648, H648, U648⟩ := id VT
    have in648 : ¬ ((1 : Int32) < 0 ∨ cl648.slots.size ≤ ((1 : Int32)).toNatClampNeg) := inb_of S648 ⟨by decide, by decide⟩
    have pre649 := fun (τ : State) kt => pre646 τ (by
      show Steps p.tables e below (s₁.setTop (mkF m 9 #[.val (.ref r), .val (.int (1 : Int32)), .val (.int (2 : Int32)), .val (.ref t), .val (.int ev), .val (.int iv), .unset, .unset] [(.int iv)])) τ
      refine XS.ifYes X0.here hx rfl (pc0 := 9) (pc' := 20) rfl (Jvm.hb hby d4_9) rfl ((if0 _ _).trans (teq qi).1) (by decide) (by decide) ?_
      refine XS.aloadN X0.here hx rfl (Jvm.hb hby d4_20) rfl rfl ?_
      refine XS.iloadN X0.here hx rfl (Jvm.hb hby d4_21) rfl ?_
      refine X0.iaload hx ((congrArg (fun (HH : Heap) => HH[t]?) (e0 : s₁.heap = h0)).trans Ar647.1) (State.isArrayOf_alike hZ.alike Ar647.2.1) Ar647.2.2 in647 (H647.at in647 rfl) (g := (mkF m 22 #[.val (.ref r), .val (.int (1 : Int32)), .val (.int (2 : Int32)), .val (.ref t), .val (.int ev), .val (.int iv), .unset, .unset] [(.int (1 : Int32)), (.ref t)])) rfl rfl (Jvm.hb hby d4_22) _ ?_
      refine XS.iload X0.here hx rfl (Jvm.hb hby d4_23) rfl ?_
      refine XS.iadd X0.here hx rfl (Jvm.hb hby d4_25) rfl ?_
      refine XS.istore X0.here hx rfl (Jvm.hb hby d4_26) rfl (l' := #[.val (.ref r), .val (.int (1 : Int32)), .val (.int (2 : Int32)), .val (.ref t), .val (.int ev), .val (.int iv), .unset, .val (.int (t1 + ev))]) rfl ?_
      refine XS.iconst X0.here hx rfl (Jvm.hb hby d4_28) ?_
      refine XS.istore X0.here hx rfl (Jvm.hb hby d4_29) rfl (l' := #[.val (.ref r), .val (.int (1 : Int32)), .val (.int (2 : Int32)), .val (.ref t), .val (.int ev), .val (.int iv), .val (.int (0 : Int32)), .val (.int (t1 + ev))]) rfl ?_
      refine XS.iloadN X0.here hx rfl (Jvm.hb hby d4_31) rfl ?_
      refine XS.iconst X0.here hx rfl (Jvm.hb hby d4_32) ?_
      refine XS.icmpNo X0.here hx rfl (Jvm.hb hby d4_33) rfl (tlt (by decide)).2.2.2 ?_
      refine XS.aloadN X0.here hx rfl (Jvm.hb hby d4_36) rfl rfl ?_
      refine XS.iconst X0.here hx rfl (Jvm.hb hby d4_37) ?_
      refine X0.iaload hx ((congrArg (fun (HH : Heap) => HH[t]?) (e0 : s₁.heap = h0)).trans Ar648.1) (State.isArrayOf_alike hZ.alike Ar648.2.1) Ar648.2.2 in648 (H648.at in648 rfl) (g := (mkF m 38 #[.val (.ref r), .val (.int (1 : Int32)), .val (.int (2 : Int32)), .val (.ref t), .val (.int ev), .val (.int iv), .val (.int (0 : Int32)), .val (.int (t1 + ev))] [(.int (1 : Int32)), (.ref t)])) rfl rfl (Jvm.hb hby d4_38) _ ?_
      refine XS.iload X0.here hx rfl (Jvm.hb hby d4_39) rfl ?_
      exact kt)
    by_cases q1 : (t1 + ev) < t1
    · skip
      obtain ⟨cl650, Ar650, q650, S650, M650, H650, U650⟩ := id VR
      have in650 : ¬ ((1 : Int32) < 0 ∨ cl650.slots.size ≤ ((1 : Int32)).toNatClampNeg) := inb_of S650 ⟨by decide, by decide⟩
      have hz : lx1 = (0 : Int32) := (Int32.toInt_inj.mp (by rw [show (0 : Int32).toInt = 0 by decide]; have b0 := w0.1; have b1 := (w0.2.2.2.2.1 (by decide) qi).mp q1; omega))
      have pre651 := fun (τ : State) kt => pre649 τ (by
        show Steps p.tables e below (s₁.setTop (mkF m 41 #[.val (.ref r), .val (.int (1 : Int32)), .val (.int (2 : Int32)), .val (.ref t), .val (.int ev), .val (.int iv), .val (.int (0 : Int32)), .val (.int (t1 + ev))] [(.int (t1 + ev)), (.int t1)])) τ
        refine XS.icmpYes X0.here hx rfl (pc0 := 41) (pc' := 50) rfl (Jvm.hb hby d4_41) rfl (tlt q1).2.2.1 (by decide) (by decide) ?_
        refine XS.iloadN X0.here hx rfl (Jvm.hb hby d4_50) rfl ?_
        refine XS.iconst X0.here hx rfl (Jvm.hb hby d4_51) ?_
        refine XS.icmpYes X0.here hx rfl (pc0 := 52) (pc' := 69) rfl (Jvm.hb hby d4_52) rfl (flt (by decide)).2.2.2 (by decide) (by decide) ?_
        refine XS.iloadN X0.here hx rfl (Jvm.hb hby d4_69) rfl ?_
        refine XS.iconst X0.here hx rfl (Jvm.hb hby d4_70) ?_
        refine XS.icmpYes X0.here hx rfl (pc0 := 71) (pc' := 88) rfl (Jvm.hb hby d4_71) rfl (flt (by decide)).2.2.2 (by decide) (by decide) ?_
        refine XS.aloadN X0.here hx rfl (Jvm.hb hby d4_88) rfl rfl ?_
        refine XS.iloadN X0.here hx rfl (Jvm.hb hby d4_89) rfl ?_
        refine X0.iaload hx ((congrArg (fun (HH : Heap) => HH[r]?) (e0 : s₁.heap = h0)).trans Ar650.1) (State.isArrayOf_alike hZ.alike Ar650.2.1) Ar650.2.2 in650 (H650.at in650 rfl) (g := (mkF m 90 #[.val (.ref r), .val (.int (1 : Int32)), .val (.int (2 : Int32)), .val (.ref t), .val (.int ev), .val (.int iv), .val (.int (0 : Int32)), .val (.int (t1 + ev))] [(.int (1 : Int32)), (.ref r)])) rfl rfl (Jvm.hb hby d4_90) _ ?_
        refine XS.iload X0.here hx rfl (Jvm.hb hby d4_91) rfl ?_
        refine XS.icmpNo X0.here hx rfl (Jvm.hb hby d4_93) rfl (teq hz).2 ?_
        refine XS.iconst X0.here hx rfl (Jvm.hb hby d4_96) ?_
        refine XS.goto X0.here hx rfl (pc0 := 97) (pc' := 101) rfl (Jvm.hb hby d4_97) (by decide) (by decide) ?_
        exact kt)
      obtain ⟨fs, hrL, hrun, hended, hW, hsame⟩ := X0.leave (v := some (.int (1 : Int32))) (fun h => by rw [Bd.returns] at h; cases h)
      refine ⟨_, _, cast (congrFun hPS _) (pre651 _ ?_), hrun, hended, _, _, rfl, ?_, ⟨_, rfl⟩, hW, hsame.mono (by decide) (by decide)⟩
      · show Steps p.tables e below (s₁.setTop (mkF m 101 #[.val (.ref r), .val (.int (1 : Int32)), .val (.int (2 : Int32)), .val (.ref t), .val (.int ev), .val (.int iv), .val (.int (0 : Int32)), .val (.int (t1 + ev))] [(.int (1 : Int32))])) _
        exact retN X0 hx (t := .boolean) Bd.returns (by simp) (Jvm.hb hby d4_101) hrL
      · show QZ h0 n0 _ s₁.heap _
        rw [e0]
        exact ⟨rfl, N0, rfl⟩
    · skip
      obtain ⟨cl652, Ar652, q652, S652, M652, H652, U652⟩ := id VR
      have in652 : ¬ ((1 : Int32) < 0 ∨ cl652.slots.size ≤ ((1 : Int32)).toNatClampNeg) := inb_of S652 ⟨by decide, by decide⟩
      have hz : lx1 = (1 : Int32) := (Int32.toInt_inj.mp (by rw [show (1 : Int32).toInt = 1 by decide]; have b0 := w0.1; have b1 := Int.not_lt.mp (fun z => q1 ((w0.2.2.2.2.1 (by decide) qi).mpr z)); omega))
      have pre653 := fun (τ : State) kt => pre649 τ (by
        show Steps p.tables e below (s₁.setTop (mkF m 41 #[.val (.ref r), .val (.int (1 : Int32)), .val (.int (2 : Int32)), .val (.ref t), .val (.int ev), .val (.int iv), .val (.int (0 : Int32)), .val (.int (t1 + ev))] [(.int (t1 + ev)), (.int t1)])) τ
        refine XS.icmpNo X0.here hx rfl (Jvm.hb hby d4_41) rfl (flt q1).2.2.1 ?_
        refine XS.iload X0.here hx rfl (Jvm.hb hby d4_44) rfl ?_
        refine XS.iconst X0.here hx rfl (Jvm.hb hby d4_46) ?_
        refine XS.iadd X0.here hx rfl (Jvm.hb hby d4_47) rfl ?_
        refine XS.istore X0.here hx rfl (Jvm.hb hby d4_48) rfl (l' := #[.val (.ref r), .val (.int (1 : Int32)), .val (.int (2 : Int32)), .val (.ref t), .val (.int ev), .val (.int iv), .val (.int (1 : Int32)), .val (.int (t1 + ev))]) rfl ?_
        refine XS.iloadN X0.here hx rfl (Jvm.hb hby d4_50) rfl ?_
        refine XS.iconst X0.here hx rfl (Jvm.hb hby d4_51) ?_
        refine XS.icmpYes X0.here hx rfl (pc0 := 52) (pc' := 69) rfl (Jvm.hb hby d4_52) rfl (flt (by decide)).2.2.2 (by decide) (by decide) ?_
        refine XS.iloadN X0.here hx rfl (Jvm.hb hby d4_69) rfl ?_
        refine XS.iconst X0.here hx rfl (Jvm.hb hby d4_70) ?_
        refine XS.icmpYes X0.here hx rfl (pc0 := 71) (pc' := 88) rfl (Jvm.hb hby d4_71) rfl (flt (by decide)).2.2.2 (by decide) (by decide) ?_
        refine XS.aloadN X0.here hx rfl (Jvm.hb hby d4_88) rfl rfl ?_
        refine XS.iloadN X0.here hx rfl (Jvm.hb hby d4_89) rfl ?_
        refine X0.iaload hx ((congrArg (fun (HH : Heap) => HH[r]?) (e0 : s₁.heap = h0)).trans Ar652.1) (State.isArrayOf_alike hZ.alike Ar652.2.1) Ar652.2.2 in652 (H652.at in652 rfl) (g := (mkF m 90 #[.val (.ref r), .val (.int (1 : Int32)), .val (.int (2 : Int32)), .val (.ref t), .val (.int ev), .val (.int iv), .val (.int (1 : Int32)), .val (.int (t1 + ev))] [(.int (1 : Int32)), (.ref r)])) rfl rfl (Jvm.hb hby d4_90) _ ?_
        refine XS.iload X0.here hx rfl (Jvm.hb hby d4_91) rfl ?_
        refine XS.icmpNo X0.here hx rfl (Jvm.hb hby d4_93) rfl (teq hz).2 ?_
        refine XS.iconst X0.here hx rfl (Jvm.hb hby d4_96) ?_
        refine XS.goto X0.here hx rfl (pc0 := 97) (pc' := 101) rfl (Jvm.hb hby d4_97) (by decide) (by decide) ?_
        exact kt)
      obtain ⟨fs, hrL, hrun, hended, hW, hsame⟩ := X0.leave (v := some (.int (1 : Int32))) (fun h => by rw [Bd.returns] at h; cases h)
      refine ⟨_, _, cast (congrFun hPS _) (pre653 _ ?_), hrun, hended, _, _, rfl, ?_, ⟨_, rfl⟩, hW, hsame.mono (by decide) (by decide)⟩
      · show Steps p.tables e below (s₁.setTop (mkF m 101 #[.val (.ref r), .val (.int (1 : Int32)), .val (.int (2 : Int32)), .val (.ref t), .val (.int ev), .val (.int iv), .val (.int (1 : Int32)), .val (.int (t1 + ev))] [(.int (1 : Int32))])) _
        exact retN X0 hx (t := .boolean) Bd.returns (by simp) (Jvm.hb hby d4_101) hrL
      · show QZ h0 n0 _ s₁.heap _
        rw [e0]
        exact ⟨rfl, N0, rfl⟩
  · skip
    obtain ⟨cl654, Ar654, q654, S654, M654, H654, U654⟩ := id VR
    have in654 : ¬ ((1 : Int32) < 0 ∨ cl654.slots.size ≤ ((1 : Int32)).toNatClampNeg) := inb_of S654 ⟨by decide, by decide⟩
    have hz : lx1 = (1 : Int32) := (Int32.toInt_inj.mp (by rw [w0.2.2.2.1 qi]; decide))
    have pre655 := fun (τ : State) kt => pre646 τ (by
      show Steps p.tables e below (s₁.setTop (mkF m 9 #[.val (.ref r), .val (.int (1 : Int32)), .val (.int (2 : Int32)), .val (.ref t), .val (.int ev), .val (.int iv), .unset, .unset] [(.int iv)])) τ
      refine XS.ifNo X0.here hx rfl (Jvm.hb hby d4_9) rfl ((if0 _ _).trans (feq qi).1) ?_
      refine XS.iloadN X0.here hx rfl (Jvm.hb hby d4_12) rfl ?_
      refine XS.iconst X0.here hx rfl (Jvm.hb hby d4_13) ?_
      refine XS.isub X0.here hx rfl (Jvm.hb hby d4_14) rfl ?_
      refine XS.istore X0.here hx rfl (Jvm.hb hby d4_15) rfl (l' := #[.val (.ref r), .val (.int (1 : Int32)), .val (.int (2 : Int32)), .val (.ref t), .val (.int ev), .val (.int iv), .val (.int (1 : Int32)), .unset]) rfl ?_
      refine XS.goto X0.here hx rfl (pc0 := 17) (pc' := 88) rfl (Jvm.hb hby d4_17) (by decide) (by decide) ?_
      refine XS.aloadN X0.here hx rfl (Jvm.hb hby d4_88) rfl rfl ?_
      refine XS.iloadN X0.here hx rfl (Jvm.hb hby d4_89) rfl ?_
      refine X0.iaload hx ((congrArg (fun (HH : Heap) => HH[r]?) (e0 : s₁.heap = h0)).trans Ar654.1) (State.isArrayOf_alike hZ.alike Ar654.2.1) Ar654.2.2 in654 (H654.at in654 rfl) (g := (mkF m 90 #[.val (.ref r), .val (.int (1 : Int32)), .val (.int (2 : Int32)), .val (.ref t), .val (.int ev), .val (.int iv), .val (.int (1 : Int32)), .unset] [(.int (1 : Int32)), (.ref r)])) rfl rfl (Jvm.hb hby d4_90) _ ?_
      refine XS.iload X0.here hx rfl (Jvm.hb hby d4_91) rfl ?_
      refine XS.icmpNo X0.here hx rfl (Jvm.hb hby d4_93) rfl (teq hz).2 ?_
      refine XS.iconst X0.here hx rfl (Jvm.hb hby d4_96) ?_
      refine XS.goto X0.here hx rfl (pc0 := 97) (pc' := 101) rfl (Jvm.hb hby d4_97) (by decide) (by decide) ?_
      exact kt)
    obtain ⟨fs, hrL, hrun, hended, hW, hsame⟩ := X0.leave (v := some (.int (1 : Int32))) (fun h => by rw [Bd.returns] at h; cases h)
    refine ⟨_, _, cast (congrFun hPS _) (pre655 _ ?_), hrun, hended, _, _, rfl, ?_, ⟨_, rfl⟩, hW, hsame.mono (by decide) (by decide)⟩
    · show Steps p.tables e below (s₁.setTop (mkF m 101 #[.val (.ref r), .val (.int (1 : Int32)), .val (.int (2 : Int32)), .val (.ref t), .val (.int ev), .val (.int iv), .val (.int (1 : Int32)), .unset] [(.int (1 : Int32))])) _
      exact retN X0 hx (t := .boolean) Bd.returns (by simp) (Jvm.hb hby d4_101) hrL
    · show QZ h0 n0 _ s₁.heap _
      rw [e0]
      exact ⟨rfl, N0, rfl⟩
set_option maxRecDepth 65536 in
set_option maxHeartbeats 40000000 in
theorem rmC0_3 (l : Launch) (Z : State) (a0 : Array Value) (hw : ∀ d ∈ tables_1, d.before a0 Z = true) (ws : List Jvm.Cond) (r : Addr) (ci : Int32) (cn : Int32) (t : Addr) (ev : Int32) (iv : Int32) (kr kt : ClassId) (t0 t1 t2 t3 lx0 lx1 lx2 : Int32) (en : UInt64) (h0 : Heap) (n0 : Nat) (Z0 : n0 ≤ h0.size) (hi : ci = (0 : Int32)) (hn : cn = (3 : Int32)) (VR : Arv Z h0 r kr .int (3 : Int32) [(.int lx0), (.int lx1), (.int lx2)] (.int (0 : Int32))) (VT : Arv Z h0 t kt .int (4 : Int32) [(.int t0), (.int t1), (.int t2), (.int t3)] (.int (0 : Int32))) (w0 : own_row 3 iv t1 t2 t3 t0 ev en lx0) :
    MetFree l (⟨"com/example/counterpath/counterpath/core/WindowLastsPinLaw", "check", "([III[IIZ)Z"⟩ : MethodName) (head1 (Jvm.Cond.code (⟨"com/example/counterpath/counterpath/core/WindowLastsPinLaw", "check", "([III[IIZ)Z"⟩ : MethodName) method_3_code 8 (some .boolean) :: ws) ({ frames := 0, cells := 0, slots := 0, locals := 0 } : Room)) (fun α U => α = #[(.ref r), (.int ci), (.int cn), (.ref t), (.int ev), (.int iv)] ∧ Z.Warmed39 U.vm ∧ U.heap = h0) (fun _ _ _ _ _ => True) (fun _ U ω U' => ∃ ν Λ, ω = .returned ν ∧ QZ h0 n0 ν U'.heap Λ ∧ FrameEnd U ω U' Λ ({ frames := 0, cells := 0, slots := 0, locals := 0 } : Room).cells ({ frames := 0, cells := 0, slots := 0, locals := 0 } : Room).slots) := by
  refine MetFree.of_bodySF (plainFor_of_name own_pn_com_example_counterpath_counterpath_core_WindowLastsPinLaw) hisR ?_
  intro p e s m args below meth c s₁ Bd hml0 hP hK
  obtain ⟨rfl, hZ, hh⟩ := hP
  have hx := Bd.exec
  have hby := Bd.bytes
  have hml : c.maxLocals = 8 := hml0
  have hown : s.vm.findClass "com/example/counterpath/counterpath/core/WindowLastsPinLaw" = some m.cls := findClass_of_methodNamed Bd.named
  have hnm := (name_of_methodNamed Bd.named Bd.method).1
  have X0 : Stand p l e ({ frames := 0, cells := 0, slots := 0, locals := 0 } : Room) s m #[(.ref r), (.int ci), (.int cn), (.ref t), (.int ev), (.int iv)] below meth c s₁ [] 0 0 := Stand.of_body Bd
  have e0 : s₁.heap = h0 := by rw [← hh, Bd.state]; rfl
  have N0 := Fr.nil n0
  have KK0 : Keep h0 h0 [] := Keep.refl h0 []
  obtain ⟨PS, hPS⟩ : ∃ P : State → Prop, P = fun τ => Steps p.tables e below (s₁.setTop (entryFrame m #[(.ref r), (.int ci), (.int cn), (.ref t), (.int ev), (.int iv)] 8)) τ := ⟨_, rfl⟩
  have pre0 : ∀ τ, Steps p.tables e below (s₁.setTop (mkF m 0 #[.val (.ref r), .val (.int ci), .val (.int cn), .val (.ref t), .val (.int ev), .val (.int iv), .unset, .unset] [])) τ → PS τ := by rw [hPS]; exact fun τ κ => castTop (own_ef4 m r ci cn t ev iv) κ
  have pre656 : ∀ τ, Steps p.tables e below (s₁.setTop (mkF m 0 #[.val (.ref r), .val (.int (0 : Int32)), .val (.int cn), .val (.ref t), .val (.int ev), .val (.int iv), .unset, .unset] [])) τ → PS τ := by have hq := pre0; rw [hi] at hq; exact hq
  have pre657 : ∀ τ, Steps p.tables e below (s₁.setTop (mkF m 0 #[.val (.ref r), .val (.int (0 : Int32)), .val (.int (3 : Int32)), .val (.ref t), .val (.int ev), .val (.int iv), .unset, .unset] [])) τ → PS τ := by have hq := pre656; rw [hn] at hq; exact hq
  have pre658 := fun (τ : State) kt => pre657 τ (by
    show Steps p.tables e below (s₁.setTop (mkF m 0 #[.val (.ref r), .val (.int (0 : Int32)), .val (.int (3 : Int32)), .val (.ref t), .val (.int ev), .val (.int iv), .unset, .unset] [])) τ
    refine XS.iloadN X0.here hx rfl (Jvm.hb hby d4_0) rfl ?_
    refine XS.iloadN X0.here hx rfl (Jvm.hb hby d4_1) rfl ?_
    refine XS.icmpYes X0.here hx rfl (pc0 := 2) (pc' := 7) rfl (Jvm.hb hby d4_2) rfl (tlt (by decide)).1 (by decide) (by decide) ?_
    refine XS.iload X0.here hx rfl (Jvm.hb hby d4_7) rfl ?_
    exact kt)
  by_cases qi : iv = (0 : Int32)
  · skip
    obtain ⟨cl659, Ar659, q659, S659, M659, H659, U659⟩ := id VT
    have in659 : ¬ ((0 : Int32) < 0 ∨ cl659.slots.size ≤ ((0 : Int32)).toNatClampNeg) := inb_of S659 ⟨by decide, by decide⟩
    obtain ⟨cl660, Ar660, q660, S660, M660, H660, U660⟩ := id VT
    have in660 : ¬ ((1 : Int32) < 0 ∨ cl660.slots.size ≤ ((1 : Int32)).toNatClampNeg) := inb_of S660 ⟨by decide, by decide⟩
    have pre661 := fun (τ : State) kt => pre658 τ (by
      show Steps p.tables e below (s₁.setTop (mkF m 9 #[.val (.ref r), .val (.int (0 : Int32)), .val (.int (3 : Int32)), .val (.ref t), .val (.int ev), .val (.int iv), .unset, .unset] [(.int iv)])) τ
      refine XS.ifYes X0.here hx rfl (pc0 := 9) (pc' := 20) rfl (Jvm.hb hby d4_9) rfl ((if0 _ _).trans (teq qi).1) (by decide) (by decide) ?_
      refine XS.aloadN X0.here hx rfl (Jvm.hb hby d4_20) rfl rfl ?_
      refine XS.iloadN X0.here hx rfl (Jvm.hb hby d4_21) rfl ?_
      refine X0.iaload hx ((congrArg (fun (HH : Heap) => HH[t]?) (e0 : s₁.heap = h0)).trans Ar659.1) (State.isArrayOf_alike hZ.alike Ar659.2.1) Ar659.2.2 in659 (H659.at in659 rfl) (g := (mkF m 22 #[.val (.ref r), .val (.int (0 : Int32)), .val (.int (3 : Int32)), .val (.ref t), .val (.int ev), .val (.int iv), .unset, .unset] [(.int (0 : Int32)), (.ref t)])) rfl rfl (Jvm.hb hby d4_22) _ ?_
      refine XS.iload X0.here hx rfl (Jvm.hb hby d4_23) rfl ?_
      refine XS.iadd X0.here hx rfl (Jvm.hb hby d4_25) rfl ?_
      refine XS.istore X0.here hx rfl (Jvm.hb hby d4_26) rfl (l' := #[.val (.ref r), .val (.int (0 : Int32)), .val (.int (3 : Int32)), .val (.ref t), .val (.int ev), .val (.int iv), .unset, .val (.int (t0 + ev))]) rfl ?_
      refine XS.iconst X0.here hx rfl (Jvm.hb hby d4_28) ?_
      refine XS.istore X0.here hx rfl (Jvm.hb hby d4_29) rfl (l' := #[.val (.ref r), .val (.int (0 : Int32)), .val (.int (3 : Int32)), .val (.ref t), .val (.int ev), .val (.int iv), .val (.int (0 : Int32)), .val (.int (t0 + ev))]) rfl ?_
      refine XS.iloadN X0.here hx rfl (Jvm.hb hby d4_31) rfl ?_
      refine XS.iconst X0.here hx rfl (Jvm.hb hby d4_32) ?_
      refine XS.icmpNo X0.here hx rfl (Jvm.hb hby d4_33) rfl (tlt (by decide)).2.2.2 ?_
      refine XS.aloadN X0.here hx rfl (Jvm.hb hby d4_36) rfl rfl ?_
      refine XS.iconst X0.here hx rfl (Jvm.hb hby d4_37) ?_
      refine X0.iaload hx ((congrArg (fun (HH : Heap) => HH[t]?) (e0 : s₁.heap = h0)).trans Ar660.1) (State.isArrayOf_alike hZ.alike Ar660.2.1) Ar660.2.2 in660 (H660.at in660 rfl) (g := (mkF m 38 #[.val (.ref r), .val (.int (0 : Int32)), .val (.int (3 : Int32)), .val (.ref t), .val (.int ev), .val (.int iv), .val (.int (0 : Int32)), .val (.int (t0 + ev))] [(.int (1 : Int32)), (.ref t)])) rfl rfl (Jvm.hb hby d4_38) _ ?_
      refine XS.iload X0.here hx rfl (Jvm.hb hby d4_39) rfl ?_
      exact kt)
    by_cases q1 : (t0 + ev) < t1
    · skip
      obtain ⟨cl662, Ar662, q662, S662, M662, H662, U662⟩ := id VT
      have in662 : ¬ ((2 : Int32) < 0 ∨ cl662.slots.size ≤ ((2 : Int32)).toNatClampNeg) := inb_of S662 ⟨by decide, by decide⟩
      have pre663 := fun (τ : State) kt => pre661 τ (by
        show Steps p.tables e below (s₁.setTop (mkF m 41 #[.val (.ref r), .val (.int (0 : Int32)), .val (.int (3 : Int32)), .val (.ref t), .val (.int ev), .val (.int iv), .val (.int (0 : Int32)), .val (.int (t0 + ev))] [(.int (t0 + ev)), (.int t1)])) τ
        refine XS.icmpYes X0.here hx rfl (pc0 := 41) (pc' := 50) rfl (Jvm.hb hby d4_41) rfl (tlt q1).2.2.1 (by decide) (by decide) ?_
        refine XS.iloadN X0.here hx rfl (Jvm.hb hby d4_50) rfl ?_
        refine XS.iconst X0.here hx rfl (Jvm.hb hby d4_51) ?_
        refine XS.icmpNo X0.here hx rfl (Jvm.hb hby d4_52) rfl (tlt (by decide)).2.2.2 ?_
        refine XS.aloadN X0.here hx rfl (Jvm.hb hby d4_55) rfl rfl ?_
        refine XS.iconst X0.here hx rfl (Jvm.hb hby d4_56) ?_
        refine X0.iaload hx ((congrArg (fun (HH : Heap) => HH[t]?) (e0 : s₁.heap = h0)).trans Ar662.1) (State.isArrayOf_alike hZ.alike Ar662.2.1) Ar662.2.2 in662 (H662.at in662 rfl) (g := (mkF m 57 #[.val (.ref r), .val (.int (0 : Int32)), .val (.int (3 : Int32)), .val (.ref t), .val (.int ev), .val (.int iv), .val (.int (0 : Int32)), .val (.int (t0 + ev))] [(.int (2 : Int32)), (.ref t)])) rfl rfl (Jvm.hb hby d4_57) _ ?_
        refine XS.iload X0.here hx rfl (Jvm.hb hby d4_58) rfl ?_
        exact kt)
      by_cases q2 : (t0 + ev) < t2
      · skip
        obtain ⟨cl664, Ar664, q664, S664, M664, H664, U664⟩ := id VR
        have in664 : ¬ ((0 : Int32) < 0 ∨ cl664.slots.size ≤ ((0 : Int32)).toNatClampNeg) := inb_of S664 ⟨by decide, by decide⟩
        have hz : lx0 = (0 : Int32) := (Int32.toInt_inj.mp (by rw [show (0 : Int32).toInt = 0 by decide]; have b0 := w0.1; have b1 := (w0.2.2.2.2.1 (by decide) qi).mp q1; have b2 := (w0.2.2.2.2.2.1 (by decide) qi).mp q2; omega))
        have pre665 := fun (τ : State) kt => pre663 τ (by
          show Steps p.tables e below (s₁.setTop (mkF m 60 #[.val (.ref r), .val (.int (0 : Int32)), .val (.int (3 : Int32)), .val (.ref t), .val (.int ev), .val (.int iv), .val (.int (0 : Int32)), .val (.int (t0 + ev))] [(.int (t0 + ev)), (.int t2)])) τ
          refine XS.icmpYes X0.here hx rfl (pc0 := 60) (pc' := 69) rfl (Jvm.hb hby d4_60) rfl (tlt q2).2.2.1 (by decide) (by decide) ?_
          refine XS.iloadN X0.here hx rfl (Jvm.hb hby d4_69) rfl ?_
          refine XS.iconst X0.here hx rfl (Jvm.hb hby d4_70) ?_
          refine XS.icmpYes X0.here hx rfl (pc0 := 71) (pc' := 88) rfl (Jvm.hb hby d4_71) rfl (flt (by decide)).2.2.2 (by decide) (by decide) ?_
          refine XS.aloadN X0.here hx rfl (Jvm.hb hby d4_88) rfl rfl ?_
          refine XS.iloadN X0.here hx rfl (Jvm.hb hby d4_89) rfl ?_
          refine X0.iaload hx ((congrArg (fun (HH : Heap) => HH[r]?) (e0 : s₁.heap = h0)).trans Ar664.1) (State.isArrayOf_alike hZ.alike Ar664.2.1) Ar664.2.2 in664 (H664.at in664 rfl) (g := (mkF m 90 #[.val (.ref r), .val (.int (0 : Int32)), .val (.int (3 : Int32)), .val (.ref t), .val (.int ev), .val (.int iv), .val (.int (0 : Int32)), .val (.int (t0 + ev))] [(.int (0 : Int32)), (.ref r)])) rfl rfl (Jvm.hb hby d4_90) _ ?_
          refine XS.iload X0.here hx rfl (Jvm.hb hby d4_91) rfl ?_
          refine XS.icmpNo X0.here hx rfl (Jvm.hb hby d4_93) rfl (teq hz).2 ?_
          refine XS.iconst X0.here hx rfl (Jvm.hb hby d4_96) ?_
          refine XS.goto X0.here hx rfl (pc0 := 97) (pc' := 101) rfl (Jvm.hb hby d4_97) (by decide) (by decide) ?_
          exact kt)
        obtain ⟨fs, hrL, hrun, hended, hW, hsame⟩ := X0.leave (v := some (.int (1 : Int32))) (fun h => by rw [Bd.returns] at h; cases h)
        refine ⟨_, _, cast (congrFun hPS _) (pre665 _ ?_), hrun, hended, _, _, rfl, ?_, ⟨_, rfl⟩, hW, hsame.mono (by decide) (by decide)⟩
        · show Steps p.tables e below (s₁.setTop (mkF m 101 #[.val (.ref r), .val (.int (0 : Int32)), .val (.int (3 : Int32)), .val (.ref t), .val (.int ev), .val (.int iv), .val (.int (0 : Int32)), .val (.int (t0 + ev))] [(.int (1 : Int32))])) _
          exact retN X0 hx (t := .boolean) Bd.returns (by simp) (Jvm.hb hby d4_101) hrL
        · show QZ h0 n0 _ s₁.heap _
          rw [e0]
          exact ⟨rfl, N0, rfl⟩
      · skip
        obtain ⟨cl666, Ar666, q666, S666, M666, H666, U666⟩ := id VR
        have in666 : ¬ ((0 : Int32) < 0 ∨ cl666.slots.size ≤ ((0 : Int32)).toNatClampNeg) := inb_of S666 ⟨by decide, by decide⟩
        have hz : lx0 = (1 : Int32) := (Int32.toInt_inj.mp (by rw [show (1 : Int32).toInt = 1 by decide]; have b0 := w0.1; have b1 := (w0.2.2.2.2.1 (by decide) qi).mp q1; have b2 := Int.not_lt.mp (fun z => q2 ((w0.2.2.2.2.2.1 (by decide) qi).mpr z)); omega))
        have pre667 := fun (τ : State) kt => pre663 τ (by
          show Steps p.tables e below (s₁.setTop (mkF m 60 #[.val (.ref r), .val (.int (0 : Int32)), .val (.int (3 : Int32)), .val (.ref t), .val (.int ev), .val (.int iv), .val (.int (0 : Int32)), .val (.int (t0 + ev))] [(.int (t0 + ev)), (.int t2)])) τ
          refine XS.icmpNo X0.here hx rfl (Jvm.hb hby d4_60) rfl (flt q2).2.2.1 ?_
          refine XS.iload X0.here hx rfl (Jvm.hb hby d4_63) rfl ?_
          refine XS.iconst X0.here hx rfl (Jvm.hb hby d4_65) ?_
          refine XS.iadd X0.here hx rfl (Jvm.hb hby d4_66) rfl ?_
          refine XS.istore X0.here hx rfl (Jvm.hb hby d4_67) rfl (l' := #[.val (.ref r), .val (.int (0 : Int32)), .val (.int (3 : Int32)), .val (.ref t), .val (.int ev), .val (.int iv), .val (.int (1 : Int32)), .val (.int (t0 + ev))]) rfl ?_
          refine XS.iloadN X0.here hx rfl (Jvm.hb hby d4_69) rfl ?_
          refine XS.iconst X0.here hx rfl (Jvm.hb hby d4_70) ?_
          refine XS.icmpYes X0.here hx rfl (pc0 := 71) (pc' := 88) rfl (Jvm.hb hby d4_71) rfl (flt (by decide)).2.2.2 (by decide) (by decide) ?_
          refine XS.aloadN X0.here hx rfl (Jvm.hb hby d4_88) rfl rfl ?_
          refine XS.iloadN X0.here hx rfl (Jvm.hb hby d4_89) rfl ?_
          refine X0.iaload hx ((congrArg (fun (HH : Heap) => HH[r]?) (e0 : s₁.heap = h0)).trans Ar666.1) (State.isArrayOf_alike hZ.alike Ar666.2.1) Ar666.2.2 in666 (H666.at in666 rfl) (g := (mkF m 90 #[.val (.ref r), .val (.int (0 : Int32)), .val (.int (3 : Int32)), .val (.ref t), .val (.int ev), .val (.int iv), .val (.int (1 : Int32)), .val (.int (t0 + ev))] [(.int (0 : Int32)), (.ref r)])) rfl rfl (Jvm.hb hby d4_90) _ ?_
          refine XS.iload X0.here hx rfl (Jvm.hb hby d4_91) rfl ?_
          refine XS.icmpNo X0.here hx rfl (Jvm.hb hby d4_93) rfl (teq hz).2 ?_
          refine XS.iconst X0.here hx rfl (Jvm.hb hby d4_96) ?_
          refine XS.goto X0.here hx rfl (pc0 := 97) (pc' := 101) rfl (Jvm.hb hby d4_97) (by decide) (by decide) ?_
          exact kt)
        obtain ⟨fs, hrL, hrun, hended, hW, hsame⟩ := X0.leave (v := some (.int (1 : Int32))) (fun h => by rw [Bd.returns] at h; cases h)
        refine ⟨_, _, cast (congrFun hPS _) (pre667 _ ?_), hrun, hended, _, _, rfl, ?_, ⟨_, rfl⟩, hW, hsame.mono (by decide) (by decide)⟩
        · show Steps p.tables e below (s₁.setTop (mkF m 101 #[.val (.ref r), .val (.int (0 : Int32)), .val (.int (3 : Int32)), .val (.ref t), .val (.int ev), .val (.int iv), .val (.int (1 : Int32)), .val (.int (t0 + ev))] [(.int (1 : Int32))])) _
          exact retN X0 hx (t := .boolean) Bd.returns (by simp) (Jvm.hb hby d4_101) hrL
        · show QZ h0 n0 _ s₁.heap _
          rw [e0]
          exact ⟨rfl, N0, rfl⟩
    · skip
      obtain ⟨cl668, Ar668, q668, S668, M668, H668, U668⟩ := id VT
      have in668 : ¬ ((2 : Int32) < 0 ∨ cl668.slots.size ≤ ((2 : Int32)).toNatClampNeg) := inb_of S668 ⟨by decide, by decide⟩
      have pre669 := fun (τ : State) kt => pre661 τ (by
        show Steps p.tables e below (s₁.setTop (mkF m 41 #[.val (.ref r), .val (.int (0 : Int32)), .val (.int (3 : Int32)), .val (.ref t), .val (.int ev), .val (.int iv), .val (.int (0 : Int32)), .val (.int (t0 + ev))] [(.int (t0 + ev)), (.int t1)])) τ
        refine XS.icmpNo X0.here hx rfl (Jvm.hb hby d4_41) rfl (flt q1).2.2.1 ?_
        refine XS.iload X0.here hx rfl (Jvm.hb hby d4_44) rfl ?_
        refine XS.iconst X0.here hx rfl (Jvm.hb hby d4_46) ?_
        refine XS.iadd X0.here hx rfl (Jvm.hb hby d4_47) rfl ?_
        refine XS.istore X0.here hx rfl (Jvm.hb hby d4_48) rfl (l' := #[.val (.ref r), .val (.int (0 : Int32)), .val (.int (3 : Int32)), .val (.ref t), .val (.int ev), .val (.int iv), .val (.int (1 : Int32)), .val (.int (t0 + ev))]) rfl ?_
        refine XS.iloadN X0.here hx rfl (Jvm.hb hby d4_50) rfl ?_
        refine XS.iconst X0.here hx rfl (Jvm.hb hby d4_51) ?_
        refine XS.icmpNo X0.here hx rfl (Jvm.hb hby d4_52) rfl (tlt (by decide)).2.2.2 ?_
        refine XS.aloadN X0.here hx rfl (Jvm.hb hby d4_55) rfl rfl ?_
        refine XS.iconst X0.here hx rfl (Jvm.hb hby d4_56) ?_
        refine X0.iaload hx ((congrArg (fun (HH : Heap) => HH[t]?) (e0 : s₁.heap = h0)).trans Ar668.1) (State.isArrayOf_alike hZ.alike Ar668.2.1) Ar668.2.2 in668 (H668.at in668 rfl) (g := (mkF m 57 #[.val (.ref r), .val (.int (0 : Int32)), .val (.int (3 : Int32)), .val (.ref t), .val (.int ev), .val (.int iv), .val (.int (1 : Int32)), .val (.int (t0 + ev))] [(.int (2 : Int32)), (.ref t)])) rfl rfl (Jvm.hb hby d4_57) _ ?_
        refine XS.iload X0.here hx rfl (Jvm.hb hby d4_58) rfl ?_
        exact kt)
      by_cases q2 : (t0 + ev) < t2
      · skip
        obtain ⟨cl670, Ar670, q670, S670, M670, H670, U670⟩ := id VR
        have in670 : ¬ ((0 : Int32) < 0 ∨ cl670.slots.size ≤ ((0 : Int32)).toNatClampNeg) := inb_of S670 ⟨by decide, by decide⟩
        have hz : lx0 = (1 : Int32) := (Int32.toInt_inj.mp (by rw [show (1 : Int32).toInt = 1 by decide]; have b0 := w0.1; have b1 := Int.not_lt.mp (fun z => q1 ((w0.2.2.2.2.1 (by decide) qi).mpr z)); have b2 := (w0.2.2.2.2.2.1 (by decide) qi).mp q2; omega))
        have pre671 := fun (τ : State) kt => pre669 τ (by
          show Steps p.tables e below (s₁.setTop (mkF m 60 #[.val (.ref r), .val (.int (0 : Int32)), .val (.int (3 : Int32)), .val (.ref t), .val (.int ev), .val (.int iv), .val (.int (1 : Int32)), .val (.int (t0 + ev))] [(.int (t0 + ev)), (.int t2)])) τ
          refine XS.icmpYes X0.here hx rfl (pc0 := 60) (pc' := 69) rfl (Jvm.hb hby d4_60) rfl (tlt q2).2.2.1 (by decide) (by decide) ?_
          refine XS.iloadN X0.here hx rfl (Jvm.hb hby d4_69) rfl ?_
          refine XS.iconst X0.here hx rfl (Jvm.hb hby d4_70) ?_
          refine XS.icmpYes X0.here hx rfl (pc0 := 71) (pc' := 88) rfl (Jvm.hb hby d4_71) rfl (flt (by decide)).2.2.2 (by decide) (by decide) ?_
          refine XS.aloadN X0.here hx rfl (Jvm.hb hby d4_88) rfl rfl ?_
          refine XS.iloadN X0.here hx rfl (Jvm.hb hby d4_89) rfl ?_
          refine X0.iaload hx ((congrArg (fun (HH : Heap) => HH[r]?) (e0 : s₁.heap = h0)).trans Ar670.1) (State.isArrayOf_alike hZ.alike Ar670.2.1) Ar670.2.2 in670 (H670.at in670 rfl) (g := (mkF m 90 #[.val (.ref r), .val (.int (0 : Int32)), .val (.int (3 : Int32)), .val (.ref t), .val (.int ev), .val (.int iv), .val (.int (1 : Int32)), .val (.int (t0 + ev))] [(.int (0 : Int32)), (.ref r)])) rfl rfl (Jvm.hb hby d4_90) _ ?_
          refine XS.iload X0.here hx rfl (Jvm.hb hby d4_91) rfl ?_
          refine XS.icmpNo X0.here hx rfl (Jvm.hb hby d4_93) rfl (teq hz).2 ?_
          refine XS.iconst X0.here hx rfl (Jvm.hb hby d4_96) ?_
          refine XS.goto X0.here hx rfl (pc0 := 97) (pc' := 101) rfl (Jvm.hb hby d4_97) (by decide) (by decide) ?_
          exact kt)
        obtain ⟨fs, hrL, hrun, hended, hW, hsame⟩ := X0.leave (v := some (.int (1 : Int32))) (fun h => by rw [Bd.returns] at h; cases h)
        refine ⟨_, _, cast (congrFun hPS _) (pre671 _ ?_), hrun, hended, _, _, rfl, ?_, ⟨_, rfl⟩, hW, hsame.mono (by decide) (by decide)⟩
        · show Steps p.tables e below (s₁.setTop (mkF m 101 #[.val (.ref r), .val (.int (0 : Int32)), .val (.int (3 : Int32)), .val (.ref t), .val (.int ev), .val (.int iv), .val (.int (1 : Int32)), .val (.int (t0 + ev))] [(.int (1 : Int32))])) _
          exact retN X0 hx (t := .boolean) Bd.returns (by simp) (Jvm.hb hby d4_101) hrL
        · show QZ h0 n0 _ s₁.heap _
          rw [e0]
          exact ⟨rfl, N0, rfl⟩
      · skip
        obtain ⟨cl672, Ar672, q672, S672, M672, H672, U672⟩ := id VR
        have in672 : ¬ ((0 : Int32) < 0 ∨ cl672.slots.size ≤ ((0 : Int32)).toNatClampNeg) := inb_of S672 ⟨by decide, by decide⟩
        have hz : lx0 = (2 : Int32) := (Int32.toInt_inj.mp (by rw [show (2 : Int32).toInt = 2 by decide]; have b0 := w0.1; have b1 := Int.not_lt.mp (fun z => q1 ((w0.2.2.2.2.1 (by decide) qi).mpr z)); have b2 := Int.not_lt.mp (fun z => q2 ((w0.2.2.2.2.2.1 (by decide) qi).mpr z)); omega))
        have pre673 := fun (τ : State) kt => pre669 τ (by
          show Steps p.tables e below (s₁.setTop (mkF m 60 #[.val (.ref r), .val (.int (0 : Int32)), .val (.int (3 : Int32)), .val (.ref t), .val (.int ev), .val (.int iv), .val (.int (1 : Int32)), .val (.int (t0 + ev))] [(.int (t0 + ev)), (.int t2)])) τ
          refine XS.icmpNo X0.here hx rfl (Jvm.hb hby d4_60) rfl (flt q2).2.2.1 ?_
          refine XS.iload X0.here hx rfl (Jvm.hb hby d4_63) rfl ?_
          refine XS.iconst X0.here hx rfl (Jvm.hb hby d4_65) ?_
          refine XS.iadd X0.here hx rfl (Jvm.hb hby d4_66) rfl ?_
          refine XS.istore X0.here hx rfl (Jvm.hb hby d4_67) rfl (l' := #[.val (.ref r), .val (.int (0 : Int32)), .val (.int (3 : Int32)), .val (.ref t), .val (.int ev), .val (.int iv), .val (.int (2 : Int32)), .val (.int (t0 + ev))]) rfl ?_
          refine XS.iloadN X0.here hx rfl (Jvm.hb hby d4_69) rfl ?_
          refine XS.iconst X0.here hx rfl (Jvm.hb hby d4_70) ?_
          refine XS.icmpYes X0.here hx rfl (pc0 := 71) (pc' := 88) rfl (Jvm.hb hby d4_71) rfl (flt (by decide)).2.2.2 (by decide) (by decide) ?_
          refine XS.aloadN X0.here hx rfl (Jvm.hb hby d4_88) rfl rfl ?_
          refine XS.iloadN X0.here hx rfl (Jvm.hb hby d4_89) rfl ?_
          refine X0.iaload hx ((congrArg (fun (HH : Heap) => HH[r]?) (e0 : s₁.heap = h0)).trans Ar672.1) (State.isArrayOf_alike hZ.alike Ar672.2.1) Ar672.2.2 in672 (H672.at in672 rfl) (g := (mkF m 90 #[.val (.ref r), .val (.int (0 : Int32)), .val (.int (3 : Int32)), .val (.ref t), .val (.int ev), .val (.int iv), .val (.int (2 : Int32)), .val (.int (t0 + ev))] [(.int (0 : Int32)), (.ref r)])) rfl rfl (Jvm.hb hby d4_90) _ ?_
          refine XS.iload X0.here hx rfl (Jvm.hb hby d4_91) rfl ?_
          refine XS.icmpNo X0.here hx rfl (Jvm.hb hby d4_93) rfl (teq hz).2 ?_
          refine XS.iconst X0.here hx rfl (Jvm.hb hby d4_96) ?_
          refine XS.goto X0.here hx rfl (pc0 := 97) (pc' := 101) rfl (Jvm.hb hby d4_97) (by decide) (by decide) ?_
          exact kt)
        obtain ⟨fs, hrL, hrun, hended, hW, hsame⟩ := X0.leave (v := some (.int (1 : Int32))) (fun h => by rw [Bd.returns] at h; cases h)
        refine ⟨_, _, cast (congrFun hPS _) (pre673 _ ?_), hrun, hended, _, _, rfl, ?_, ⟨_, rfl⟩, hW, hsame.mono (by decide) (by decide)⟩
        · show Steps p.tables e below (s₁.setTop (mkF m 101 #[.val (.ref r), .val (.int (0 : Int32)), .val (.int (3 : Int32)), .val (.ref t), .val (.int ev), .val (.int iv), .val (.int (2 : Int32)), .val (.int (t0 + ev))] [(.int (1 : Int32))])) _
          exact retN X0 hx (t := .boolean) Bd.returns (by simp) (Jvm.hb hby d4_101) hrL
        · show QZ h0 n0 _ s₁.heap _
          rw [e0]
          exact ⟨rfl, N0, rfl⟩
  · skip
    obtain ⟨cl674, Ar674, q674, S674, M674, H674, U674⟩ := id VR
    have in674 : ¬ ((0 : Int32) < 0 ∨ cl674.slots.size ≤ ((0 : Int32)).toNatClampNeg) := inb_of S674 ⟨by decide, by decide⟩
    have hz : lx0 = (2 : Int32) := (Int32.toInt_inj.mp (by rw [w0.2.2.2.1 qi]; decide))
    have pre675 := fun (τ : State) kt => pre658 τ (by
      show Steps p.tables e below (s₁.setTop (mkF m 9 #[.val (.ref r), .val (.int (0 : Int32)), .val (.int (3 : Int32)), .val (.ref t), .val (.int ev), .val (.int iv), .unset, .unset] [(.int iv)])) τ
      refine XS.ifNo X0.here hx rfl (Jvm.hb hby d4_9) rfl ((if0 _ _).trans (feq qi).1) ?_
      refine XS.iloadN X0.here hx rfl (Jvm.hb hby d4_12) rfl ?_
      refine XS.iconst X0.here hx rfl (Jvm.hb hby d4_13) ?_
      refine XS.isub X0.here hx rfl (Jvm.hb hby d4_14) rfl ?_
      refine XS.istore X0.here hx rfl (Jvm.hb hby d4_15) rfl (l' := #[.val (.ref r), .val (.int (0 : Int32)), .val (.int (3 : Int32)), .val (.ref t), .val (.int ev), .val (.int iv), .val (.int (2 : Int32)), .unset]) rfl ?_
      refine XS.goto X0.here hx rfl (pc0 := 17) (pc' := 88) rfl (Jvm.hb hby d4_17) (by decide) (by decide) ?_
      refine XS.aloadN X0.here hx rfl (Jvm.hb hby d4_88) rfl rfl ?_
      refine XS.iloadN X0.here hx rfl (Jvm.hb hby d4_89) rfl ?_
      refine X0.iaload hx ((congrArg (fun (HH : Heap) => HH[r]?) (e0 : s₁.heap = h0)).trans Ar674.1) (State.isArrayOf_alike hZ.alike Ar674.2.1) Ar674.2.2 in674 (H674.at in674 rfl) (g := (mkF m 90 #[.val (.ref r), .val (.int (0 : Int32)), .val (.int (3 : Int32)), .val (.ref t), .val (.int ev), .val (.int iv), .val (.int (2 : Int32)), .unset] [(.int (0 : Int32)), (.ref r)])) rfl rfl (Jvm.hb hby d4_90) _ ?_
      refine XS.iload X0.here hx rfl (Jvm.hb hby d4_91) rfl ?_
      refine XS.icmpNo X0.here hx rfl (Jvm.hb hby d4_93) rfl (teq hz).2 ?_
      refine XS.iconst X0.here hx rfl (Jvm.hb hby d4_96) ?_
      refine XS.goto X0.here hx rfl (pc0 := 97) (pc' := 101) rfl (Jvm.hb hby d4_97) (by decide) (by decide) ?_
      exact kt)
    obtain ⟨fs, hrL, hrun, hended, hW, hsame⟩ := X0.leave (v := some (.int (1 : Int32))) (fun h => by rw [Bd.returns] at h; cases h)
    refine ⟨_, _, cast (congrFun hPS _) (pre675 _ ?_), hrun, hended, _, _, rfl, ?_, ⟨_, rfl⟩, hW, hsame.mono (by decide) (by decide)⟩
    · show Steps p.tables e below (s₁.setTop (mkF m 101 #[.val (.ref r), .val (.int (0 : Int32)), .val (.int (3 : Int32)), .val (.ref t), .val (.int ev), .val (.int iv), .val (.int (2 : Int32)), .unset] [(.int (1 : Int32))])) _
      exact retN X0 hx (t := .boolean) Bd.returns (by simp) (Jvm.hb hby d4_101) hrL
    · show QZ h0 n0 _ s₁.heap _
      rw [e0]
      exact ⟨rfl, N0, rfl⟩
set_option maxRecDepth 65536 in
set_option maxHeartbeats 40000000 in
theorem rmC1_3 (l : Launch) (Z : State) (a0 : Array Value) (hw : ∀ d ∈ tables_1, d.before a0 Z = true) (ws : List Jvm.Cond) (r : Addr) (ci : Int32) (cn : Int32) (t : Addr) (ev : Int32) (iv : Int32) (kr kt : ClassId) (t0 t1 t2 t3 lx0 lx1 lx2 : Int32) (en : UInt64) (h0 : Heap) (n0 : Nat) (Z0 : n0 ≤ h0.size) (hi : ci = (1 : Int32)) (hn : cn = (3 : Int32)) (VR : Arv Z h0 r kr .int (3 : Int32) [(.int lx0), (.int lx1), (.int lx2)] (.int (0 : Int32))) (VT : Arv Z h0 t kt .int (4 : Int32) [(.int t0), (.int t1), (.int t2), (.int t3)] (.int (0 : Int32))) (w0 : own_row 3 iv t1 t2 t3 t1 ev en lx1) :
    MetFree l (⟨"com/example/counterpath/counterpath/core/WindowLastsPinLaw", "check", "([III[IIZ)Z"⟩ : MethodName) (head1 (Jvm.Cond.code (⟨"com/example/counterpath/counterpath/core/WindowLastsPinLaw", "check", "([III[IIZ)Z"⟩ : MethodName) method_3_code 8 (some .boolean) :: ws) ({ frames := 0, cells := 0, slots := 0, locals := 0 } : Room)) (fun α U => α = #[(.ref r), (.int ci), (.int cn), (.ref t), (.int ev), (.int iv)] ∧ Z.Warmed39 U.vm ∧ U.heap = h0) (fun _ _ _ _ _ => True) (fun _ U ω U' => ∃ ν Λ, ω = .returned ν ∧ QZ h0 n0 ν U'.heap Λ ∧ FrameEnd U ω U' Λ ({ frames := 0, cells := 0, slots := 0, locals := 0 } : Room).cells ({ frames := 0, cells := 0, slots := 0, locals := 0 } : Room).slots) := by
  refine MetFree.of_bodySF (plainFor_of_name own_pn_com_example_counterpath_counterpath_core_WindowLastsPinLaw) hisR ?_
  intro p e s m args below meth c s₁ Bd hml0 hP hK
  obtain ⟨rfl, hZ, hh⟩ := hP
  have hx := Bd.exec
  have hby := Bd.bytes
  have hml : c.maxLocals = 8 := hml0
  have hown : s.vm.findClass "com/example/counterpath/counterpath/core/WindowLastsPinLaw" = some m.cls := findClass_of_methodNamed Bd.named
  have hnm := (name_of_methodNamed Bd.named Bd.method).1
  have X0 : Stand p l e ({ frames := 0, cells := 0, slots := 0, locals := 0 } : Room) s m #[(.ref r), (.int ci), (.int cn), (.ref t), (.int ev), (.int iv)] below meth c s₁ [] 0 0 := Stand.of_body Bd
  have e0 : s₁.heap = h0 := by rw [← hh, Bd.state]; rfl
  have N0 := Fr.nil n0
  have KK0 : Keep h0 h0 [] := Keep.refl h0 []
  obtain ⟨PS, hPS⟩ : ∃ P : State → Prop, P = fun τ => Steps p.tables e below (s₁.setTop (entryFrame m #[(.ref r), (.int ci), (.int cn), (.ref t), (.int ev), (.int iv)] 8)) τ := ⟨_, rfl⟩
  have pre0 : ∀ τ, Steps p.tables e below (s₁.setTop (mkF m 0 #[.val (.ref r), .val (.int ci), .val (.int cn), .val (.ref t), .val (.int ev), .val (.int iv), .unset, .unset] [])) τ → PS τ := by rw [hPS]; exact fun τ κ => castTop (own_ef4 m r ci cn t ev iv) κ
  have pre676 : ∀ τ, Steps p.tables e below (s₁.setTop (mkF m 0 #[.val (.ref r), .val (.int (1 : Int32)), .val (.int cn), .val (.ref t), .val (.int ev), .val (.int iv), .unset, .unset] [])) τ → PS τ := by have hq := pre0; rw [hi] at hq; exact hq
  have pre677 : ∀ τ, Steps p.tables e below (s₁.setTop (mkF m 0 #[.val (.ref r), .val (.int (1 : Int32)), .val (.int (3 : Int32)), .val (.ref t), .val (.int ev), .val (.int iv), .unset, .unset] [])) τ → PS τ := by have hq := pre676; rw [hn] at hq; exact hq
  have pre678 := fun (τ : State) kt => pre677 τ (by
    show Steps p.tables e below (s₁.setTop (mkF m 0 #[.val (.ref r), .val (.int (1 : Int32)), .val (.int (3 : Int32)), .val (.ref t), .val (.int ev), .val (.int iv), .unset, .unset] [])) τ
    refine XS.iloadN X0.here hx rfl (Jvm.hb hby d4_0) rfl ?_
    refine XS.iloadN X0.here hx rfl (Jvm.hb hby d4_1) rfl ?_
    refine XS.icmpYes X0.here hx rfl (pc0 := 2) (pc' := 7) rfl (Jvm.hb hby d4_2) rfl (tlt (by decide)).1 (by decide) (by decide) ?_
    refine XS.iload X0.here hx rfl (Jvm.hb hby d4_7) rfl ?_
    exact kt)
  by_cases qi : iv = (0 : Int32)
  · skip
    obtain ⟨cl679, Ar679, q679, S679, M679, H679, U679⟩ := id VT
    have in679 : ¬ ((1 : Int32) < 0 ∨ cl679.slots.size ≤ ((1 : Int32)).toNatClampNeg) := inb_of S679 ⟨by decide, by decide⟩
    obtain ⟨cl680, Ar680, q680, S680, M680, H680, U680⟩ := id VT
    have in680 : ¬ ((1 : Int32) < 0 ∨ cl680.slots.size ≤ ((1 : Int32)).toNatClampNeg) := inb_of S680 ⟨by decide, by decide⟩
    have pre681 := fun (τ : State) kt => pre678 τ (by
      show Steps p.tables e below (s₁.setTop (mkF m 9 #[.val (.ref r), .val (.int (1 : Int32)), .val (.int (3 : Int32)), .val (.ref t), .val (.int ev), .val (.int iv), .unset, .unset] [(.int iv)])) τ
      refine XS.ifYes X0.here hx rfl (pc0 := 9) (pc' := 20) rfl (Jvm.hb hby d4_9) rfl ((if0 _ _).trans (teq qi).1) (by decide) (by decide) ?_
      refine XS.aloadN X0.here hx rfl (Jvm.hb hby d4_20) rfl rfl ?_
      refine XS.iloadN X0.here hx rfl (Jvm.hb hby d4_21) rfl ?_
      refine X0.iaload hx ((congrArg (fun (HH : Heap) => HH[t]?) (e0 : s₁.heap = h0)).trans Ar679.1) (State.isArrayOf_alike hZ.alike Ar679.2.1) Ar679.2.2 in679 (H679.at in679 rfl) (g := (mkF m 22 #[.val (.ref r), .val (.int (1 : Int32)), .val (.int (3 : Int32)), .val (.ref t), .val (.int ev), .val (.int iv), .unset, .unset] [(.int (1 : Int32)), (.ref t)])) rfl rfl (Jvm.hb hby d4_22) _ ?_
      refine XS.iload X0.here hx rfl (Jvm.hb hby d4_23) rfl ?_
      refine XS.iadd X0.here hx rfl (Jvm.hb hby d4_25) rfl ?_
      refine XS.istore X0.here hx rfl (Jvm.hb hby d4_26) rfl (l' := #[.val (.ref r), .val (.int (1 : Int32)), .val (.int (3 : Int32)), .val (.ref t), .val (.int ev), .val (.int iv), .unset, .val (.int (t1 + ev))]) rfl ?_
      refine XS.iconst X0.here hx rfl (Jvm.hb hby d4_28) ?_
      refine XS.istore X0.here hx rfl (Jvm.hb hby d4_29) rfl (l' := #[.val (.ref r), .val (.int (1 : Int32)), .val (.int (3 : Int32)), .val (.ref t), .val (.int ev), .val (.int iv), .val (.int (0 : Int32)), .val (.int (t1 + ev))]) rfl ?_
      refine XS.iloadN X0.here hx rfl (Jvm.hb hby d4_31) rfl ?_
      refine XS.iconst X0.here hx rfl (Jvm.hb hby d4_32) ?_
      refine XS.icmpNo X0.here hx rfl (Jvm.hb hby d4_33) rfl (tlt (by decide)).2.2.2 ?_
      refine XS.aloadN X0.here hx rfl (Jvm.hb hby d4_36) rfl rfl ?_
      refine XS.iconst X0.here hx rfl (Jvm.hb hby d4_37) ?_
      refine X0.iaload hx ((congrArg (fun (HH : Heap) => HH[t]?) (e0 : s₁.heap = h0)).trans Ar680.1) (State.isArrayOf_alike hZ.alike Ar680.2.1) Ar680.2.2 in680 (H680.at in680 rfl) (g := (mkF m 38 #[.val (.ref r), .val (.int (1 : Int32)), .val (.int (3 : Int32)), .val (.ref t), .val (.int ev), .val (.int iv), .val (.int (0 : Int32)), .val (.int (t1 + ev))] [(.int (1 : Int32)), (.ref t)])) rfl rfl (Jvm.hb hby d4_38) _ ?_
      refine XS.iload X0.here hx rfl (Jvm.hb hby d4_39) rfl ?_
      exact kt)
    by_cases q1 : (t1 + ev) < t1
    · skip
      obtain ⟨cl682, Ar682, q682, S682, M682, H682, U682⟩ := id VT
      have in682 : ¬ ((2 : Int32) < 0 ∨ cl682.slots.size ≤ ((2 : Int32)).toNatClampNeg) := inb_of S682 ⟨by decide, by decide⟩
      have pre683 := fun (τ : State) kt => pre681 τ (by
        show Steps p.tables e below (s₁.setTop (mkF m 41 #[.val (.ref r), .val (.int (1 : Int32)), .val (.int (3 : Int32)), .val (.ref t), .val (.int ev), .val (.int iv), .val (.int (0 : Int32)), .val (.int (t1 + ev))] [(.int (t1 + ev)), (.int t1)])) τ
        refine XS.icmpYes X0.here hx rfl (pc0 := 41) (pc' := 50) rfl (Jvm.hb hby d4_41) rfl (tlt q1).2.2.1 (by decide) (by decide) ?_
        refine XS.iloadN X0.here hx rfl (Jvm.hb hby d4_50) rfl ?_
        refine XS.iconst X0.here hx rfl (Jvm.hb hby d4_51) ?_
        refine XS.icmpNo X0.here hx rfl (Jvm.hb hby d4_52) rfl (tlt (by decide)).2.2.2 ?_
        refine XS.aloadN X0.here hx rfl (Jvm.hb hby d4_55) rfl rfl ?_
        refine XS.iconst X0.here hx rfl (Jvm.hb hby d4_56) ?_
        refine X0.iaload hx ((congrArg (fun (HH : Heap) => HH[t]?) (e0 : s₁.heap = h0)).trans Ar682.1) (State.isArrayOf_alike hZ.alike Ar682.2.1) Ar682.2.2 in682 (H682.at in682 rfl) (g := (mkF m 57 #[.val (.ref r), .val (.int (1 : Int32)), .val (.int (3 : Int32)), .val (.ref t), .val (.int ev), .val (.int iv), .val (.int (0 : Int32)), .val (.int (t1 + ev))] [(.int (2 : Int32)), (.ref t)])) rfl rfl (Jvm.hb hby d4_57) _ ?_
        refine XS.iload X0.here hx rfl (Jvm.hb hby d4_58) rfl ?_
        exact kt)
      by_cases q2 : (t1 + ev) < t2
      · skip
        obtain ⟨cl684, Ar684, q684, S684, M684, H684, U684⟩ := id VR
        have in684 : ¬ ((1 : Int32) < 0 ∨ cl684.slots.size ≤ ((1 : Int32)).toNatClampNeg) := inb_of S684 ⟨by decide, by decide⟩
        have hz : lx1 = (0 : Int32) := (Int32.toInt_inj.mp (by rw [show (0 : Int32).toInt = 0 by decide]; have b0 := w0.1; have b1 := (w0.2.2.2.2.1 (by decide) qi).mp q1; have b2 := (w0.2.2.2.2.2.1 (by decide) qi).mp q2; omega))
        have pre685 := fun (τ : State) kt => pre683 τ (by
          show Steps p.tables e below (s₁.setTop (mkF m 60 #[.val (.ref r), .val (.int (1 : Int32)), .val (.int (3 : Int32)), .val (.ref t), .val (.int ev), .val (.int iv), .val (.int (0 : Int32)), .val (.int (t1 + ev))] [(.int (t1 + ev)), (.int t2)])) τ
          refine XS.icmpYes X0.here hx rfl (pc0 := 60) (pc' := 69) rfl (Jvm.hb hby d4_60) rfl (tlt q2).2.2.1 (by decide) (by decide) ?_
          refine XS.iloadN X0.here hx rfl (Jvm.hb hby d4_69) rfl ?_
          refine XS.iconst X0.here hx rfl (Jvm.hb hby d4_70) ?_
          refine XS.icmpYes X0.here hx rfl (pc0 := 71) (pc' := 88) rfl (Jvm.hb hby d4_71) rfl (flt (by decide)).2.2.2 (by decide) (by decide) ?_
          refine XS.aloadN X0.here hx rfl (Jvm.hb hby d4_88) rfl rfl ?_
          refine XS.iloadN X0.here hx rfl (Jvm.hb hby d4_89) rfl ?_
          refine X0.iaload hx ((congrArg (fun (HH : Heap) => HH[r]?) (e0 : s₁.heap = h0)).trans Ar684.1) (State.isArrayOf_alike hZ.alike Ar684.2.1) Ar684.2.2 in684 (H684.at in684 rfl) (g := (mkF m 90 #[.val (.ref r), .val (.int (1 : Int32)), .val (.int (3 : Int32)), .val (.ref t), .val (.int ev), .val (.int iv), .val (.int (0 : Int32)), .val (.int (t1 + ev))] [(.int (1 : Int32)), (.ref r)])) rfl rfl (Jvm.hb hby d4_90) _ ?_
          refine XS.iload X0.here hx rfl (Jvm.hb hby d4_91) rfl ?_
          refine XS.icmpNo X0.here hx rfl (Jvm.hb hby d4_93) rfl (teq hz).2 ?_
          refine XS.iconst X0.here hx rfl (Jvm.hb hby d4_96) ?_
          refine XS.goto X0.here hx rfl (pc0 := 97) (pc' := 101) rfl (Jvm.hb hby d4_97) (by decide) (by decide) ?_
          exact kt)
        obtain ⟨fs, hrL, hrun, hended, hW, hsame⟩ := X0.leave (v := some (.int (1 : Int32))) (fun h => by rw [Bd.returns] at h; cases h)
        refine ⟨_, _, cast (congrFun hPS _) (pre685 _ ?_), hrun, hended, _, _, rfl, ?_, ⟨_, rfl⟩, hW, hsame.mono (by decide) (by decide)⟩
        · show Steps p.tables e below (s₁.setTop (mkF m 101 #[.val (.ref r), .val (.int (1 : Int32)), .val (.int (3 : Int32)), .val (.ref t), .val (.int ev), .val (.int iv), .val (.int (0 : Int32)), .val (.int (t1 + ev))] [(.int (1 : Int32))])) _
          exact retN X0 hx (t := .boolean) Bd.returns (by simp) (Jvm.hb hby d4_101) hrL
        · show QZ h0 n0 _ s₁.heap _
          rw [e0]
          exact ⟨rfl, N0, rfl⟩
      · skip
        obtain ⟨cl686, Ar686, q686, S686, M686, H686, U686⟩ := id VR
        have in686 : ¬ ((1 : Int32) < 0 ∨ cl686.slots.size ≤ ((1 : Int32)).toNatClampNeg) := inb_of S686 ⟨by decide, by decide⟩
        have hz : lx1 = (1 : Int32) := (Int32.toInt_inj.mp (by rw [show (1 : Int32).toInt = 1 by decide]; have b0 := w0.1; have b1 := (w0.2.2.2.2.1 (by decide) qi).mp q1; have b2 := Int.not_lt.mp (fun z => q2 ((w0.2.2.2.2.2.1 (by decide) qi).mpr z)); omega))
        have pre687 := fun (τ : State) kt => pre683 τ (by
          show Steps p.tables e below (s₁.setTop (mkF m 60 #[.val (.ref r), .val (.int (1 : Int32)), .val (.int (3 : Int32)), .val (.ref t), .val (.int ev), .val (.int iv), .val (.int (0 : Int32)), .val (.int (t1 + ev))] [(.int (t1 + ev)), (.int t2)])) τ
          refine XS.icmpNo X0.here hx rfl (Jvm.hb hby d4_60) rfl (flt q2).2.2.1 ?_
          refine XS.iload X0.here hx rfl (Jvm.hb hby d4_63) rfl ?_
          refine XS.iconst X0.here hx rfl (Jvm.hb hby d4_65) ?_
          refine XS.iadd X0.here hx rfl (Jvm.hb hby d4_66) rfl ?_
          refine XS.istore X0.here hx rfl (Jvm.hb hby d4_67) rfl (l' := #[.val (.ref r), .val (.int (1 : Int32)), .val (.int (3 : Int32)), .val (.ref t), .val (.int ev), .val (.int iv), .val (.int (1 : Int32)), .val (.int (t1 + ev))]) rfl ?_
          refine XS.iloadN X0.here hx rfl (Jvm.hb hby d4_69) rfl ?_
          refine XS.iconst X0.here hx rfl (Jvm.hb hby d4_70) ?_
          refine XS.icmpYes X0.here hx rfl (pc0 := 71) (pc' := 88) rfl (Jvm.hb hby d4_71) rfl (flt (by decide)).2.2.2 (by decide) (by decide) ?_
          refine XS.aloadN X0.here hx rfl (Jvm.hb hby d4_88) rfl rfl ?_
          refine XS.iloadN X0.here hx rfl (Jvm.hb hby d4_89) rfl ?_
          refine X0.iaload hx ((congrArg (fun (HH : Heap) => HH[r]?) (e0 : s₁.heap = h0)).trans Ar686.1) (State.isArrayOf_alike hZ.alike Ar686.2.1) Ar686.2.2 in686 (H686.at in686 rfl) (g := (mkF m 90 #[.val (.ref r), .val (.int (1 : Int32)), .val (.int (3 : Int32)), .val (.ref t), .val (.int ev), .val (.int iv), .val (.int (1 : Int32)), .val (.int (t1 + ev))] [(.int (1 : Int32)), (.ref r)])) rfl rfl (Jvm.hb hby d4_90) _ ?_
          refine XS.iload X0.here hx rfl (Jvm.hb hby d4_91) rfl ?_
          refine XS.icmpNo X0.here hx rfl (Jvm.hb hby d4_93) rfl (teq hz).2 ?_
          refine XS.iconst X0.here hx rfl (Jvm.hb hby d4_96) ?_
          refine XS.goto X0.here hx rfl (pc0 := 97) (pc' := 101) rfl (Jvm.hb hby d4_97) (by decide) (by decide) ?_
          exact kt)
        obtain ⟨fs, hrL, hrun, hended, hW, hsame⟩ := X0.leave (v := some (.int (1 : Int32))) (fun h => by rw [Bd.returns] at h; cases h)
        refine ⟨_, _, cast (congrFun hPS _) (pre687 _ ?_), hrun, hended, _, _, rfl, ?_, ⟨_, rfl⟩, hW, hsame.mono (by decide) (by decide)⟩
        · show Steps p.tables e below (s₁.setTop (mkF m 101 #[.val (.ref r), .val (.int (1 : Int32)), .val (.int (3 : Int32)), .val (.ref t), .val (.int ev), .val (.int iv), .val (.int (1 : Int32)), .val (.int (t1 + ev))] [(.int (1 : Int32))])) _
          exact retN X0 hx (t := .boolean) Bd.returns (by simp) (Jvm.hb hby d4_101) hrL
        · show QZ h0 n0 _ s₁.heap _
          rw [e0]
          exact ⟨rfl, N0, rfl⟩
    · skip
      obtain ⟨cl688, Ar688, q688, S688, M688, H688, U688⟩ := id VT
      have in688 : ¬ ((2 : Int32) < 0 ∨ cl688.slots.size ≤ ((2 : Int32)).toNatClampNeg) := inb_of S688 ⟨by decide, by decide⟩
      have pre689 := fun (τ : State) kt => pre681 τ (by
        show Steps p.tables e below (s₁.setTop (mkF m 41 #[.val (.ref r), .val (.int (1 : Int32)), .val (.int (3 : Int32)), .val (.ref t), .val (.int ev), .val (.int iv), .val (.int (0 : Int32)), .val (.int (t1 + ev))] [(.int (t1 + ev)), (.int t1)])) τ
        refine XS.icmpNo X0.here hx rfl (Jvm.hb hby d4_41) rfl (flt q1).2.2.1 ?_
        refine XS.iload X0.here hx rfl (Jvm.hb hby d4_44) rfl ?_
        refine XS.iconst X0.here hx rfl (Jvm.hb hby d4_46) ?_
        refine XS.iadd X0.here hx rfl (Jvm.hb hby d4_47) rfl ?_
        refine XS.istore X0.here hx rfl (Jvm.hb hby d4_48) rfl (l' := #[.val (.ref r), .val (.int (1 : Int32)), .val (.int (3 : Int32)), .val (.ref t), .val (.int ev), .val (.int iv), .val (.int (1 : Int32)), .val (.int (t1 + ev))]) rfl ?_
        refine XS.iloadN X0.here hx rfl (Jvm.hb hby d4_50) rfl ?_
        refine XS.iconst X0.here hx rfl (Jvm.hb hby d4_51) ?_
        refine XS.icmpNo X0.here hx rfl (Jvm.hb hby d4_52) rfl (tlt (by decide)).2.2.2 ?_
        refine XS.aloadN X0.here hx rfl (Jvm.hb hby d4_55) rfl rfl ?_
        refine XS.iconst X0.here hx rfl (Jvm.hb hby d4_56) ?_
        refine X0.iaload hx ((congrArg (fun (HH : Heap) => HH[t]?) (e0 : s₁.heap = h0)).trans Ar688.1) (State.isArrayOf_alike hZ.alike Ar688.2.1) Ar688.2.2 in688 (H688.at in688 rfl) (g := (mkF m 57 #[.val (.ref r), .val (.int (1 : Int32)), .val (.int (3 : Int32)), .val (.ref t), .val (.int ev), .val (.int iv), .val (.int (1 : Int32)), .val (.int (t1 + ev))] [(.int (2 : Int32)), (.ref t)])) rfl rfl (Jvm.hb hby d4_57) _ ?_
        refine XS.iload X0.here hx rfl (Jvm.hb hby d4_58) rfl ?_
        exact kt)
      by_cases q2 : (t1 + ev) < t2
      · skip
        obtain ⟨cl690, Ar690, q690, S690, M690, H690, U690⟩ := id VR
        have in690 : ¬ ((1 : Int32) < 0 ∨ cl690.slots.size ≤ ((1 : Int32)).toNatClampNeg) := inb_of S690 ⟨by decide, by decide⟩
        have hz : lx1 = (1 : Int32) := (Int32.toInt_inj.mp (by rw [show (1 : Int32).toInt = 1 by decide]; have b0 := w0.1; have b1 := Int.not_lt.mp (fun z => q1 ((w0.2.2.2.2.1 (by decide) qi).mpr z)); have b2 := (w0.2.2.2.2.2.1 (by decide) qi).mp q2; omega))
        have pre691 := fun (τ : State) kt => pre689 τ (by
          show Steps p.tables e below (s₁.setTop (mkF m 60 #[.val (.ref r), .val (.int (1 : Int32)), .val (.int (3 : Int32)), .val (.ref t), .val (.int ev), .val (.int iv), .val (.int (1 : Int32)), .val (.int (t1 + ev))] [(.int (t1 + ev)), (.int t2)])) τ
          refine XS.icmpYes X0.here hx rfl (pc0 := 60) (pc' := 69) rfl (Jvm.hb hby d4_60) rfl (tlt q2).2.2.1 (by decide) (by decide) ?_
          refine XS.iloadN X0.here hx rfl (Jvm.hb hby d4_69) rfl ?_
          refine XS.iconst X0.here hx rfl (Jvm.hb hby d4_70) ?_
          refine XS.icmpYes X0.here hx rfl (pc0 := 71) (pc' := 88) rfl (Jvm.hb hby d4_71) rfl (flt (by decide)).2.2.2 (by decide) (by decide) ?_
          refine XS.aloadN X0.here hx rfl (Jvm.hb hby d4_88) rfl rfl ?_
          refine XS.iloadN X0.here hx rfl (Jvm.hb hby d4_89) rfl ?_
          refine X0.iaload hx ((congrArg (fun (HH : Heap) => HH[r]?) (e0 : s₁.heap = h0)).trans Ar690.1) (State.isArrayOf_alike hZ.alike Ar690.2.1) Ar690.2.2 in690 (H690.at in690 rfl) (g := (mkF m 90 #[.val (.ref r), .val (.int (1 : Int32)), .val (.int (3 : Int32)), .val (.ref t), .val (.int ev), .val (.int iv), .val (.int (1 : Int32)), .val (.int (t1 + ev))] [(.int (1 : Int32)), (.ref r)])) rfl rfl (Jvm.hb hby d4_90) _ ?_
          refine XS.iload X0.here hx rfl (Jvm.hb hby d4_91) rfl ?_
          refine XS.icmpNo X0.here hx rfl (Jvm.hb hby d4_93) rfl (teq hz).2 ?_
          refine XS.iconst X0.here hx rfl (Jvm.hb hby d4_96) ?_
          refine XS.goto X0.here hx rfl (pc0 := 97) (pc' := 101) rfl (Jvm.hb hby d4_97) (by decide) (by decide) ?_
          exact kt)
        obtain ⟨fs, hrL, hrun, hended, hW, hsame⟩ := X0.leave (v := some (.int (1 : Int32))) (fun h => by rw [Bd.returns] at h; cases h)
        refine ⟨_, _, cast (congrFun hPS _) (pre691 _ ?_), hrun, hended, _, _, rfl, ?_, ⟨_, rfl⟩, hW, hsame.mono (by decide) (by decide)⟩
        · show Steps p.tables e below (s₁.setTop (mkF m 101 #[.val (.ref r), .val (.int (1 : Int32)), .val (.int (3 : Int32)), .val (.ref t), .val (.int ev), .val (.int iv), .val (.int (1 : Int32)), .val (.int (t1 + ev))] [(.int (1 : Int32))])) _
          exact retN X0 hx (t := .boolean) Bd.returns (by simp) (Jvm.hb hby d4_101) hrL
        · show QZ h0 n0 _ s₁.heap _
          rw [e0]
          exact ⟨rfl, N0, rfl⟩
      · skip
        obtain ⟨cl692, Ar692, q692, S692, M692, H692, U692⟩ := id VR
        have in692 : ¬ ((1 : Int32) < 0 ∨ cl692.slots.size ≤ ((1 : Int32)).toNatClampNeg) := inb_of S692 ⟨by decide, by decide⟩
        have hz : lx1 = (2 : Int32) := (Int32.toInt_inj.mp (by rw [show (2 : Int32).toInt = 2 by decide]; have b0 := w0.1; have b1 := Int.not_lt.mp (fun z => q1 ((w0.2.2.2.2.1 (by decide) qi).mpr z)); have b2 := Int.not_lt.mp (fun z => q2 ((w0.2.2.2.2.2.1 (by decide) qi).mpr z)); omega))
        have pre693 := fun (τ : State) kt => pre689 τ (by
          show Steps p.tables e below (s₁.setTop (mkF m 60 #[.val (.ref r), .val (.int (1 : Int32)), .val (.int (3 : Int32)), .val (.ref t), .val (.int ev), .val (.int iv), .val (.int (1 : Int32)), .val (.int (t1 + ev))] [(.int (t1 + ev)), (.int t2)])) τ
          refine XS.icmpNo X0.here hx rfl (Jvm.hb hby d4_60) rfl (flt q2).2.2.1 ?_
          refine XS.iload X0.here hx rfl (Jvm.hb hby d4_63) rfl ?_
          refine XS.iconst X0.here hx rfl (Jvm.hb hby d4_65) ?_
          refine XS.iadd X0.here hx rfl (Jvm.hb hby d4_66) rfl ?_
          refine XS.istore X0.here hx rfl (Jvm.hb hby d4_67) rfl (l' := #[.val (.ref r), .val (.int (1 : Int32)), .val (.int (3 : Int32)), .val (.ref t), .val (.int ev), .val (.int iv), .val (.int (2 : Int32)), .val (.int (t1 + ev))]) rfl ?_
          refine XS.iloadN X0.here hx rfl (Jvm.hb hby d4_69) rfl ?_
          refine XS.iconst X0.here hx rfl (Jvm.hb hby d4_70) ?_
          refine XS.icmpYes X0.here hx rfl (pc0 := 71) (pc' := 88) rfl (Jvm.hb hby d4_71) rfl (flt (by decide)).2.2.2 (by decide) (by decide) ?_
          refine XS.aloadN X0.here hx rfl (Jvm.hb hby d4_88) rfl rfl ?_
          refine XS.iloadN X0.here hx rfl (Jvm.hb hby d4_89) rfl ?_
          refine X0.iaload hx ((congrArg (fun (HH : Heap) => HH[r]?) (e0 : s₁.heap = h0)).trans Ar692.1) (State.isArrayOf_alike hZ.alike Ar692.2.1) Ar692.2.2 in692 (H692.at in692 rfl) (g := (mkF m 90 #[.val (.ref r), .val (.int (1 : Int32)), .val (.int (3 : Int32)), .val (.ref t), .val (.int ev), .val (.int iv), .val (.int (2 : Int32)), .val (.int (t1 + ev))] [(.int (1 : Int32)), (.ref r)])) rfl rfl (Jvm.hb hby d4_90) _ ?_
          refine XS.iload X0.here hx rfl (Jvm.hb hby d4_91) rfl ?_
          refine XS.icmpNo X0.here hx rfl (Jvm.hb hby d4_93) rfl (teq hz).2 ?_
          refine XS.iconst X0.here hx rfl (Jvm.hb hby d4_96) ?_
          refine XS.goto X0.here hx rfl (pc0 := 97) (pc' := 101) rfl (Jvm.hb hby d4_97) (by decide) (by decide) ?_
          exact kt)
        obtain ⟨fs, hrL, hrun, hended, hW, hsame⟩ := X0.leave (v := some (.int (1 : Int32))) (fun h => by rw [Bd.returns] at h; cases h)
        refine ⟨_, _, cast (congrFun hPS _) (pre693 _ ?_), hrun, hended, _, _, rfl, ?_, ⟨_, rfl⟩, hW, hsame.mono (by decide) (by decide)⟩
        · show Steps p.tables e below (s₁.setTop (mkF m 101 #[.val (.ref r), .val (.int (1 : Int32)), .val (.int (3 : Int32)), .val (.ref t), .val (.int ev), .val (.int iv), .val (.int (2 : Int32)), .val (.int (t1 + ev))] [(.int (1 : Int32))])) _
          exact retN X0 hx (t := .boolean) Bd.returns (by simp) (Jvm.hb hby d4_101) hrL
        · show QZ h0 n0 _ s₁.heap _
          rw [e0]
          exact ⟨rfl, N0, rfl⟩
  · skip
    obtain ⟨cl694, Ar694, q694, S694, M694, H694, U694⟩ := id VR
    have in694 : ¬ ((1 : Int32) < 0 ∨ cl694.slots.size ≤ ((1 : Int32)).toNatClampNeg) := inb_of S694 ⟨by decide, by decide⟩
    have hz : lx1 = (2 : Int32) := (Int32.toInt_inj.mp (by rw [w0.2.2.2.1 qi]; decide))
    have pre695 := fun (τ : State) kt => pre678 τ (by
      show Steps p.tables e below (s₁.setTop (mkF m 9 #[.val (.ref r), .val (.int (1 : Int32)), .val (.int (3 : Int32)), .val (.ref t), .val (.int ev), .val (.int iv), .unset, .unset] [(.int iv)])) τ
      refine XS.ifNo X0.here hx rfl (Jvm.hb hby d4_9) rfl ((if0 _ _).trans (feq qi).1) ?_
      refine XS.iloadN X0.here hx rfl (Jvm.hb hby d4_12) rfl ?_
      refine XS.iconst X0.here hx rfl (Jvm.hb hby d4_13) ?_
      refine XS.isub X0.here hx rfl (Jvm.hb hby d4_14) rfl ?_
      refine XS.istore X0.here hx rfl (Jvm.hb hby d4_15) rfl (l' := #[.val (.ref r), .val (.int (1 : Int32)), .val (.int (3 : Int32)), .val (.ref t), .val (.int ev), .val (.int iv), .val (.int (2 : Int32)), .unset]) rfl ?_
      refine XS.goto X0.here hx rfl (pc0 := 17) (pc' := 88) rfl (Jvm.hb hby d4_17) (by decide) (by decide) ?_
      refine XS.aloadN X0.here hx rfl (Jvm.hb hby d4_88) rfl rfl ?_
      refine XS.iloadN X0.here hx rfl (Jvm.hb hby d4_89) rfl ?_
      refine X0.iaload hx ((congrArg (fun (HH : Heap) => HH[r]?) (e0 : s₁.heap = h0)).trans Ar694.1) (State.isArrayOf_alike hZ.alike Ar694.2.1) Ar694.2.2 in694 (H694.at in694 rfl) (g := (mkF m 90 #[.val (.ref r), .val (.int (1 : Int32)), .val (.int (3 : Int32)), .val (.ref t), .val (.int ev), .val (.int iv), .val (.int (2 : Int32)), .unset] [(.int (1 : Int32)), (.ref r)])) rfl rfl (Jvm.hb hby d4_90) _ ?_
      refine XS.iload X0.here hx rfl (Jvm.hb hby d4_91) rfl ?_
      refine XS.icmpNo X0.here hx rfl (Jvm.hb hby d4_93) rfl (teq hz).2 ?_
      refine XS.iconst X0.here hx rfl (Jvm.hb hby d4_96) ?_
      refine XS.goto X0.here hx rfl (pc0 := 97) (pc' := 101) rfl (Jvm.hb hby d4_97) (by decide) (by decide) ?_
      exact kt)
    obtain ⟨fs, hrL, hrun, hended, hW, hsame⟩ := X0.leave (v := some (.int (1 : Int32))) (fun h => by rw [Bd.returns] at h; cases h)
    refine ⟨_, _, cast (congrFun hPS _) (pre695 _ ?_), hrun, hended, _, _, rfl, ?_, ⟨_, rfl⟩, hW, hsame.mono (by decide) (by decide)⟩
    · show Steps p.tables e below (s₁.setTop (mkF m 101 #[.val (.ref r), .val (.int (1 : Int32)), .val (.int (3 : Int32)), .val (.ref t), .val (.int ev), .val (.int iv), .val (.int (2 : Int32)), .unset] [(.int (1 : Int32))])) _
      exact retN X0 hx (t := .boolean) Bd.returns (by simp) (Jvm.hb hby d4_101) hrL
    · show QZ h0 n0 _ s₁.heap _
      rw [e0]
      exact ⟨rfl, N0, rfl⟩
set_option maxRecDepth 65536 in
set_option maxHeartbeats 40000000 in
theorem rmC2_3 (l : Launch) (Z : State) (a0 : Array Value) (hw : ∀ d ∈ tables_1, d.before a0 Z = true) (ws : List Jvm.Cond) (r : Addr) (ci : Int32) (cn : Int32) (t : Addr) (ev : Int32) (iv : Int32) (kr kt : ClassId) (t0 t1 t2 t3 lx0 lx1 lx2 : Int32) (en : UInt64) (h0 : Heap) (n0 : Nat) (Z0 : n0 ≤ h0.size) (hi : ci = (2 : Int32)) (hn : cn = (3 : Int32)) (VR : Arv Z h0 r kr .int (3 : Int32) [(.int lx0), (.int lx1), (.int lx2)] (.int (0 : Int32))) (VT : Arv Z h0 t kt .int (4 : Int32) [(.int t0), (.int t1), (.int t2), (.int t3)] (.int (0 : Int32))) (w0 : own_row 3 iv t1 t2 t3 t2 ev en lx2) :
    MetFree l (⟨"com/example/counterpath/counterpath/core/WindowLastsPinLaw", "check", "([III[IIZ)Z"⟩ : MethodName) (head1 (Jvm.Cond.code (⟨"com/example/counterpath/counterpath/core/WindowLastsPinLaw", "check", "([III[IIZ)Z"⟩ : MethodName) method_3_code 8 (some .boolean) :: ws) ({ frames := 0, cells := 0, slots := 0, locals := 0 } : Room)) (fun α U => α = #[(.ref r), (.int ci), (.int cn), (.ref t), (.int ev), (.int iv)] ∧ Z.Warmed39 U.vm ∧ U.heap = h0) (fun _ _ _ _ _ => True) (fun _ U ω U' => ∃ ν Λ, ω = .returned ν ∧ QZ h0 n0 ν U'.heap Λ ∧ FrameEnd U ω U' Λ ({ frames := 0, cells := 0, slots := 0, locals := 0 } : Room).cells ({ frames := 0, cells := 0, slots := 0, locals := 0 } : Room).slots) := by
  refine MetFree.of_bodySF (plainFor_of_name own_pn_com_example_counterpath_counterpath_core_WindowLastsPinLaw) hisR ?_
  intro p e s m args below meth c s₁ Bd hml0 hP hK
  obtain ⟨rfl, hZ, hh⟩ := hP
  have hx := Bd.exec
  have hby := Bd.bytes
  have hml : c.maxLocals = 8 := hml0
  have hown : s.vm.findClass "com/example/counterpath/counterpath/core/WindowLastsPinLaw" = some m.cls := findClass_of_methodNamed Bd.named
  have hnm := (name_of_methodNamed Bd.named Bd.method).1
  have X0 : Stand p l e ({ frames := 0, cells := 0, slots := 0, locals := 0 } : Room) s m #[(.ref r), (.int ci), (.int cn), (.ref t), (.int ev), (.int iv)] below meth c s₁ [] 0 0 := Stand.of_body Bd
  have e0 : s₁.heap = h0 := by rw [← hh, Bd.state]; rfl
  have N0 := Fr.nil n0
  have KK0 : Keep h0 h0 [] := Keep.refl h0 []
  obtain ⟨PS, hPS⟩ : ∃ P : State → Prop, P = fun τ => Steps p.tables e below (s₁.setTop (entryFrame m #[(.ref r), (.int ci), (.int cn), (.ref t), (.int ev), (.int iv)] 8)) τ := ⟨_, rfl⟩
  have pre0 : ∀ τ, Steps p.tables e below (s₁.setTop (mkF m 0 #[.val (.ref r), .val (.int ci), .val (.int cn), .val (.ref t), .val (.int ev), .val (.int iv), .unset, .unset] [])) τ → PS τ := by rw [hPS]; exact fun τ κ => castTop (own_ef4 m r ci cn t ev iv) κ
  have pre696 : ∀ τ, Steps p.tables e below (s₁.setTop (mkF m 0 #[.val (.ref r), .val (.int (2 : Int32)), .val (.int cn), .val (.ref t), .val (.int ev), .val (.int iv), .unset, .unset] [])) τ → PS τ := by have hq := pre0; rw [hi] at hq; exact hq
  have pre697 : ∀ τ, Steps p.tables e below (s₁.setTop (mkF m 0 #[.val (.ref r), .val (.int (2 : Int32)), .val (.int (3 : Int32)), .val (.ref t), .val (.int ev), .val (.int iv), .unset, .unset] [])) τ → PS τ := by have hq := pre696; rw [hn] at hq; exact hq
  have pre698 := fun (τ : State) kt => pre697 τ (by
    show Steps p.tables e below (s₁.setTop (mkF m 0 #[.val (.ref r), .val (.int (2 : Int32)), .val (.int (3 : Int32)), .val (.ref t), .val (.int ev), .val (.int iv), .unset, .unset] [])) τ
    refine XS.iloadN X0.here hx rfl (Jvm.hb hby d4_0) rfl ?_
    refine XS.iloadN X0.here hx rfl (Jvm.hb hby d4_1) rfl ?_
    refine XS.icmpYes X0.here hx rfl (pc0 := 2) (pc' := 7) rfl (Jvm.hb hby d4_2) rfl (tlt (by decide)).1 (by decide) (by decide) ?_
    refine XS.iload X0.here hx rfl (Jvm.hb hby d4_7) rfl ?_
    exact kt)
  by_cases qi : iv = (0 : Int32)
  · skip
    obtain ⟨cl699, Ar699, q699, S699, M699, H699, U699⟩ := id VT
    have in699 : ¬ ((2 : Int32) < 0 ∨ cl699.slots.size ≤ ((2 : Int32)).toNatClampNeg) := inb_of S699 ⟨by decide, by decide⟩
    obtain ⟨cl700, Ar700, q700, S700, M700, H700, U700⟩ := id VT
    have in700 : ¬ ((1 : Int32) < 0 ∨ cl700.slots.size ≤ ((1 : Int32)).toNatClampNeg) := inb_of S700 ⟨by decide, by decide⟩
    have pre701 := fun (τ : State) kt => pre698 τ (by
      show Steps p.tables e below (s₁.setTop (mkF m 9 #[.val (.ref r), .val (.int (2 : Int32)), .val (.int (3 : Int32)), .val (.ref t), .val (.int ev), .val (.int iv), .unset, .unset] [(.int iv)])) τ
      refine XS.ifYes X0.here hx rfl (pc0 := 9) (pc' := 20) rfl (Jvm.hb hby d4_9) rfl ((if0 _ _).trans (teq qi).1) (by decide) (by decide) ?_
      refine XS.aloadN X0.here hx rfl (Jvm.hb hby d4_20) rfl rfl ?_
      refine XS.iloadN X0.here hx rfl (Jvm.hb hby d4_21) rfl ?_
      refine X0.iaload hx ((congrArg (fun (HH : Heap) => HH[t]?) (e0 : s₁.heap = h0)).trans Ar699.1) (State.isArrayOf_alike hZ.alike Ar699.2.1) Ar699.2.2 in699 (H699.at in699 rfl) (g := (mkF m 22 #[.val (.ref r), .val (.int (2 : Int32)), .val (.int (3 : Int32)), .val (.ref t), .val (.int ev), .val (.int iv), .unset, .unset] [(.int (2 : Int32)), (.ref t)])) rfl rfl (Jvm.hb hby d4_22) _ ?_
      refine XS.iload X0.here hx rfl (Jvm.hb hby d4_23) rfl ?_
      refine XS.iadd X0.here hx rfl (Jvm.hb hby d4_25) rfl ?_
      refine XS.istore X0.here hx rfl (Jvm.hb hby d4_26) rfl (l' := #[.val (.ref r), .val (.int (2 : Int32)), .val (.int (3 : Int32)), .val (.ref t), .val (.int ev), .val (.int iv), .unset, .val (.int (t2 + ev))]) rfl ?_
      refine XS.iconst X0.here hx rfl (Jvm.hb hby d4_28) ?_
      refine XS.istore X0.here hx rfl (Jvm.hb hby d4_29) rfl (l' := #[.val (.ref r), .val (.int (2 : Int32)), .val (.int (3 : Int32)), .val (.ref t), .val (.int ev), .val (.int iv), .val (.int (0 : Int32)), .val (.int (t2 + ev))]) rfl ?_
      refine XS.iloadN X0.here hx rfl (Jvm.hb hby d4_31) rfl ?_
      refine XS.iconst X0.here hx rfl (Jvm.hb hby d4_32) ?_
      refine XS.icmpNo X0.here hx rfl (Jvm.hb hby d4_33) rfl (tlt (by decide)).2.2.2 ?_
      refine XS.aloadN X0.here hx rfl (Jvm.hb hby d4_36) rfl rfl ?_
      refine XS.iconst X0.here hx rfl (Jvm.hb hby d4_37) ?_
      refine X0.iaload hx ((congrArg (fun (HH : Heap) => HH[t]?) (e0 : s₁.heap = h0)).trans Ar700.1) (State.isArrayOf_alike hZ.alike Ar700.2.1) Ar700.2.2 in700 (H700.at in700 rfl) (g := (mkF m 38 #[.val (.ref r), .val (.int (2 : Int32)), .val (.int (3 : Int32)), .val (.ref t), .val (.int ev), .val (.int iv), .val (.int (0 : Int32)), .val (.int (t2 + ev))] [(.int (1 : Int32)), (.ref t)])) rfl rfl (Jvm.hb hby d4_38) _ ?_
      refine XS.iload X0.here hx rfl (Jvm.hb hby d4_39) rfl ?_
      exact kt)
    by_cases q1 : (t2 + ev) < t1
    · skip
      obtain ⟨cl702, Ar702, q702, S702, M702, H702, U702⟩ := id VT
      have in702 : ¬ ((2 : Int32) < 0 ∨ cl702.slots.size ≤ ((2 : Int32)).toNatClampNeg) := inb_of S702 ⟨by decide, by decide⟩
      have pre703 := fun (τ : State) kt => pre701 τ (by
        show Steps p.tables e below (s₁.setTop (mkF m 41 #[.val (.ref r), .val (.int (2 : Int32)), .val (.int (3 : Int32)), .val (.ref t), .val (.int ev), .val (.int iv), .val (.int (0 : Int32)), .val (.int (t2 + ev))] [(.int (t2 + ev)), (.int t1)])) τ
        refine XS.icmpYes X0.here hx rfl (pc0 := 41) (pc' := 50) rfl (Jvm.hb hby d4_41) rfl (tlt q1).2.2.1 (by decide) (by decide) ?_
        refine XS.iloadN X0.here hx rfl (Jvm.hb hby d4_50) rfl ?_
        refine XS.iconst X0.here hx rfl (Jvm.hb hby d4_51) ?_
        refine XS.icmpNo X0.here hx rfl (Jvm.hb hby d4_52) rfl (tlt (by decide)).2.2.2 ?_
        refine XS.aloadN X0.here hx rfl (Jvm.hb hby d4_55) rfl rfl ?_
        refine XS.iconst X0.here hx rfl (Jvm.hb hby d4_56) ?_
        refine X0.iaload hx ((congrArg (fun (HH : Heap) => HH[t]?) (e0 : s₁.heap = h0)).trans Ar702.1) (State.isArrayOf_alike hZ.alike Ar702.2.1) Ar702.2.2 in702 (H702.at in702 rfl) (g := (mkF m 57 #[.val (.ref r), .val (.int (2 : Int32)), .val (.int (3 : Int32)), .val (.ref t), .val (.int ev), .val (.int iv), .val (.int (0 : Int32)), .val (.int (t2 + ev))] [(.int (2 : Int32)), (.ref t)])) rfl rfl (Jvm.hb hby d4_57) _ ?_
        refine XS.iload X0.here hx rfl (Jvm.hb hby d4_58) rfl ?_
        exact kt)
      by_cases q2 : (t2 + ev) < t2
      · skip
        obtain ⟨cl704, Ar704, q704, S704, M704, H704, U704⟩ := id VR
        have in704 : ¬ ((2 : Int32) < 0 ∨ cl704.slots.size ≤ ((2 : Int32)).toNatClampNeg) := inb_of S704 ⟨by decide, by decide⟩
        have hz : lx2 = (0 : Int32) := (Int32.toInt_inj.mp (by rw [show (0 : Int32).toInt = 0 by decide]; have b0 := w0.1; have b1 := (w0.2.2.2.2.1 (by decide) qi).mp q1; have b2 := (w0.2.2.2.2.2.1 (by decide) qi).mp q2; omega))
        have pre705 := fun (τ : State) kt => pre703 τ (by
          show Steps p.tables e below (s₁.setTop (mkF m 60 #[.val (.ref r), .val (.int (2 : Int32)), .val (.int (3 : Int32)), .val (.ref t), .val (.int ev), .val (.int iv), .val (.int (0 : Int32)), .val (.int (t2 + ev))] [(.int (t2 + ev)), (.int t2)])) τ
          refine XS.icmpYes X0.here hx rfl (pc0 := 60) (pc' := 69) rfl (Jvm.hb hby d4_60) rfl (tlt q2).2.2.1 (by decide) (by decide) ?_
          refine XS.iloadN X0.here hx rfl (Jvm.hb hby d4_69) rfl ?_
          refine XS.iconst X0.here hx rfl (Jvm.hb hby d4_70) ?_
          refine XS.icmpYes X0.here hx rfl (pc0 := 71) (pc' := 88) rfl (Jvm.hb hby d4_71) rfl (flt (by decide)).2.2.2 (by decide) (by decide) ?_
          refine XS.aloadN X0.here hx rfl (Jvm.hb hby d4_88) rfl rfl ?_
          refine XS.iloadN X0.here hx rfl (Jvm.hb hby d4_89) rfl ?_
          refine X0.iaload hx ((congrArg (fun (HH : Heap) => HH[r]?) (e0 : s₁.heap = h0)).trans Ar704.1) (State.isArrayOf_alike hZ.alike Ar704.2.1) Ar704.2.2 in704 (H704.at in704 rfl) (g := (mkF m 90 #[.val (.ref r), .val (.int (2 : Int32)), .val (.int (3 : Int32)), .val (.ref t), .val (.int ev), .val (.int iv), .val (.int (0 : Int32)), .val (.int (t2 + ev))] [(.int (2 : Int32)), (.ref r)])) rfl rfl (Jvm.hb hby d4_90) _ ?_
          refine XS.iload X0.here hx rfl (Jvm.hb hby d4_91) rfl ?_
          refine XS.icmpNo X0.here hx rfl (Jvm.hb hby d4_93) rfl (teq hz).2 ?_
          refine XS.iconst X0.here hx rfl (Jvm.hb hby d4_96) ?_
          refine XS.goto X0.here hx rfl (pc0 := 97) (pc' := 101) rfl (Jvm.hb hby d4_97) (by decide) (by decide) ?_
          exact kt)
        obtain ⟨fs, hrL, hrun, hended, hW, hsame⟩ := X0.leave (v := some (.int (1 : Int32))) (fun h => by rw [Bd.returns] at h; cases h)
        refine ⟨_, _, cast (congrFun hPS _) (pre705 _ ?_), hrun, hended, _, _, rfl, ?_, ⟨_, rfl⟩, hW, hsame.mono (by decide) (by decide)⟩
        · show Steps p.tables e below (s₁.setTop (mkF m 101 #[.val (.ref r), .val (.int (2 : Int32)), .val (.int (3 : Int32)), .val (.ref t), .val (.int ev), .val (.int iv), .val (.int (0 : Int32)), .val (.int (t2 + ev))] [(.int (1 : Int32))])) _
          exact retN X0 hx (t := .boolean) Bd.returns (by simp) (Jvm.hb hby d4_101) hrL
        · show QZ h0 n0 _ s₁.heap _
          rw [e0]
          exact ⟨rfl, N0, rfl⟩
      · skip
        obtain ⟨cl706, Ar706, q706, S706, M706, H706, U706⟩ := id VR
        have in706 : ¬ ((2 : Int32) < 0 ∨ cl706.slots.size ≤ ((2 : Int32)).toNatClampNeg) := inb_of S706 ⟨by decide, by decide⟩
        have hz : lx2 = (1 : Int32) := (Int32.toInt_inj.mp (by rw [show (1 : Int32).toInt = 1 by decide]; have b0 := w0.1; have b1 := (w0.2.2.2.2.1 (by decide) qi).mp q1; have b2 := Int.not_lt.mp (fun z => q2 ((w0.2.2.2.2.2.1 (by decide) qi).mpr z)); omega))
        have pre707 := fun (τ : State) kt => pre703 τ (by
          show Steps p.tables e below (s₁.setTop (mkF m 60 #[.val (.ref r), .val (.int (2 : Int32)), .val (.int (3 : Int32)), .val (.ref t), .val (.int ev), .val (.int iv), .val (.int (0 : Int32)), .val (.int (t2 + ev))] [(.int (t2 + ev)), (.int t2)])) τ
          refine XS.icmpNo X0.here hx rfl (Jvm.hb hby d4_60) rfl (flt q2).2.2.1 ?_
          refine XS.iload X0.here hx rfl (Jvm.hb hby d4_63) rfl ?_
          refine XS.iconst X0.here hx rfl (Jvm.hb hby d4_65) ?_
          refine XS.iadd X0.here hx rfl (Jvm.hb hby d4_66) rfl ?_
          refine XS.istore X0.here hx rfl (Jvm.hb hby d4_67) rfl (l' := #[.val (.ref r), .val (.int (2 : Int32)), .val (.int (3 : Int32)), .val (.ref t), .val (.int ev), .val (.int iv), .val (.int (1 : Int32)), .val (.int (t2 + ev))]) rfl ?_
          refine XS.iloadN X0.here hx rfl (Jvm.hb hby d4_69) rfl ?_
          refine XS.iconst X0.here hx rfl (Jvm.hb hby d4_70) ?_
          refine XS.icmpYes X0.here hx rfl (pc0 := 71) (pc' := 88) rfl (Jvm.hb hby d4_71) rfl (flt (by decide)).2.2.2 (by decide) (by decide) ?_
          refine XS.aloadN X0.here hx rfl (Jvm.hb hby d4_88) rfl rfl ?_
          refine XS.iloadN X0.here hx rfl (Jvm.hb hby d4_89) rfl ?_
          refine X0.iaload hx ((congrArg (fun (HH : Heap) => HH[r]?) (e0 : s₁.heap = h0)).trans Ar706.1) (State.isArrayOf_alike hZ.alike Ar706.2.1) Ar706.2.2 in706 (H706.at in706 rfl) (g := (mkF m 90 #[.val (.ref r), .val (.int (2 : Int32)), .val (.int (3 : Int32)), .val (.ref t), .val (.int ev), .val (.int iv), .val (.int (1 : Int32)), .val (.int (t2 + ev))] [(.int (2 : Int32)), (.ref r)])) rfl rfl (Jvm.hb hby d4_90) _ ?_
          refine XS.iload X0.here hx rfl (Jvm.hb hby d4_91) rfl ?_
          refine XS.icmpNo X0.here hx rfl (Jvm.hb hby d4_93) rfl (teq hz).2 ?_
          refine XS.iconst X0.here hx rfl (Jvm.hb hby d4_96) ?_
          refine XS.goto X0.here hx rfl (pc0 := 97) (pc' := 101) rfl (Jvm.hb hby d4_97) (by decide) (by decide) ?_
          exact kt)
        obtain ⟨fs, hrL, hrun, hended, hW, hsame⟩ := X0.leave (v := some (.int (1 : Int32))) (fun h => by rw [Bd.returns] at h; cases h)
        refine ⟨_, _, cast (congrFun hPS _) (pre707 _ ?_), hrun, hended, _, _, rfl, ?_, ⟨_, rfl⟩, hW, hsame.mono (by decide) (by decide)⟩
        · show Steps p.tables e below (s₁.setTop (mkF m 101 #[.val (.ref r), .val (.int (2 : Int32)), .val (.int (3 : Int32)), .val (.ref t), .val (.int ev), .val (.int iv), .val (.int (1 : Int32)), .val (.int (t2 + ev))] [(.int (1 : Int32))])) _
          exact retN X0 hx (t := .boolean) Bd.returns (by simp) (Jvm.hb hby d4_101) hrL
        · show QZ h0 n0 _ s₁.heap _
          rw [e0]
          exact ⟨rfl, N0, rfl⟩
    · skip
      obtain ⟨cl708, Ar708, q708, S708, M708, H708, U708⟩ := id VT
      have in708 : ¬ ((2 : Int32) < 0 ∨ cl708.slots.size ≤ ((2 : Int32)).toNatClampNeg) := inb_of S708 ⟨by decide, by decide⟩
      have pre709 := fun (τ : State) kt => pre701 τ (by
        show Steps p.tables e below (s₁.setTop (mkF m 41 #[.val (.ref r), .val (.int (2 : Int32)), .val (.int (3 : Int32)), .val (.ref t), .val (.int ev), .val (.int iv), .val (.int (0 : Int32)), .val (.int (t2 + ev))] [(.int (t2 + ev)), (.int t1)])) τ
        refine XS.icmpNo X0.here hx rfl (Jvm.hb hby d4_41) rfl (flt q1).2.2.1 ?_
        refine XS.iload X0.here hx rfl (Jvm.hb hby d4_44) rfl ?_
        refine XS.iconst X0.here hx rfl (Jvm.hb hby d4_46) ?_
        refine XS.iadd X0.here hx rfl (Jvm.hb hby d4_47) rfl ?_
        refine XS.istore X0.here hx rfl (Jvm.hb hby d4_48) rfl (l' := #[.val (.ref r), .val (.int (2 : Int32)), .val (.int (3 : Int32)), .val (.ref t), .val (.int ev), .val (.int iv), .val (.int (1 : Int32)), .val (.int (t2 + ev))]) rfl ?_
        refine XS.iloadN X0.here hx rfl (Jvm.hb hby d4_50) rfl ?_
        refine XS.iconst X0.here hx rfl (Jvm.hb hby d4_51) ?_
        refine XS.icmpNo X0.here hx rfl (Jvm.hb hby d4_52) rfl (tlt (by decide)).2.2.2 ?_
        refine XS.aloadN X0.here hx rfl (Jvm.hb hby d4_55) rfl rfl ?_
        refine XS.iconst X0.here hx rfl (Jvm.hb hby d4_56) ?_
        refine X0.iaload hx ((congrArg (fun (HH : Heap) => HH[t]?) (e0 : s₁.heap = h0)).trans Ar708.1) (State.isArrayOf_alike hZ.alike Ar708.2.1) Ar708.2.2 in708 (H708.at in708 rfl) (g := (mkF m 57 #[.val (.ref r), .val (.int (2 : Int32)), .val (.int (3 : Int32)), .val (.ref t), .val (.int ev), .val (.int iv), .val (.int (1 : Int32)), .val (.int (t2 + ev))] [(.int (2 : Int32)), (.ref t)])) rfl rfl (Jvm.hb hby d4_57) _ ?_
        refine XS.iload X0.here hx rfl (Jvm.hb hby d4_58) rfl ?_
        exact kt)
      by_cases q2 : (t2 + ev) < t2
      · skip
        obtain ⟨cl710, Ar710, q710, S710, M710, H710, U710⟩ := id VR
        have in710 : ¬ ((2 : Int32) < 0 ∨ cl710.slots.size ≤ ((2 : Int32)).toNatClampNeg) := inb_of S710 ⟨by decide, by decide⟩
        have hz : lx2 = (1 : Int32) := (Int32.toInt_inj.mp (by rw [show (1 : Int32).toInt = 1 by decide]; have b0 := w0.1; have b1 := Int.not_lt.mp (fun z => q1 ((w0.2.2.2.2.1 (by decide) qi).mpr z)); have b2 := (w0.2.2.2.2.2.1 (by decide) qi).mp q2; omega))
        have pre711 := fun (τ : State) kt => pre709 τ (by
          show Steps p.tables e below (s₁.setTop (mkF m 60 #[.val (.ref r), .val (.int (2 : Int32)), .val (.int (3 : Int32)), .val (.ref t), .val (.int ev), .val (.int iv), .val (.int (1 : Int32)), .val (.int (t2 + ev))] [(.int (t2 + ev)), (.int t2)])) τ
          refine XS.icmpYes X0.here hx rfl (pc0 := 60) (pc' := 69) rfl (Jvm.hb hby d4_60) rfl (tlt q2).2.2.1 (by decide) (by decide) ?_
          refine XS.iloadN X0.here hx rfl (Jvm.hb hby d4_69) rfl ?_
          refine XS.iconst X0.here hx rfl (Jvm.hb hby d4_70) ?_
          refine XS.icmpYes X0.here hx rfl (pc0 := 71) (pc' := 88) rfl (Jvm.hb hby d4_71) rfl (flt (by decide)).2.2.2 (by decide) (by decide) ?_
          refine XS.aloadN X0.here hx rfl (Jvm.hb hby d4_88) rfl rfl ?_
          refine XS.iloadN X0.here hx rfl (Jvm.hb hby d4_89) rfl ?_
          refine X0.iaload hx ((congrArg (fun (HH : Heap) => HH[r]?) (e0 : s₁.heap = h0)).trans Ar710.1) (State.isArrayOf_alike hZ.alike Ar710.2.1) Ar710.2.2 in710 (H710.at in710 rfl) (g := (mkF m 90 #[.val (.ref r), .val (.int (2 : Int32)), .val (.int (3 : Int32)), .val (.ref t), .val (.int ev), .val (.int iv), .val (.int (1 : Int32)), .val (.int (t2 + ev))] [(.int (2 : Int32)), (.ref r)])) rfl rfl (Jvm.hb hby d4_90) _ ?_
          refine XS.iload X0.here hx rfl (Jvm.hb hby d4_91) rfl ?_
          refine XS.icmpNo X0.here hx rfl (Jvm.hb hby d4_93) rfl (teq hz).2 ?_
          refine XS.iconst X0.here hx rfl (Jvm.hb hby d4_96) ?_
          refine XS.goto X0.here hx rfl (pc0 := 97) (pc' := 101) rfl (Jvm.hb hby d4_97) (by decide) (by decide) ?_
          exact kt)
        obtain ⟨fs, hrL, hrun, hended, hW, hsame⟩ := X0.leave (v := some (.int (1 : Int32))) (fun h => by rw [Bd.returns] at h; cases h)
        refine ⟨_, _, cast (congrFun hPS _) (pre711 _ ?_), hrun, hended, _, _, rfl, ?_, ⟨_, rfl⟩, hW, hsame.mono (by decide) (by decide)⟩
        · show Steps p.tables e below (s₁.setTop (mkF m 101 #[.val (.ref r), .val (.int (2 : Int32)), .val (.int (3 : Int32)), .val (.ref t), .val (.int ev), .val (.int iv), .val (.int (1 : Int32)), .val (.int (t2 + ev))] [(.int (1 : Int32))])) _
          exact retN X0 hx (t := .boolean) Bd.returns (by simp) (Jvm.hb hby d4_101) hrL
        · show QZ h0 n0 _ s₁.heap _
          rw [e0]
          exact ⟨rfl, N0, rfl⟩
      · skip
        obtain ⟨cl712, Ar712, q712, S712, M712, H712, U712⟩ := id VR
        have in712 : ¬ ((2 : Int32) < 0 ∨ cl712.slots.size ≤ ((2 : Int32)).toNatClampNeg) := inb_of S712 ⟨by decide, by decide⟩
        have hz : lx2 = (2 : Int32) := (Int32.toInt_inj.mp (by rw [show (2 : Int32).toInt = 2 by decide]; have b0 := w0.1; have b1 := Int.not_lt.mp (fun z => q1 ((w0.2.2.2.2.1 (by decide) qi).mpr z)); have b2 := Int.not_lt.mp (fun z => q2 ((w0.2.2.2.2.2.1 (by decide) qi).mpr z)); omega))
        have pre713 := fun (τ : State) kt => pre709 τ (by
          show Steps p.tables e below (s₁.setTop (mkF m 60 #[.val (.ref r), .val (.int (2 : Int32)), .val (.int (3 : Int32)), .val (.ref t), .val (.int ev), .val (.int iv), .val (.int (1 : Int32)), .val (.int (t2 + ev))] [(.int (t2 + ev)), (.int t2)])) τ
          refine XS.icmpNo X0.here hx rfl (Jvm.hb hby d4_60) rfl (flt q2).2.2.1 ?_
          refine XS.iload X0.here hx rfl (Jvm.hb hby d4_63) rfl ?_
          refine XS.iconst X0.here hx rfl (Jvm.hb hby d4_65) ?_
          refine XS.iadd X0.here hx rfl (Jvm.hb hby d4_66) rfl ?_
          refine XS.istore X0.here hx rfl (Jvm.hb hby d4_67) rfl (l' := #[.val (.ref r), .val (.int (2 : Int32)), .val (.int (3 : Int32)), .val (.ref t), .val (.int ev), .val (.int iv), .val (.int (2 : Int32)), .val (.int (t2 + ev))]) rfl ?_
          refine XS.iloadN X0.here hx rfl (Jvm.hb hby d4_69) rfl ?_
          refine XS.iconst X0.here hx rfl (Jvm.hb hby d4_70) ?_
          refine XS.icmpYes X0.here hx rfl (pc0 := 71) (pc' := 88) rfl (Jvm.hb hby d4_71) rfl (flt (by decide)).2.2.2 (by decide) (by decide) ?_
          refine XS.aloadN X0.here hx rfl (Jvm.hb hby d4_88) rfl rfl ?_
          refine XS.iloadN X0.here hx rfl (Jvm.hb hby d4_89) rfl ?_
          refine X0.iaload hx ((congrArg (fun (HH : Heap) => HH[r]?) (e0 : s₁.heap = h0)).trans Ar712.1) (State.isArrayOf_alike hZ.alike Ar712.2.1) Ar712.2.2 in712 (H712.at in712 rfl) (g := (mkF m 90 #[.val (.ref r), .val (.int (2 : Int32)), .val (.int (3 : Int32)), .val (.ref t), .val (.int ev), .val (.int iv), .val (.int (2 : Int32)), .val (.int (t2 + ev))] [(.int (2 : Int32)), (.ref r)])) rfl rfl (Jvm.hb hby d4_90) _ ?_
          refine XS.iload X0.here hx rfl (Jvm.hb hby d4_91) rfl ?_
          refine XS.icmpNo X0.here hx rfl (Jvm.hb hby d4_93) rfl (teq hz).2 ?_
          refine XS.iconst X0.here hx rfl (Jvm.hb hby d4_96) ?_
          refine XS.goto X0.here hx rfl (pc0 := 97) (pc' := 101) rfl (Jvm.hb hby d4_97) (by decide) (by decide) ?_
          exact kt)
        obtain ⟨fs, hrL, hrun, hended, hW, hsame⟩ := X0.leave (v := some (.int (1 : Int32))) (fun h => by rw [Bd.returns] at h; cases h)
        refine ⟨_, _, cast (congrFun hPS _) (pre713 _ ?_), hrun, hended, _, _, rfl, ?_, ⟨_, rfl⟩, hW, hsame.mono (by decide) (by decide)⟩
        · show Steps p.tables e below (s₁.setTop (mkF m 101 #[.val (.ref r), .val (.int (2 : Int32)), .val (.int (3 : Int32)), .val (.ref t), .val (.int ev), .val (.int iv), .val (.int (2 : Int32)), .val (.int (t2 + ev))] [(.int (1 : Int32))])) _
          exact retN X0 hx (t := .boolean) Bd.returns (by simp) (Jvm.hb hby d4_101) hrL
        · show QZ h0 n0 _ s₁.heap _
          rw [e0]
          exact ⟨rfl, N0, rfl⟩
  · skip
    obtain ⟨cl714, Ar714, q714, S714, M714, H714, U714⟩ := id VR
    have in714 : ¬ ((2 : Int32) < 0 ∨ cl714.slots.size ≤ ((2 : Int32)).toNatClampNeg) := inb_of S714 ⟨by decide, by decide⟩
    have hz : lx2 = (2 : Int32) := (Int32.toInt_inj.mp (by rw [w0.2.2.2.1 qi]; decide))
    have pre715 := fun (τ : State) kt => pre698 τ (by
      show Steps p.tables e below (s₁.setTop (mkF m 9 #[.val (.ref r), .val (.int (2 : Int32)), .val (.int (3 : Int32)), .val (.ref t), .val (.int ev), .val (.int iv), .unset, .unset] [(.int iv)])) τ
      refine XS.ifNo X0.here hx rfl (Jvm.hb hby d4_9) rfl ((if0 _ _).trans (feq qi).1) ?_
      refine XS.iloadN X0.here hx rfl (Jvm.hb hby d4_12) rfl ?_
      refine XS.iconst X0.here hx rfl (Jvm.hb hby d4_13) ?_
      refine XS.isub X0.here hx rfl (Jvm.hb hby d4_14) rfl ?_
      refine XS.istore X0.here hx rfl (Jvm.hb hby d4_15) rfl (l' := #[.val (.ref r), .val (.int (2 : Int32)), .val (.int (3 : Int32)), .val (.ref t), .val (.int ev), .val (.int iv), .val (.int (2 : Int32)), .unset]) rfl ?_
      refine XS.goto X0.here hx rfl (pc0 := 17) (pc' := 88) rfl (Jvm.hb hby d4_17) (by decide) (by decide) ?_
      refine XS.aloadN X0.here hx rfl (Jvm.hb hby d4_88) rfl rfl ?_
      refine XS.iloadN X0.here hx rfl (Jvm.hb hby d4_89) rfl ?_
      refine X0.iaload hx ((congrArg (fun (HH : Heap) => HH[r]?) (e0 : s₁.heap = h0)).trans Ar714.1) (State.isArrayOf_alike hZ.alike Ar714.2.1) Ar714.2.2 in714 (H714.at in714 rfl) (g := (mkF m 90 #[.val (.ref r), .val (.int (2 : Int32)), .val (.int (3 : Int32)), .val (.ref t), .val (.int ev), .val (.int iv), .val (.int (2 : Int32)), .unset] [(.int (2 : Int32)), (.ref r)])) rfl rfl (Jvm.hb hby d4_90) _ ?_
      refine XS.iload X0.here hx rfl (Jvm.hb hby d4_91) rfl ?_
      refine XS.icmpNo X0.here hx rfl (Jvm.hb hby d4_93) rfl (teq hz).2 ?_
      refine XS.iconst X0.here hx rfl (Jvm.hb hby d4_96) ?_
      refine XS.goto X0.here hx rfl (pc0 := 97) (pc' := 101) rfl (Jvm.hb hby d4_97) (by decide) (by decide) ?_
      exact kt)
    obtain ⟨fs, hrL, hrun, hended, hW, hsame⟩ := X0.leave (v := some (.int (1 : Int32))) (fun h => by rw [Bd.returns] at h; cases h)
    refine ⟨_, _, cast (congrFun hPS _) (pre715 _ ?_), hrun, hended, _, _, rfl, ?_, ⟨_, rfl⟩, hW, hsame.mono (by decide) (by decide)⟩
    · show Steps p.tables e below (s₁.setTop (mkF m 101 #[.val (.ref r), .val (.int (2 : Int32)), .val (.int (3 : Int32)), .val (.ref t), .val (.int ev), .val (.int iv), .val (.int (2 : Int32)), .unset] [(.int (1 : Int32))])) _
      exact retN X0 hx (t := .boolean) Bd.returns (by simp) (Jvm.hb hby d4_101) hrL
    · show QZ h0 n0 _ s₁.heap _
      rw [e0]
      exact ⟨rfl, N0, rfl⟩
set_option maxRecDepth 65536 in
set_option maxHeartbeats 40000000 in
theorem rmC0_4 (l : Launch) (Z : State) (a0 : Array Value) (hw : ∀ d ∈ tables_1, d.before a0 Z = true) (ws : List Jvm.Cond) (r : Addr) (ci : Int32) (cn : Int32) (t : Addr) (ev : Int32) (iv : Int32) (kr kt : ClassId) (t0 t1 t2 t3 lx0 lx1 lx2 lx3 : Int32) (en : UInt64) (h0 : Heap) (n0 : Nat) (Z0 : n0 ≤ h0.size) (hi : ci = (0 : Int32)) (hn : cn = (4 : Int32)) (VR : Arv Z h0 r kr .int (4 : Int32) [(.int lx0), (.int lx1), (.int lx2), (.int lx3)] (.int (0 : Int32))) (VT : Arv Z h0 t kt .int (4 : Int32) [(.int t0), (.int t1), (.int t2), (.int t3)] (.int (0 : Int32))) (w0 : own_row 4 iv t1 t2 t3 t0 ev en lx0) :
    MetFree l (⟨"com/example/counterpath/counterpath/core/WindowLastsPinLaw", "check", "([III[IIZ)Z"⟩ : MethodName) (head1 (Jvm.Cond.code (⟨"com/example/counterpath/counterpath/core/WindowLastsPinLaw", "check", "([III[IIZ)Z"⟩ : MethodName) method_3_code 8 (some .boolean) :: ws) ({ frames := 0, cells := 0, slots := 0, locals := 0 } : Room)) (fun α U => α = #[(.ref r), (.int ci), (.int cn), (.ref t), (.int ev), (.int iv)] ∧ Z.Warmed39 U.vm ∧ U.heap = h0) (fun _ _ _ _ _ => True) (fun _ U ω U' => ∃ ν Λ, ω = .returned ν ∧ QZ h0 n0 ν U'.heap Λ ∧ FrameEnd U ω U' Λ ({ frames := 0, cells := 0, slots := 0, locals := 0 } : Room).cells ({ frames := 0, cells := 0, slots := 0, locals := 0 } : Room).slots) := by
  refine MetFree.of_bodySF (plainFor_of_name own_pn_com_example_counterpath_counterpath_core_WindowLastsPinLaw) hisR ?_
  intro p e s m args below meth c s₁ Bd hml0 hP hK
  obtain ⟨rfl, hZ, hh⟩ := hP
  have hx := Bd.exec
  have hby := Bd.bytes
  have hml : c.maxLocals = 8 := hml0
  have hown : s.vm.findClass "com/example/counterpath/counterpath/core/WindowLastsPinLaw" = some m.cls := findClass_of_methodNamed Bd.named
  have hnm := (name_of_methodNamed Bd.named Bd.method).1
  have X0 : Stand p l e ({ frames := 0, cells := 0, slots := 0, locals := 0 } : Room) s m #[(.ref r), (.int ci), (.int cn), (.ref t), (.int ev), (.int iv)] below meth c s₁ [] 0 0 := Stand.of_body Bd
  have e0 : s₁.heap = h0 := by rw [← hh, Bd.state]; rfl
  have N0 := Fr.nil n0
  have KK0 : Keep h0 h0 [] := Keep.refl h0 []
  obtain ⟨PS, hPS⟩ : ∃ P : State → Prop, P = fun τ => Steps p.tables e below (s₁.setTop (entryFrame m #[(.ref r), (.int ci), (.int cn), (.ref t), (.int ev), (.int iv)] 8)) τ := ⟨_, rfl⟩
  have pre0 : ∀ τ, Steps p.tables e below (s₁.setTop (mkF m 0 #[.val (.ref r), .val (.int ci), .val (.int cn), .val (.ref t), .val (.int ev), .val (.int iv), .unset, .unset] [])) τ → PS τ := by rw [hPS]; exact fun τ κ => castTop (own_ef4 m r ci cn t ev iv) κ
  have pre716 : ∀ τ, Steps p.tables e below (s₁.setTop (mkF m 0 #[.val (.ref r), .val (.int (0 : Int32)), .val (.int cn), .val (.ref t), .val (.int ev), .val (.int iv), .unset, .unset] [])) τ → PS τ := by have hq := pre0; rw [hi] at hq; exact hq
  have pre717 : ∀ τ, Steps p.tables e below (s₁.setTop (mkF m 0 #[.val (.ref r), .val (.int (0 : Int32)), .val (.int (4 : Int32)), .val (.ref t), .val (.int ev), .val (.int iv), .unset, .unset] [])) τ → PS τ := by have hq := pre716; rw [hn] at hq; exact hq
  have pre718 := fun (τ : State) kt => pre717 τ (by
    show Steps p.tables e below (s₁.setTop (mkF m 0 #[.val (.ref r), .val (.int (0 : Int32)), .val (.int (4 : Int32)), .val (.ref t), .val (.int ev), .val (.int iv), .unset, .unset] [])) τ
    refine XS.iloadN X0.here hx rfl (Jvm.hb hby d4_0) rfl ?_
    refine XS.iloadN X0.here hx rfl (Jvm.hb hby d4_1) rfl ?_
    refine XS.icmpYes X0.here hx rfl (pc0 := 2) (pc' := 7) rfl (Jvm.hb hby d4_2) rfl (tlt (by decide)).1 (by decide) (by decide) ?_
    refine XS.iload X0.here hx rfl (Jvm.hb hby d4_7) rfl ?_
    exact kt)
  by_cases qi : iv = (0 : Int32)
  · skip
    obtain ⟨cl719, Ar719, q719, S719, M719, H719, U719⟩ := id VT
    have in719 : ¬ ((0 : Int32) < 0 ∨ cl719.slots.size ≤ ((0 : Int32)).toNatClampNeg) := inb_of S719 ⟨by decide, by decide⟩
    obtain ⟨cl720, Ar720, q720, S720, M720, H720, U720⟩ := id VT
    have in720 : ¬ ((1 : Int32) < 0 ∨ cl720.slots.size ≤ ((1 : Int32)).toNatClampNeg) := inb_of S720 ⟨by decide, by decide⟩
    have pre721 := fun (τ : State) kt => pre718 τ (by
      show Steps p.tables e below (s₁.setTop (mkF m 9 #[.val (.ref r), .val (.int (0 : Int32)), .val (.int (4 : Int32)), .val (.ref t), .val (.int ev), .val (.int iv), .unset, .unset] [(.int iv)])) τ
      refine XS.ifYes X0.here hx rfl (pc0 := 9) (pc' := 20) rfl (Jvm.hb hby d4_9) rfl ((if0 _ _).trans (teq qi).1) (by decide) (by decide) ?_
      refine XS.aloadN X0.here hx rfl (Jvm.hb hby d4_20) rfl rfl ?_
      refine XS.iloadN X0.here hx rfl (Jvm.hb hby d4_21) rfl ?_
      refine X0.iaload hx ((congrArg (fun (HH : Heap) => HH[t]?) (e0 : s₁.heap = h0)).trans Ar719.1) (State.isArrayOf_alike hZ.alike Ar719.2.1) Ar719.2.2 in719 (H719.at in719 rfl) (g := (mkF m 22 #[.val (.ref r), .val (.int (0 : Int32)), .val (.int (4 : Int32)), .val (.ref t), .val (.int ev), .val (.int iv), .unset, .unset] [(.int (0 : Int32)), (.ref t)])) rfl rfl (Jvm.hb hby d4_22) _ ?_
      refine XS.iload X0.here hx rfl (Jvm.hb hby d4_23) rfl ?_
      refine XS.iadd X0.here hx rfl (Jvm.hb hby d4_25) rfl ?_
      refine XS.istore X0.here hx rfl (Jvm.hb hby d4_26) rfl (l' := #[.val (.ref r), .val (.int (0 : Int32)), .val (.int (4 : Int32)), .val (.ref t), .val (.int ev), .val (.int iv), .unset, .val (.int (t0 + ev))]) rfl ?_
      refine XS.iconst X0.here hx rfl (Jvm.hb hby d4_28) ?_
      refine XS.istore X0.here hx rfl (Jvm.hb hby d4_29) rfl (l' := #[.val (.ref r), .val (.int (0 : Int32)), .val (.int (4 : Int32)), .val (.ref t), .val (.int ev), .val (.int iv), .val (.int (0 : Int32)), .val (.int (t0 + ev))]) rfl ?_
      refine XS.iloadN X0.here hx rfl (Jvm.hb hby d4_31) rfl ?_
      refine XS.iconst X0.here hx rfl (Jvm.hb hby d4_32) ?_
      refine XS.icmpNo X0.here hx rfl (Jvm.hb hby d4_33) rfl (tlt (by decide)).2.2.2 ?_
      refine XS.aloadN X0.here hx rfl (Jvm.hb hby d4_36) rfl rfl ?_
      refine XS.iconst X0.here hx rfl (Jvm.hb hby d4_37) ?_
      refine X0.iaload hx ((congrArg (fun (HH : Heap) => HH[t]?) (e0 : s₁.heap = h0)).trans Ar720.1) (State.isArrayOf_alike hZ.alike Ar720.2.1) Ar720.2.2 in720 (H720.at in720 rfl) (g := (mkF m 38 #[.val (.ref r), .val (.int (0 : Int32)), .val (.int (4 : Int32)), .val (.ref t), .val (.int ev), .val (.int iv), .val (.int (0 : Int32)), .val (.int (t0 + ev))] [(.int (1 : Int32)), (.ref t)])) rfl rfl (Jvm.hb hby d4_38) _ ?_
      refine XS.iload X0.here hx rfl (Jvm.hb hby d4_39) rfl ?_
      exact kt)
    by_cases q1 : (t0 + ev) < t1
    · skip
      obtain ⟨cl722, Ar722, q722, S722, M722, H722, U722⟩ := id VT
      have in722 : ¬ ((2 : Int32) < 0 ∨ cl722.slots.size ≤ ((2 : Int32)).toNatClampNeg) := inb_of S722 ⟨by decide, by decide⟩
      have pre723 := fun (τ : State) kt => pre721 τ (by
        show Steps p.tables e below (s₁.setTop (mkF m 41 #[.val (.ref r), .val (.int (0 : Int32)), .val (.int (4 : Int32)), .val (.ref t), .val (.int ev), .val (.int iv), .val (.int (0 : Int32)), .val (.int (t0 + ev))] [(.int (t0 + ev)), (.int t1)])) τ
        refine XS.icmpYes X0.here hx rfl (pc0 := 41) (pc' := 50) rfl (Jvm.hb hby d4_41) rfl (tlt q1).2.2.1 (by decide) (by decide) ?_
        refine XS.iloadN X0.here hx rfl (Jvm.hb hby d4_50) rfl ?_
        refine XS.iconst X0.here hx rfl (Jvm.hb hby d4_51) ?_
        refine XS.icmpNo X0.here hx rfl (Jvm.hb hby d4_52) rfl (tlt (by decide)).2.2.2 ?_
        refine XS.aloadN X0.here hx rfl (Jvm.hb hby d4_55) rfl rfl ?_
        refine XS.iconst X0.here hx rfl (Jvm.hb hby d4_56) ?_
        refine X0.iaload hx ((congrArg (fun (HH : Heap) => HH[t]?) (e0 : s₁.heap = h0)).trans Ar722.1) (State.isArrayOf_alike hZ.alike Ar722.2.1) Ar722.2.2 in722 (H722.at in722 rfl) (g := (mkF m 57 #[.val (.ref r), .val (.int (0 : Int32)), .val (.int (4 : Int32)), .val (.ref t), .val (.int ev), .val (.int iv), .val (.int (0 : Int32)), .val (.int (t0 + ev))] [(.int (2 : Int32)), (.ref t)])) rfl rfl (Jvm.hb hby d4_57) _ ?_
        refine XS.iload X0.here hx rfl (Jvm.hb hby d4_58) rfl ?_
        exact kt)
      by_cases q2 : (t0 + ev) < t2
      · skip
        obtain ⟨cl724, Ar724, q724, S724, M724, H724, U724⟩ := id VT
        have in724 : ¬ ((3 : Int32) < 0 ∨ cl724.slots.size ≤ ((3 : Int32)).toNatClampNeg) := inb_of S724 ⟨by decide, by decide⟩
        have pre725 := fun (τ : State) kt => pre723 τ (by
          show Steps p.tables e below (s₁.setTop (mkF m 60 #[.val (.ref r), .val (.int (0 : Int32)), .val (.int (4 : Int32)), .val (.ref t), .val (.int ev), .val (.int iv), .val (.int (0 : Int32)), .val (.int (t0 + ev))] [(.int (t0 + ev)), (.int t2)])) τ
          refine XS.icmpYes X0.here hx rfl (pc0 := 60) (pc' := 69) rfl (Jvm.hb hby d4_60) rfl (tlt q2).2.2.1 (by decide) (by decide) ?_
          refine XS.iloadN X0.here hx rfl (Jvm.hb hby d4_69) rfl ?_
          refine XS.iconst X0.here hx rfl (Jvm.hb hby d4_70) ?_
          refine XS.icmpNo X0.here hx rfl (Jvm.hb hby d4_71) rfl (tlt (by decide)).2.2.2 ?_
          refine XS.aloadN X0.here hx rfl (Jvm.hb hby d4_74) rfl rfl ?_
          refine XS.iconst X0.here hx rfl (Jvm.hb hby d4_75) ?_
          refine X0.iaload hx ((congrArg (fun (HH : Heap) => HH[t]?) (e0 : s₁.heap = h0)).trans Ar724.1) (State.isArrayOf_alike hZ.alike Ar724.2.1) Ar724.2.2 in724 (H724.at in724 rfl) (g := (mkF m 76 #[.val (.ref r), .val (.int (0 : Int32)), .val (.int (4 : Int32)), .val (.ref t), .val (.int ev), .val (.int iv), .val (.int (0 : Int32)), .val (.int (t0 + ev))] [(.int (3 : Int32)), (.ref t)])) rfl rfl (Jvm.hb hby d4_76) _ ?_
          refine XS.iload X0.here hx rfl (Jvm.hb hby d4_77) rfl ?_
          exact kt)
        by_cases q3 : (t0 + ev) < t3
        · skip
          obtain ⟨cl726, Ar726, q726, S726, M726, H726, U726⟩ := id VR
          have in726 : ¬ ((0 : Int32) < 0 ∨ cl726.slots.size ≤ ((0 : Int32)).toNatClampNeg) := inb_of S726 ⟨by decide, by decide⟩
          have hz : lx0 = (0 : Int32) := (Int32.toInt_inj.mp (by rw [show (0 : Int32).toInt = 0 by decide]; have b0 := w0.1; have b1 := (w0.2.2.2.2.1 (by decide) qi).mp q1; have b2 := (w0.2.2.2.2.2.1 (by decide) qi).mp q2; have b3 := (w0.2.2.2.2.2.2 (by decide) qi).mp q3; omega))
          have pre727 := fun (τ : State) kt => pre725 τ (by
            show Steps p.tables e below (s₁.setTop (mkF m 79 #[.val (.ref r), .val (.int (0 : Int32)), .val (.int (4 : Int32)), .val (.ref t), .val (.int ev), .val (.int iv), .val (.int (0 : Int32)), .val (.int (t0 + ev))] [(.int (t0 + ev)), (.int t3)])) τ
            refine XS.icmpYes X0.here hx rfl (pc0 := 79) (pc' := 88) rfl (Jvm.hb hby d4_79) rfl (tlt q3).2.2.1 (by decide) (by decide) ?_
            refine XS.aloadN X0.here hx rfl (Jvm.hb hby d4_88) rfl rfl ?_
            refine XS.iloadN X0.here hx rfl (Jvm.hb hby d4_89) rfl ?_
            refine X0.iaload hx ((congrArg (fun (HH : Heap) => HH[r]?) (e0 : s₁.heap = h0)).trans Ar726.1) (State.isArrayOf_alike hZ.alike Ar726.2.1) Ar726.2.2 in726 (H726.at in726 rfl) (g := (mkF m 90 #[.val (.ref r), .val (.int (0 : Int32)), .val (.int (4 : Int32)), .val (.ref t), .val (.int ev), .val (.int iv), .val (.int (0 : Int32)), .val (.int (t0 + ev))] [(.int (0 : Int32)), (.ref r)])) rfl rfl (Jvm.hb hby d4_90) _ ?_
            refine XS.iload X0.here hx rfl (Jvm.hb hby d4_91) rfl ?_
            refine XS.icmpNo X0.here hx rfl (Jvm.hb hby d4_93) rfl (teq hz).2 ?_
            refine XS.iconst X0.here hx rfl (Jvm.hb hby d4_96) ?_
            refine XS.goto X0.here hx rfl (pc0 := 97) (pc' := 101) rfl (Jvm.hb hby d4_97) (by decide) (by decide) ?_
            exact kt)
          obtain ⟨fs, hrL, hrun, hended, hW, hsame⟩ := X0.leave (v := some (.int (1 : Int32))) (fun h => by rw [Bd.returns] at h; cases h)
          refine ⟨_, _, cast (congrFun hPS _) (pre727 _ ?_), hrun, hended, _, _, rfl, ?_, ⟨_, rfl⟩, hW, hsame.mono (by decide) (by decide)⟩
          · show Steps p.tables e below (s₁.setTop (mkF m 101 #[.val (.ref r), .val (.int (0 : Int32)), .val (.int (4 : Int32)), .val (.ref t), .val (.int ev), .val (.int iv), .val (.int (0 : Int32)), .val (.int (t0 + ev))] [(.int (1 : Int32))])) _
            exact retN X0 hx (t := .boolean) Bd.returns (by simp) (Jvm.hb hby d4_101) hrL
          · show QZ h0 n0 _ s₁.heap _
            rw [e0]
            exact ⟨rfl, N0, rfl⟩
        · skip
          obtain ⟨cl728, Ar728, q728, S728, M728, H728, U728⟩ := id VR
          have in728 : ¬ ((0 : Int32) < 0 ∨ cl728.slots.size ≤ ((0 : Int32)).toNatClampNeg) := inb_of S728 ⟨by decide, by decide⟩
          have hz : lx0 = (1 : Int32) := (Int32.toInt_inj.mp (by rw [show (1 : Int32).toInt = 1 by decide]; have b0 := w0.1; have b1 := (w0.2.2.2.2.1 (by decide) qi).mp q1; have b2 := (w0.2.2.2.2.2.1 (by decide) qi).mp q2; have b3 := Int.not_lt.mp (fun z => q3 ((w0.2.2.2.2.2.2 (by decide) qi).mpr z)); omega))
          have pre729 := fun (τ : State) kt => pre725 τ (by
            show Steps p.tables e below (s₁.setTop (mkF m 79 #[.val (.ref r), .val (.int (0 : Int32)), .val (.int (4 : Int32)), .val (.ref t), .val (.int ev), .val (.int iv), .val (.int (0 : Int32)), .val (.int (t0 + ev))] [(.int (t0 + ev)), (.int t3)])) τ
            refine XS.icmpNo X0.here hx rfl (Jvm.hb hby d4_79) rfl (flt q3).2.2.1 ?_
            refine XS.iload X0.here hx rfl (Jvm.hb hby d4_82) rfl ?_
            refine XS.iconst X0.here hx rfl (Jvm.hb hby d4_84) ?_
            refine XS.iadd X0.here hx rfl (Jvm.hb hby d4_85) rfl ?_
            refine XS.istore X0.here hx rfl (Jvm.hb hby d4_86) rfl (l' := #[.val (.ref r), .val (.int (0 : Int32)), .val (.int (4 : Int32)), .val (.ref t), .val (.int ev), .val (.int iv), .val (.int (1 : Int32)), .val (.int (t0 + ev))]) rfl ?_
            refine XS.aloadN X0.here hx rfl (Jvm.hb hby d4_88) rfl rfl ?_
            refine XS.iloadN X0.here hx rfl (Jvm.hb hby d4_89) rfl ?_
            refine X0.iaload hx ((congrArg (fun (HH : Heap) => HH[r]?) (e0 : s₁.heap = h0)).trans Ar728.1) (State.isArrayOf_alike hZ.alike Ar728.2.1) Ar728.2.2 in728 (H728.at in728 rfl) (g := (mkF m 90 #[.val (.ref r), .val (.int (0 : Int32)), .val (.int (4 : Int32)), .val (.ref t), .val (.int ev), .val (.int iv), .val (.int (1 : Int32)), .val (.int (t0 + ev))] [(.int (0 : Int32)), (.ref r)])) rfl rfl (Jvm.hb hby d4_90) _ ?_
            refine XS.iload X0.here hx rfl (Jvm.hb hby d4_91) rfl ?_
            refine XS.icmpNo X0.here hx rfl (Jvm.hb hby d4_93) rfl (teq hz).2 ?_
            refine XS.iconst X0.here hx rfl (Jvm.hb hby d4_96) ?_
            refine XS.goto X0.here hx rfl (pc0 := 97) (pc' := 101) rfl (Jvm.hb hby d4_97) (by decide) (by decide) ?_
            exact kt)
          obtain ⟨fs, hrL, hrun, hended, hW, hsame⟩ := X0.leave (v := some (.int (1 : Int32))) (fun h => by rw [Bd.returns] at h; cases h)
          refine ⟨_, _, cast (congrFun hPS _) (pre729 _ ?_), hrun, hended, _, _, rfl, ?_, ⟨_, rfl⟩, hW, hsame.mono (by decide) (by decide)⟩
          · show Steps p.tables e below (s₁.setTop (mkF m 101 #[.val (.ref r), .val (.int (0 : Int32)), .val (.int (4 : Int32)), .val (.ref t), .val (.int ev), .val (.int iv), .val (.int (1 : Int32)), .val (.int (t0 + ev))] [(.int (1 : Int32))])) _
            exact retN X0 hx (t := .boolean) Bd.returns (by simp) (Jvm.hb hby d4_101) hrL
          · show QZ h0 n0 _ s₁.heap _
            rw [e0]
            exact ⟨rfl, N0, rfl⟩
      · skip
        obtain ⟨cl730, Ar730, q730, S730, M730, H730, U730⟩ := id VT
        have in730 : ¬ ((3 : Int32) < 0 ∨ cl730.slots.size ≤ ((3 : Int32)).toNatClampNeg) := inb_of S730 ⟨by decide, by decide⟩
        have pre731 := fun (τ : State) kt => pre723 τ (by
          show Steps p.tables e below (s₁.setTop (mkF m 60 #[.val (.ref r), .val (.int (0 : Int32)), .val (.int (4 : Int32)), .val (.ref t), .val (.int ev), .val (.int iv), .val (.int (0 : Int32)), .val (.int (t0 + ev))] [(.int (t0 + ev)), (.int t2)])) τ
          refine XS.icmpNo X0.here hx rfl (Jvm.hb hby d4_60) rfl (flt q2).2.2.1 ?_
          refine XS.iload X0.here hx rfl (Jvm.hb hby d4_63) rfl ?_
          refine XS.iconst X0.here hx rfl (Jvm.hb hby d4_65) ?_
          refine XS.iadd X0.here hx rfl (Jvm.hb hby d4_66) rfl ?_
          refine XS.istore X0.here hx rfl (Jvm.hb hby d4_67) rfl (l' := #[.val (.ref r), .val (.int (0 : Int32)), .val (.int (4 : Int32)), .val (.ref t), .val (.int ev), .val (.int iv), .val (.int (1 : Int32)), .val (.int (t0 + ev))]) rfl ?_
          refine XS.iloadN X0.here hx rfl (Jvm.hb hby d4_69) rfl ?_
          refine XS.iconst X0.here hx rfl (Jvm.hb hby d4_70) ?_
          refine XS.icmpNo X0.here hx rfl (Jvm.hb hby d4_71) rfl (tlt (by decide)).2.2.2 ?_
          refine XS.aloadN X0.here hx rfl (Jvm.hb hby d4_74) rfl rfl ?_
          refine XS.iconst X0.here hx rfl (Jvm.hb hby d4_75) ?_
          refine X0.iaload hx ((congrArg (fun (HH : Heap) => HH[t]?) (e0 : s₁.heap = h0)).trans Ar730.1) (State.isArrayOf_alike hZ.alike Ar730.2.1) Ar730.2.2 in730 (H730.at in730 rfl) (g := (mkF m 76 #[.val (.ref r), .val (.int (0 : Int32)), .val (.int (4 : Int32)), .val (.ref t), .val (.int ev), .val (.int iv), .val (.int (1 : Int32)), .val (.int (t0 + ev))] [(.int (3 : Int32)), (.ref t)])) rfl rfl (Jvm.hb hby d4_76) _ ?_
          refine XS.iload X0.here hx rfl (Jvm.hb hby d4_77) rfl ?_
          exact kt)
        by_cases q3 : (t0 + ev) < t3
        · skip
          obtain ⟨cl732, Ar732, q732, S732, M732, H732, U732⟩ := id VR
          have in732 : ¬ ((0 : Int32) < 0 ∨ cl732.slots.size ≤ ((0 : Int32)).toNatClampNeg) := inb_of S732 ⟨by decide, by decide⟩
          have hz : lx0 = (1 : Int32) := (Int32.toInt_inj.mp (by rw [show (1 : Int32).toInt = 1 by decide]; have b0 := w0.1; have b1 := (w0.2.2.2.2.1 (by decide) qi).mp q1; have b2 := Int.not_lt.mp (fun z => q2 ((w0.2.2.2.2.2.1 (by decide) qi).mpr z)); have b3 := (w0.2.2.2.2.2.2 (by decide) qi).mp q3; omega))
          have pre733 := fun (τ : State) kt => pre731 τ (by
            show Steps p.tables e below (s₁.setTop (mkF m 79 #[.val (.ref r), .val (.int (0 : Int32)), .val (.int (4 : Int32)), .val (.ref t), .val (.int ev), .val (.int iv), .val (.int (1 : Int32)), .val (.int (t0 + ev))] [(.int (t0 + ev)), (.int t3)])) τ
            refine XS.icmpYes X0.here hx rfl (pc0 := 79) (pc' := 88) rfl (Jvm.hb hby d4_79) rfl (tlt q3).2.2.1 (by decide) (by decide) ?_
            refine XS.aloadN X0.here hx rfl (Jvm.hb hby d4_88) rfl rfl ?_
            refine XS.iloadN X0.here hx rfl (Jvm.hb hby d4_89) rfl ?_
            refine X0.iaload hx ((congrArg (fun (HH : Heap) => HH[r]?) (e0 : s₁.heap = h0)).trans Ar732.1) (State.isArrayOf_alike hZ.alike Ar732.2.1) Ar732.2.2 in732 (H732.at in732 rfl) (g := (mkF m 90 #[.val (.ref r), .val (.int (0 : Int32)), .val (.int (4 : Int32)), .val (.ref t), .val (.int ev), .val (.int iv), .val (.int (1 : Int32)), .val (.int (t0 + ev))] [(.int (0 : Int32)), (.ref r)])) rfl rfl (Jvm.hb hby d4_90) _ ?_
            refine XS.iload X0.here hx rfl (Jvm.hb hby d4_91) rfl ?_
            refine XS.icmpNo X0.here hx rfl (Jvm.hb hby d4_93) rfl (teq hz).2 ?_
            refine XS.iconst X0.here hx rfl (Jvm.hb hby d4_96) ?_
            refine XS.goto X0.here hx rfl (pc0 := 97) (pc' := 101) rfl (Jvm.hb hby d4_97) (by decide) (by decide) ?_
            exact kt)
          obtain ⟨fs, hrL, hrun, hended, hW, hsame⟩ := X0.leave (v := some (.int (1 : Int32))) (fun h => by rw [Bd.returns] at h; cases h)
          refine ⟨_, _, cast (congrFun hPS _) (pre733 _ ?_), hrun, hended, _, _, rfl, ?_, ⟨_, rfl⟩, hW, hsame.mono (by decide) (by decide)⟩
          · show Steps p.tables e below (s₁.setTop (mkF m 101 #[.val (.ref r), .val (.int (0 : Int32)), .val (.int (4 : Int32)), .val (.ref t), .val (.int ev), .val (.int iv), .val (.int (1 : Int32)), .val (.int (t0 + ev))] [(.int (1 : Int32))])) _
            exact retN X0 hx (t := .boolean) Bd.returns (by simp) (Jvm.hb hby d4_101) hrL
          · show QZ h0 n0 _ s₁.heap _
            rw [e0]
            exact ⟨rfl, N0, rfl⟩
        · skip
          obtain ⟨cl734, Ar734, q734, S734, M734, H734, U734⟩ := id VR
          have in734 : ¬ ((0 : Int32) < 0 ∨ cl734.slots.size ≤ ((0 : Int32)).toNatClampNeg) := inb_of S734 ⟨by decide, by decide⟩
          have hz : lx0 = (2 : Int32) := (Int32.toInt_inj.mp (by rw [show (2 : Int32).toInt = 2 by decide]; have b0 := w0.1; have b1 := (w0.2.2.2.2.1 (by decide) qi).mp q1; have b2 := Int.not_lt.mp (fun z => q2 ((w0.2.2.2.2.2.1 (by decide) qi).mpr z)); have b3 := Int.not_lt.mp (fun z => q3 ((w0.2.2.2.2.2.2 (by decide) qi).mpr z)); omega))
          have pre735 := fun (τ : State) kt => pre731 τ (by
            show Steps p.tables e below (s₁.setTop (mkF m 79 #[.val (.ref r), .val (.int (0 : Int32)), .val (.int (4 : Int32)), .val (.ref t), .val (.int ev), .val (.int iv), .val (.int (1 : Int32)), .val (.int (t0 + ev))] [(.int (t0 + ev)), (.int t3)])) τ
            refine XS.icmpNo X0.here hx rfl (Jvm.hb hby d4_79) rfl (flt q3).2.2.1 ?_
            refine XS.iload X0.here hx rfl (Jvm.hb hby d4_82) rfl ?_
            refine XS.iconst X0.here hx rfl (Jvm.hb hby d4_84) ?_
            refine XS.iadd X0.here hx rfl (Jvm.hb hby d4_85) rfl ?_
            refine XS.istore X0.here hx rfl (Jvm.hb hby d4_86) rfl (l' := #[.val (.ref r), .val (.int (0 : Int32)), .val (.int (4 : Int32)), .val (.ref t), .val (.int ev), .val (.int iv), .val (.int (2 : Int32)), .val (.int (t0 + ev))]) rfl ?_
            refine XS.aloadN X0.here hx rfl (Jvm.hb hby d4_88) rfl rfl ?_
            refine XS.iloadN X0.here hx rfl (Jvm.hb hby d4_89) rfl ?_
            refine X0.iaload hx ((congrArg (fun (HH : Heap) => HH[r]?) (e0 : s₁.heap = h0)).trans Ar734.1) (State.isArrayOf_alike hZ.alike Ar734.2.1) Ar734.2.2 in734 (H734.at in734 rfl) (g := (mkF m 90 #[.val (.ref r), .val (.int (0 : Int32)), .val (.int (4 : Int32)), .val (.ref t), .val (.int ev), .val (.int iv), .val (.int (2 : Int32)), .val (.int (t0 + ev))] [(.int (0 : Int32)), (.ref r)])) rfl rfl (Jvm.hb hby d4_90) _ ?_
            refine XS.iload X0.here hx rfl (Jvm.hb hby d4_91) rfl ?_
            refine XS.icmpNo X0.here hx rfl (Jvm.hb hby d4_93) rfl (teq hz).2 ?_
            refine XS.iconst X0.here hx rfl (Jvm.hb hby d4_96) ?_
            refine XS.goto X0.here hx rfl (pc0 := 97) (pc' := 101) rfl (Jvm.hb hby d4_97) (by decide) (by decide) ?_
            exact kt)
          obtain ⟨fs, hrL, hrun, hended, hW, hsame⟩ := X0.leave (v := some (.int (1 : Int32))) (fun h => by rw [Bd.returns] at h; cases h)
          refine ⟨_, _, cast (congrFun hPS _) (pre735 _ ?_), hrun, hended, _, _, rfl, ?_, ⟨_, rfl⟩, hW, hsame.mono (by decide) (by decide)⟩
          · show Steps p.tables e below (s₁.setTop (mkF m 101 #[.val (.ref r), .val (.int (0 : Int32)), .val (.int (4 : Int32)), .val (.ref t), .val (.int ev), .val (.int iv), .val (.int (2 : Int32)), .val (.int (t0 + ev))] [(.int (1 : Int32))])) _
            exact retN X0 hx (t := .boolean) Bd.returns (by simp) (Jvm.hb hby d4_101) hrL
          · show QZ h0 n0 _ s₁.heap _
            rw [e0]
            exact ⟨rfl, N0, rfl⟩
    · skip
      obtain ⟨cl736, Ar736, q736, S736, M736, H736, U736⟩ := id VT
      have in736 : ¬ ((2 : Int32) < 0 ∨ cl736.slots.size ≤ ((2 : Int32)).toNatClampNeg) := inb_of S736 ⟨by decide, by decide⟩
      have pre737 := fun (τ : State) kt => pre721 τ (by
        show Steps p.tables e below (s₁.setTop (mkF m 41 #[.val (.ref r), .val (.int (0 : Int32)), .val (.int (4 : Int32)), .val (.ref t), .val (.int ev), .val (.int iv), .val (.int (0 : Int32)), .val (.int (t0 + ev))] [(.int (t0 + ev)), (.int t1)])) τ
        refine XS.icmpNo X0.here hx rfl (Jvm.hb hby d4_41) rfl (flt q1).2.2.1 ?_
        refine XS.iload X0.here hx rfl (Jvm.hb hby d4_44) rfl ?_
        refine XS.iconst X0.here hx rfl (Jvm.hb hby d4_46) ?_
        refine XS.iadd X0.here hx rfl (Jvm.hb hby d4_47) rfl ?_
        refine XS.istore X0.here hx rfl (Jvm.hb hby d4_48) rfl (l' := #[.val (.ref r), .val (.int (0 : Int32)), .val (.int (4 : Int32)), .val (.ref t), .val (.int ev), .val (.int iv), .val (.int (1 : Int32)), .val (.int (t0 + ev))]) rfl ?_
        refine XS.iloadN X0.here hx rfl (Jvm.hb hby d4_50) rfl ?_
        refine XS.iconst X0.here hx rfl (Jvm.hb hby d4_51) ?_
        refine XS.icmpNo X0.here hx rfl (Jvm.hb hby d4_52) rfl (tlt (by decide)).2.2.2 ?_
        refine XS.aloadN X0.here hx rfl (Jvm.hb hby d4_55) rfl rfl ?_
        refine XS.iconst X0.here hx rfl (Jvm.hb hby d4_56) ?_
        refine X0.iaload hx ((congrArg (fun (HH : Heap) => HH[t]?) (e0 : s₁.heap = h0)).trans Ar736.1) (State.isArrayOf_alike hZ.alike Ar736.2.1) Ar736.2.2 in736 (H736.at in736 rfl) (g := (mkF m 57 #[.val (.ref r), .val (.int (0 : Int32)), .val (.int (4 : Int32)), .val (.ref t), .val (.int ev), .val (.int iv), .val (.int (1 : Int32)), .val (.int (t0 + ev))] [(.int (2 : Int32)), (.ref t)])) rfl rfl (Jvm.hb hby d4_57) _ ?_
        refine XS.iload X0.here hx rfl (Jvm.hb hby d4_58) rfl ?_
        exact kt)
      by_cases q2 : (t0 + ev) < t2
      · skip
        obtain ⟨cl738, Ar738, q738, S738, M738, H738, U738⟩ := id VT
        have in738 : ¬ ((3 : Int32) < 0 ∨ cl738.slots.size ≤ ((3 : Int32)).toNatClampNeg) := inb_of S738 ⟨by decide, by decide⟩
        have pre739 := fun (τ : State) kt => pre737 τ (by
          show Steps p.tables e below (s₁.setTop (mkF m 60 #[.val (.ref r), .val (.int (0 : Int32)), .val (.int (4 : Int32)), .val (.ref t), .val (.int ev), .val (.int iv), .val (.int (1 : Int32)), .val (.int (t0 + ev))] [(.int (t0 + ev)), (.int t2)])) τ
          refine XS.icmpYes X0.here hx rfl (pc0 := 60) (pc' := 69) rfl (Jvm.hb hby d4_60) rfl (tlt q2).2.2.1 (by decide) (by decide) ?_
          refine XS.iloadN X0.here hx rfl (Jvm.hb hby d4_69) rfl ?_
          refine XS.iconst X0.here hx rfl (Jvm.hb hby d4_70) ?_
          refine XS.icmpNo X0.here hx rfl (Jvm.hb hby d4_71) rfl (tlt (by decide)).2.2.2 ?_
          refine XS.aloadN X0.here hx rfl (Jvm.hb hby d4_74) rfl rfl ?_
          refine XS.iconst X0.here hx rfl (Jvm.hb hby d4_75) ?_
          refine X0.iaload hx ((congrArg (fun (HH : Heap) => HH[t]?) (e0 : s₁.heap = h0)).trans Ar738.1) (State.isArrayOf_alike hZ.alike Ar738.2.1) Ar738.2.2 in738 (H738.at in738 rfl) (g := (mkF m 76 #[.val (.ref r), .val (.int (0 : Int32)), .val (.int (4 : Int32)), .val (.ref t), .val (.int ev), .val (.int iv), .val (.int (1 : Int32)), .val (.int (t0 + ev))] [(.int (3 : Int32)), (.ref t)])) rfl rfl (Jvm.hb hby d4_76) _ ?_
          refine XS.iload X0.here hx rfl (Jvm.hb hby d4_77) rfl ?_
          exact kt)
        by_cases q3 : (t0 + ev) < t3
        · skip
          obtain ⟨cl740, Ar740, q740, S740, M740, H740, U740⟩ := id VR
          have in740 : ¬ ((0 : Int32) < 0 ∨ cl740.slots.size ≤ ((0 : Int32)).toNatClampNeg) := inb_of S740 ⟨by decide, by decide⟩
          have hz : lx0 = (1 : Int32) := (Int32.toInt_inj.mp (by rw [show (1 : Int32).toInt = 1 by decide]; have b0 := w0.1; have b1 := Int.not_lt.mp (fun z => q1 ((w0.2.2.2.2.1 (by decide) qi).mpr z)); have b2 := (w0.2.2.2.2.2.1 (by decide) qi).mp q2; have b3 := (w0.2.2.2.2.2.2 (by decide) qi).mp q3; omega))
          have pre741 := fun (τ : State) kt => pre739 τ (by
            show Steps p.tables e below (s₁.setTop (mkF m 79 #[.val (.ref r), .val (.int (0 : Int32)), .val (.int (4 : Int32)), .val (.ref t), .val (.int ev), .val (.int iv), .val (.int (1 : Int32)), .val (.int (t0 + ev))] [(.int (t0 + ev)), (.int t3)])) τ
            refine XS.icmpYes X0.here hx rfl (pc0 := 79) (pc' := 88) rfl (Jvm.hb hby d4_79) rfl (tlt q3).2.2.1 (by decide) (by decide) ?_
            refine XS.aloadN X0.here hx rfl (Jvm.hb hby d4_88) rfl rfl ?_
            refine XS.iloadN X0.here hx rfl (Jvm.hb hby d4_89) rfl ?_
            refine X0.iaload hx ((congrArg (fun (HH : Heap) => HH[r]?) (e0 : s₁.heap = h0)).trans Ar740.1) (State.isArrayOf_alike hZ.alike Ar740.2.1) Ar740.2.2 in740 (H740.at in740 rfl) (g := (mkF m 90 #[.val (.ref r), .val (.int (0 : Int32)), .val (.int (4 : Int32)), .val (.ref t), .val (.int ev), .val (.int iv), .val (.int (1 : Int32)), .val (.int (t0 + ev))] [(.int (0 : Int32)), (.ref r)])) rfl rfl (Jvm.hb hby d4_90) _ ?_
            refine XS.iload X0.here hx rfl (Jvm.hb hby d4_91) rfl ?_
            refine XS.icmpNo X0.here hx rfl (Jvm.hb hby d4_93) rfl (teq hz).2 ?_
            refine XS.iconst X0.here hx rfl (Jvm.hb hby d4_96) ?_
            refine XS.goto X0.here hx rfl (pc0 := 97) (pc' := 101) rfl (Jvm.hb hby d4_97) (by decide) (by decide) ?_
            exact kt)
          obtain ⟨fs, hrL, hrun, hended, hW, hsame⟩ := X0.leave (v := some (.int (1 : Int32))) (fun h => by rw [Bd.returns] at h; cases h)
          refine ⟨_, _, cast (congrFun hPS _) (pre741 _ ?_), hrun, hended, _, _, rfl, ?_, ⟨_, rfl⟩, hW, hsame.mono (by decide) (by decide)⟩
          · show Steps p.tables e below (s₁.setTop (mkF m 101 #[.val (.ref r), .val (.int (0 : Int32)), .val (.int (4 : Int32)), .val (.ref t), .val (.int ev), .val (.int iv), .val (.int (1 : Int32)), .val (.int (t0 + ev))] [(.int (1 : Int32))])) _
            exact retN X0 hx (t := .boolean) Bd.returns (by simp) (Jvm.hb hby d4_101) hrL
          · show QZ h0 n0 _ s₁.heap _
            rw [e0]
            exact ⟨rfl, N0, rfl⟩
        · skip
          obtain ⟨cl742, Ar742, q742, S742, M742, H742, U742⟩ := id VR
          have in742 : ¬ ((0 : Int32) < 0 ∨ cl742.slots.size ≤ ((0 : Int32)).toNatClampNeg) := inb_of S742 ⟨by decide, by decide⟩
          have hz : lx0 = (2 : Int32) := (Int32.toInt_inj.mp (by rw [show (2 : Int32).toInt = 2 by decide]; have b0 := w0.1; have b1 := Int.not_lt.mp (fun z => q1 ((w0.2.2.2.2.1 (by decide) qi).mpr z)); have b2 := (w0.2.2.2.2.2.1 (by decide) qi).mp q2; have b3 := Int.not_lt.mp (fun z => q3 ((w0.2.2.2.2.2.2 (by decide) qi).mpr z)); omega))
          have pre743 := fun (τ : State) kt => pre739 τ (by
            show Steps p.tables e below (s₁.setTop (mkF m 79 #[.val (.ref r), .val (.int (0 : Int32)), .val (.int (4 : Int32)), .val (.ref t), .val (.int ev), .val (.int iv), .val (.int (1 : Int32)), .val (.int (t0 + ev))] [(.int (t0 + ev)), (.int t3)])) τ
            refine XS.icmpNo X0.here hx rfl (Jvm.hb hby d4_79) rfl (flt q3).2.2.1 ?_
            refine XS.iload X0.here hx rfl (Jvm.hb hby d4_82) rfl ?_
            refine XS.iconst X0.here hx rfl (Jvm.hb hby d4_84) ?_
            refine XS.iadd X0.here hx rfl (Jvm.hb hby d4_85) rfl ?_
            refine XS.istore X0.here hx rfl (Jvm.hb hby d4_86) rfl (l' := #[.val (.ref r), .val (.int (0 : Int32)), .val (.int (4 : Int32)), .val (.ref t), .val (.int ev), .val (.int iv), .val (.int (2 : Int32)), .val (.int (t0 + ev))]) rfl ?_
            refine XS.aloadN X0.here hx rfl (Jvm.hb hby d4_88) rfl rfl ?_
            refine XS.iloadN X0.here hx rfl (Jvm.hb hby d4_89) rfl ?_
            refine X0.iaload hx ((congrArg (fun (HH : Heap) => HH[r]?) (e0 : s₁.heap = h0)).trans Ar742.1) (State.isArrayOf_alike hZ.alike Ar742.2.1) Ar742.2.2 in742 (H742.at in742 rfl) (g := (mkF m 90 #[.val (.ref r), .val (.int (0 : Int32)), .val (.int (4 : Int32)), .val (.ref t), .val (.int ev), .val (.int iv), .val (.int (2 : Int32)), .val (.int (t0 + ev))] [(.int (0 : Int32)), (.ref r)])) rfl rfl (Jvm.hb hby d4_90) _ ?_
            refine XS.iload X0.here hx rfl (Jvm.hb hby d4_91) rfl ?_
            refine XS.icmpNo X0.here hx rfl (Jvm.hb hby d4_93) rfl (teq hz).2 ?_
            refine XS.iconst X0.here hx rfl (Jvm.hb hby d4_96) ?_
            refine XS.goto X0.here hx rfl (pc0 := 97) (pc' := 101) rfl (Jvm.hb hby d4_97) (by decide) (by decide) ?_
            exact kt)
          obtain ⟨fs, hrL, hrun, hended, hW, hsame⟩ := X0.leave (v := some (.int (1 : Int32))) (fun h => by rw [Bd.returns] at h; cases h)
          refine ⟨_, _, cast (congrFun hPS _) (pre743 _ ?_), hrun, hended, _, _, rfl, ?_, ⟨_, rfl⟩, hW, hsame.mono (by decide) (by decide)⟩
          · show Steps p.tables e below (s₁.setTop (mkF m 101 #[.val (.ref r), .val (.int (0 : Int32)), .val (.int (4 : Int32)), .val (.ref t), .val (.int ev), .val (.int iv), .val (.int (2 : Int32)), .val (.int (t0 + ev))] [(.int (1 : Int32))])) _
            exact retN X0 hx (t := .boolean) Bd.returns (by simp) (Jvm.hb hby d4_101) hrL
          · show QZ h0 n0 _ s₁.heap _
            rw [e0]
            exact ⟨rfl, N0, rfl⟩
      · skip
        obtain ⟨cl744, Ar744, q744, S744, M744, H744, U744⟩ := id VT
        have in744 : ¬ ((3 : Int32) < 0 ∨ cl744.slots.size ≤ ((3 : Int32)).toNatClampNeg) := inb_of S744 ⟨by decide, by decide⟩
        have pre745 := fun (τ : State) kt => pre737 τ (by
          show Steps p.tables e below (s₁.setTop (mkF m 60 #[.val (.ref r), .val (.int (0 : Int32)), .val (.int (4 : Int32)), .val (.ref t), .val (.int ev), .val (.int iv), .val (.int (1 : Int32)), .val (.int (t0 + ev))] [(.int (t0 + ev)), (.int t2)])) τ
          refine XS.icmpNo X0.here hx rfl (Jvm.hb hby d4_60) rfl (flt q2).2.2.1 ?_
          refine XS.iload X0.here hx rfl (Jvm.hb hby d4_63) rfl ?_
          refine XS.iconst X0.here hx rfl (Jvm.hb hby d4_65) ?_
          refine XS.iadd X0.here hx rfl (Jvm.hb hby d4_66) rfl ?_
          refine XS.istore X0.here hx rfl (Jvm.hb hby d4_67) rfl (l' := #[.val (.ref r), .val (.int (0 : Int32)), .val (.int (4 : Int32)), .val (.ref t), .val (.int ev), .val (.int iv), .val (.int (2 : Int32)), .val (.int (t0 + ev))]) rfl ?_
          refine XS.iloadN X0.here hx rfl (Jvm.hb hby d4_69) rfl ?_
          refine XS.iconst X0.here hx rfl (Jvm.hb hby d4_70) ?_
          refine XS.icmpNo X0.here hx rfl (Jvm.hb hby d4_71) rfl (tlt (by decide)).2.2.2 ?_
          refine XS.aloadN X0.here hx rfl (Jvm.hb hby d4_74) rfl rfl ?_
          refine XS.iconst X0.here hx rfl (Jvm.hb hby d4_75) ?_
          refine X0.iaload hx ((congrArg (fun (HH : Heap) => HH[t]?) (e0 : s₁.heap = h0)).trans Ar744.1) (State.isArrayOf_alike hZ.alike Ar744.2.1) Ar744.2.2 in744 (H744.at in744 rfl) (g := (mkF m 76 #[.val (.ref r), .val (.int (0 : Int32)), .val (.int (4 : Int32)), .val (.ref t), .val (.int ev), .val (.int iv), .val (.int (2 : Int32)), .val (.int (t0 + ev))] [(.int (3 : Int32)), (.ref t)])) rfl rfl (Jvm.hb hby d4_76) _ ?_
          refine XS.iload X0.here hx rfl (Jvm.hb hby d4_77) rfl ?_
          exact kt)
        by_cases q3 : (t0 + ev) < t3
        · skip
          obtain ⟨cl746, Ar746, q746, S746, M746, H746, U746⟩ := id VR
          have in746 : ¬ ((0 : Int32) < 0 ∨ cl746.slots.size ≤ ((0 : Int32)).toNatClampNeg) := inb_of S746 ⟨by decide, by decide⟩
          have hz : lx0 = (2 : Int32) := (Int32.toInt_inj.mp (by rw [show (2 : Int32).toInt = 2 by decide]; have b0 := w0.1; have b1 := Int.not_lt.mp (fun z => q1 ((w0.2.2.2.2.1 (by decide) qi).mpr z)); have b2 := Int.not_lt.mp (fun z => q2 ((w0.2.2.2.2.2.1 (by decide) qi).mpr z)); have b3 := (w0.2.2.2.2.2.2 (by decide) qi).mp q3; omega))
          have pre747 := fun (τ : State) kt => pre745 τ (by
            show Steps p.tables e below (s₁.setTop (mkF m 79 #[.val (.ref r), .val (.int (0 : Int32)), .val (.int (4 : Int32)), .val (.ref t), .val (.int ev), .val (.int iv), .val (.int (2 : Int32)), .val (.int (t0 + ev))] [(.int (t0 + ev)), (.int t3)])) τ
            refine XS.icmpYes X0.here hx rfl (pc0 := 79) (pc' := 88) rfl (Jvm.hb hby d4_79) rfl (tlt q3).2.2.1 (by decide) (by decide) ?_
            refine XS.aloadN X0.here hx rfl (Jvm.hb hby d4_88) rfl rfl ?_
            refine XS.iloadN X0.here hx rfl (Jvm.hb hby d4_89) rfl ?_
            refine X0.iaload hx ((congrArg (fun (HH : Heap) => HH[r]?) (e0 : s₁.heap = h0)).trans Ar746.1) (State.isArrayOf_alike hZ.alike Ar746.2.1) Ar746.2.2 in746 (H746.at in746 rfl) (g := (mkF m 90 #[.val (.ref r), .val (.int (0 : Int32)), .val (.int (4 : Int32)), .val (.ref t), .val (.int ev), .val (.int iv), .val (.int (2 : Int32)), .val (.int (t0 + ev))] [(.int (0 : Int32)), (.ref r)])) rfl rfl (Jvm.hb hby d4_90) _ ?_
            refine XS.iload X0.here hx rfl (Jvm.hb hby d4_91) rfl ?_
            refine XS.icmpNo X0.here hx rfl (Jvm.hb hby d4_93) rfl (teq hz).2 ?_
            refine XS.iconst X0.here hx rfl (Jvm.hb hby d4_96) ?_
            refine XS.goto X0.here hx rfl (pc0 := 97) (pc' := 101) rfl (Jvm.hb hby d4_97) (by decide) (by decide) ?_
            exact kt)
          obtain ⟨fs, hrL, hrun, hended, hW, hsame⟩ := X0.leave (v := some (.int (1 : Int32))) (fun h => by rw [Bd.returns] at h; cases h)
          refine ⟨_, _, cast (congrFun hPS _) (pre747 _ ?_), hrun, hended, _, _, rfl, ?_, ⟨_, rfl⟩, hW, hsame.mono (by decide) (by decide)⟩
          · show Steps p.tables e below (s₁.setTop (mkF m 101 #[.val (.ref r), .val (.int (0 : Int32)), .val (.int (4 : Int32)), .val (.ref t), .val (.int ev), .val (.int iv), .val (.int (2 : Int32)), .val (.int (t0 + ev))] [(.int (1 : Int32))])) _
            exact retN X0 hx (t := .boolean) Bd.returns (by simp) (Jvm.hb hby d4_101) hrL
          · show QZ h0 n0 _ s₁.heap _
            rw [e0]
            exact ⟨rfl, N0, rfl⟩
        · skip
          obtain ⟨cl748, Ar748, q748, S748, M748, H748, U748⟩ := id VR
          have in748 : ¬ ((0 : Int32) < 0 ∨ cl748.slots.size ≤ ((0 : Int32)).toNatClampNeg) := inb_of S748 ⟨by decide, by decide⟩
          have hz : lx0 = (3 : Int32) := (Int32.toInt_inj.mp (by rw [show (3 : Int32).toInt = 3 by decide]; have b0 := w0.1; have b1 := Int.not_lt.mp (fun z => q1 ((w0.2.2.2.2.1 (by decide) qi).mpr z)); have b2 := Int.not_lt.mp (fun z => q2 ((w0.2.2.2.2.2.1 (by decide) qi).mpr z)); have b3 := Int.not_lt.mp (fun z => q3 ((w0.2.2.2.2.2.2 (by decide) qi).mpr z)); omega))
          have pre749 := fun (τ : State) kt => pre745 τ (by
            show Steps p.tables e below (s₁.setTop (mkF m 79 #[.val (.ref r), .val (.int (0 : Int32)), .val (.int (4 : Int32)), .val (.ref t), .val (.int ev), .val (.int iv), .val (.int (2 : Int32)), .val (.int (t0 + ev))] [(.int (t0 + ev)), (.int t3)])) τ
            refine XS.icmpNo X0.here hx rfl (Jvm.hb hby d4_79) rfl (flt q3).2.2.1 ?_
            refine XS.iload X0.here hx rfl (Jvm.hb hby d4_82) rfl ?_
            refine XS.iconst X0.here hx rfl (Jvm.hb hby d4_84) ?_
            refine XS.iadd X0.here hx rfl (Jvm.hb hby d4_85) rfl ?_
            refine XS.istore X0.here hx rfl (Jvm.hb hby d4_86) rfl (l' := #[.val (.ref r), .val (.int (0 : Int32)), .val (.int (4 : Int32)), .val (.ref t), .val (.int ev), .val (.int iv), .val (.int (3 : Int32)), .val (.int (t0 + ev))]) rfl ?_
            refine XS.aloadN X0.here hx rfl (Jvm.hb hby d4_88) rfl rfl ?_
            refine XS.iloadN X0.here hx rfl (Jvm.hb hby d4_89) rfl ?_
            refine X0.iaload hx ((congrArg (fun (HH : Heap) => HH[r]?) (e0 : s₁.heap = h0)).trans Ar748.1) (State.isArrayOf_alike hZ.alike Ar748.2.1) Ar748.2.2 in748 (H748.at in748 rfl) (g := (mkF m 90 #[.val (.ref r), .val (.int (0 : Int32)), .val (.int (4 : Int32)), .val (.ref t), .val (.int ev), .val (.int iv), .val (.int (3 : Int32)), .val (.int (t0 + ev))] [(.int (0 : Int32)), (.ref r)])) rfl rfl (Jvm.hb hby d4_90) _ ?_
            refine XS.iload X0.here hx rfl (Jvm.hb hby d4_91) rfl ?_
            refine XS.icmpNo X0.here hx rfl (Jvm.hb hby d4_93) rfl (teq hz).2 ?_
            refine XS.iconst X0.here hx rfl (Jvm.hb hby d4_96) ?_
            refine XS.goto X0.here hx rfl (pc0 := 97) (pc' := 101) rfl (Jvm.hb hby d4_97) (by decide) (by decide) ?_
            exact kt)
          obtain ⟨fs, hrL, hrun, hended, hW, hsame⟩ := X0.leave (v := some (.int (1 : Int32))) (fun h => by rw [Bd.returns] at h; cases h)
          refine ⟨_, _, cast (congrFun hPS _) (pre749 _ ?_), hrun, hended, _, _, rfl, ?_, ⟨_, rfl⟩, hW, hsame.mono (by decide) (by decide)⟩
          · show Steps p.tables e below (s₁.setTop (mkF m 101 #[.val (.ref r), .val (.int (0 : Int32)), .val (.int (4 : Int32)), .val (.ref t), .val (.int ev), .val (.int iv), .val (.int (3 : Int32)), .val (.int (t0 + ev))] [(.int (1 : Int32))])) _
            exact retN X0 hx (t := .boolean) Bd.returns (by simp) (Jvm.hb hby d4_101) hrL
          · show QZ h0 n0 _ s₁.heap _
            rw [e0]
            exact ⟨rfl, N0, rfl⟩
  · skip
    obtain ⟨cl750, Ar750, q750, S750, M750, H750, U750⟩ := id VR
    have in750 : ¬ ((0 : Int32) < 0 ∨ cl750.slots.size ≤ ((0 : Int32)).toNatClampNeg) := inb_of S750 ⟨by decide, by decide⟩
    have hz : lx0 = (3 : Int32) := (Int32.toInt_inj.mp (by rw [w0.2.2.2.1 qi]; decide))
    have pre751 := fun (τ : State) kt => pre718 τ (by
      show Steps p.tables e below (s₁.setTop (mkF m 9 #[.val (.ref r), .val (.int (0 : Int32)), .val (.int (4 : Int32)), .val (.ref t), .val (.int ev), .val (.int iv), .unset, .unset] [(.int iv)])) τ
      refine XS.ifNo X0.here hx rfl (Jvm.hb hby d4_9) rfl ((if0 _ _).trans (feq qi).1) ?_
      refine XS.iloadN X0.here hx rfl (Jvm.hb hby d4_12) rfl ?_
      refine XS.iconst X0.here hx rfl (Jvm.hb hby d4_13) ?_
      refine XS.isub X0.here hx rfl (Jvm.hb hby d4_14) rfl ?_
      refine XS.istore X0.here hx rfl (Jvm.hb hby d4_15) rfl (l' := #[.val (.ref r), .val (.int (0 : Int32)), .val (.int (4 : Int32)), .val (.ref t), .val (.int ev), .val (.int iv), .val (.int (3 : Int32)), .unset]) rfl ?_
      refine XS.goto X0.here hx rfl (pc0 := 17) (pc' := 88) rfl (Jvm.hb hby d4_17) (by decide) (by decide) ?_
      refine XS.aloadN X0.here hx rfl (Jvm.hb hby d4_88) rfl rfl ?_
      refine XS.iloadN X0.here hx rfl (Jvm.hb hby d4_89) rfl ?_
      refine X0.iaload hx ((congrArg (fun (HH : Heap) => HH[r]?) (e0 : s₁.heap = h0)).trans Ar750.1) (State.isArrayOf_alike hZ.alike Ar750.2.1) Ar750.2.2 in750 (H750.at in750 rfl) (g := (mkF m 90 #[.val (.ref r), .val (.int (0 : Int32)), .val (.int (4 : Int32)), .val (.ref t), .val (.int ev), .val (.int iv), .val (.int (3 : Int32)), .unset] [(.int (0 : Int32)), (.ref r)])) rfl rfl (Jvm.hb hby d4_90) _ ?_
      refine XS.iload X0.here hx rfl (Jvm.hb hby d4_91) rfl ?_
      refine XS.icmpNo X0.here hx rfl (Jvm.hb hby d4_93) rfl (teq hz).2 ?_
      refine XS.iconst X0.here hx rfl (Jvm.hb hby d4_96) ?_
      refine XS.goto X0.here hx rfl (pc0 := 97) (pc' := 101) rfl (Jvm.hb hby d4_97) (by decide) (by decide) ?_
      exact kt)
    obtain ⟨fs, hrL, hrun, hended, hW, hsame⟩ := X0.leave (v := some (.int (1 : Int32))) (fun h => by rw [Bd.returns] at h; cases h)
    refine ⟨_, _, cast (congrFun hPS _) (pre751 _ ?_), hrun, hended, _, _, rfl, ?_, ⟨_, rfl⟩, hW, hsame.mono (by decide) (by decide)⟩
    · show Steps p.tables e below (s₁.setTop (mkF m 101 #[.val (.ref r), .val (.int (0 : Int32)), .val (.int (4 : Int32)), .val (.ref t), .val (.int ev), .val (.int iv), .val (.int (3 : Int32)), .unset] [(.int (1 : Int32))])) _
      exact retN X0 hx (t := .boolean) Bd.returns (by simp) (Jvm.hb hby d4_101) hrL
    · show QZ h0 n0 _ s₁.heap _
      rw [e0]
      exact ⟨rfl, N0, rfl⟩
set_option maxRecDepth 65536 in
set_option maxHeartbeats 40000000 in
theorem rmC1_4 (l : Launch) (Z : State) (a0 : Array Value) (hw : ∀ d ∈ tables_1, d.before a0 Z = true) (ws : List Jvm.Cond) (r : Addr) (ci : Int32) (cn : Int32) (t : Addr) (ev : Int32) (iv : Int32) (kr kt : ClassId) (t0 t1 t2 t3 lx0 lx1 lx2 lx3 : Int32) (en : UInt64) (h0 : Heap) (n0 : Nat) (Z0 : n0 ≤ h0.size) (hi : ci = (1 : Int32)) (hn : cn = (4 : Int32)) (VR : Arv Z h0 r kr .int (4 : Int32) [(.int lx0), (.int lx1), (.int lx2), (.int lx3)] (.int (0 : Int32))) (VT : Arv Z h0 t kt .int (4 : Int32) [(.int t0), (.int t1), (.int t2), (.int t3)] (.int (0 : Int32))) (w0 : own_row 4 iv t1 t2 t3 t1 ev en lx1) :
    MetFree l (⟨"com/example/counterpath/counterpath/core/WindowLastsPinLaw", "check", "([III[IIZ)Z"⟩ : MethodName) (head1 (Jvm.Cond.code (⟨"com/example/counterpath/counterpath/core/WindowLastsPinLaw", "check", "([III[IIZ)Z"⟩ : MethodName) method_3_code 8 (some .boolean) :: ws) ({ frames := 0, cells := 0, slots := 0, locals := 0 } : Room)) (fun α U => α = #[(.ref r), (.int ci), (.int cn), (.ref t), (.int ev), (.int iv)] ∧ Z.Warmed39 U.vm ∧ U.heap = h0) (fun _ _ _ _ _ => True) (fun _ U ω U' => ∃ ν Λ, ω = .returned ν ∧ QZ h0 n0 ν U'.heap Λ ∧ FrameEnd U ω U' Λ ({ frames := 0, cells := 0, slots := 0, locals := 0 } : Room).cells ({ frames := 0, cells := 0, slots := 0, locals := 0 } : Room).slots) := by
  refine MetFree.of_bodySF (plainFor_of_name own_pn_com_example_counterpath_counterpath_core_WindowLastsPinLaw) hisR ?_
  intro p e s m args below meth c s₁ Bd hml0 hP hK
  obtain ⟨rfl, hZ, hh⟩ := hP
  have hx := Bd.exec
  have hby := Bd.bytes
  have hml : c.maxLocals = 8 := hml0
  have hown : s.vm.findClass "com/example/counterpath/counterpath/core/WindowLastsPinLaw" = some m.cls := findClass_of_methodNamed Bd.named
  have hnm := (name_of_methodNamed Bd.named Bd.method).1
  have X0 : Stand p l e ({ frames := 0, cells := 0, slots := 0, locals := 0 } : Room) s m #[(.ref r), (.int ci), (.int cn), (.ref t), (.int ev), (.int iv)] below meth c s₁ [] 0 0 := Stand.of_body Bd
  have e0 : s₁.heap = h0 := by rw [← hh, Bd.state]; rfl
  have N0 := Fr.nil n0
  have KK0 : Keep h0 h0 [] := Keep.refl h0 []
  obtain ⟨PS, hPS⟩ : ∃ P : State → Prop, P = fun τ => Steps p.tables e below (s₁.setTop (entryFrame m #[(.ref r), (.int ci), (.int cn), (.ref t), (.int ev), (.int iv)] 8)) τ := ⟨_, rfl⟩
  have pre0 : ∀ τ, Steps p.tables e below (s₁.setTop (mkF m 0 #[.val (.ref r), .val (.int ci), .val (.int cn), .val (.ref t), .val (.int ev), .val (.int iv), .unset, .unset] [])) τ → PS τ := by rw [hPS]; exact fun τ κ => castTop (own_ef4 m r ci cn t ev iv) κ
  have pre752 : ∀ τ, Steps p.tables e below (s₁.setTop (mkF m 0 #[.val (.ref r), .val (.int (1 : Int32)), .val (.int cn), .val (.ref t), .val (.int ev), .val (.int iv), .unset, .unset] [])) τ → PS τ := by have hq := pre0; rw [hi] at hq; exact hq
  have pre753 : ∀ τ, Steps p.tables e below (s₁.setTop (mkF m 0 #[.val (.ref r), .val (.int (1 : Int32)), .val (.int (4 : Int32)), .val (.ref t), .val (.int ev), .val (.int iv), .unset, .unset] [])) τ → PS τ := by have hq := pre752; rw [hn] at hq; exact hq
  have pre754 := fun (τ : State) kt => pre753 τ (by
    show Steps p.tables e below (s₁.setTop (mkF m 0 #[.val (.ref r), .val (.int (1 : Int32)), .val (.int (4 : Int32)), .val (.ref t), .val (.int ev), .val (.int iv), .unset, .unset] [])) τ
    refine XS.iloadN X0.here hx rfl (Jvm.hb hby d4_0) rfl ?_
    refine XS.iloadN X0.here hx rfl (Jvm.hb hby d4_1) rfl ?_
    refine XS.icmpYes X0.here hx rfl (pc0 := 2) (pc' := 7) rfl (Jvm.hb hby d4_2) rfl (tlt (by decide)).1 (by decide) (by decide) ?_
    refine XS.iload X0.here hx rfl (Jvm.hb hby d4_7) rfl ?_
    exact kt)
  by_cases qi : iv = (0 : Int32)
  · skip
    obtain ⟨cl755, Ar755, q755, S755, M755, H755, U755⟩ := id VT
    have in755 : ¬ ((1 : Int32) < 0 ∨ cl755.slots.size ≤ ((1 : Int32)).toNatClampNeg) := inb_of S755 ⟨by decide, by decide⟩
    obtain ⟨cl756, Ar756, q756, S756, M756, H756, U756⟩ := id VT
    have in756 : ¬ ((1 : Int32) < 0 ∨ cl756.slots.size ≤ ((1 : Int32)).toNatClampNeg) := inb_of S756 ⟨by decide, by decide⟩
    have pre757 := fun (τ : State) kt => pre754 τ (by
      show Steps p.tables e below (s₁.setTop (mkF m 9 #[.val (.ref r), .val (.int (1 : Int32)), .val (.int (4 : Int32)), .val (.ref t), .val (.int ev), .val (.int iv), .unset, .unset] [(.int iv)])) τ
      refine XS.ifYes X0.here hx rfl (pc0 := 9) (pc' := 20) rfl (Jvm.hb hby d4_9) rfl ((if0 _ _).trans (teq qi).1) (by decide) (by decide) ?_
      refine XS.aloadN X0.here hx rfl (Jvm.hb hby d4_20) rfl rfl ?_
      refine XS.iloadN X0.here hx rfl (Jvm.hb hby d4_21) rfl ?_
      refine X0.iaload hx ((congrArg (fun (HH : Heap) => HH[t]?) (e0 : s₁.heap = h0)).trans Ar755.1) (State.isArrayOf_alike hZ.alike Ar755.2.1) Ar755.2.2 in755 (H755.at in755 rfl) (g := (mkF m 22 #[.val (.ref r), .val (.int (1 : Int32)), .val (.int (4 : Int32)), .val (.ref t), .val (.int ev), .val (.int iv), .unset, .unset] [(.int (1 : Int32)), (.ref t)])) rfl rfl (Jvm.hb hby d4_22) _ ?_
      refine XS.iload X0.here hx rfl (Jvm.hb hby d4_23) rfl ?_
      refine XS.iadd X0.here hx rfl (Jvm.hb hby d4_25) rfl ?_
      refine XS.istore X0.here hx rfl (Jvm.hb hby d4_26) rfl (l' := #[.val (.ref r), .val (.int (1 : Int32)), .val (.int (4 : Int32)), .val (.ref t), .val (.int ev), .val (.int iv), .unset, .val (.int (t1 + ev))]) rfl ?_
      refine XS.iconst X0.here hx rfl (Jvm.hb hby d4_28) ?_
      refine XS.istore X0.here hx rfl (Jvm.hb hby d4_29) rfl (l' := #[.val (.ref r), .val (.int (1 : Int32)), .val (.int (4 : Int32)), .val (.ref t), .val (.int ev), .val (.int iv), .val (.int (0 : Int32)), .val (.int (t1 + ev))]) rfl ?_
      refine XS.iloadN X0.here hx rfl (Jvm.hb hby d4_31) rfl ?_
      refine XS.iconst X0.here hx rfl (Jvm.hb hby d4_32) ?_
      refine XS.icmpNo X0.here hx rfl (Jvm.hb hby d4_33) rfl (tlt (by decide)).2.2.2 ?_
      refine XS.aloadN X0.here hx rfl (Jvm.hb hby d4_36) rfl rfl ?_
      refine XS.iconst X0.here hx rfl (Jvm.hb hby d4_37) ?_
      refine X0.iaload hx ((congrArg (fun (HH : Heap) => HH[t]?) (e0 : s₁.heap = h0)).trans Ar756.1) (State.isArrayOf_alike hZ.alike Ar756.2.1) Ar756.2.2 in756 (H756.at in756 rfl) (g := (mkF m 38 #[.val (.ref r), .val (.int (1 : Int32)), .val (.int (4 : Int32)), .val (.ref t), .val (.int ev), .val (.int iv), .val (.int (0 : Int32)), .val (.int (t1 + ev))] [(.int (1 : Int32)), (.ref t)])) rfl rfl (Jvm.hb hby d4_38) _ ?_
      refine XS.iload X0.here hx rfl (Jvm.hb hby d4_39) rfl ?_
      exact kt)
    by_cases q1 : (t1 + ev) < t1
    · skip
      obtain ⟨cl758, Ar758, q758, S758, M758, H758, U758⟩ := id VT
      have in758 : ¬ ((2 : Int32) < 0 ∨ cl758.slots.size ≤ ((2 : Int32)).toNatClampNeg) := inb_of S758 ⟨by decide, by decide⟩
      have pre759 := fun (τ : State) kt => pre757 τ (by
        show Steps p.tables e below (s₁.setTop (mkF m 41 #[.val (.ref r), .val (.int (1 : Int32)), .val (.int (4 : Int32)), .val (.ref t), .val (.int ev), .val (.int iv), .val (.int (0 : Int32)), .val (.int (t1 + ev))] [(.int (t1 + ev)), (.int t1)])) τ
        refine XS.icmpYes X0.here hx rfl (pc0 := 41) (pc' := 50) rfl (Jvm.hb hby d4_41) rfl (tlt q1).2.2.1 (by decide) (by decide) ?_
        refine XS.iloadN X0.here hx rfl (Jvm.hb hby d4_50) rfl ?_
        refine XS.iconst X0.here hx rfl (Jvm.hb hby d4_51) ?_
        refine XS.icmpNo X0.here hx rfl (Jvm.hb hby d4_52) rfl (tlt (by decide)).2.2.2 ?_
        refine XS.aloadN X0.here hx rfl (Jvm.hb hby d4_55) rfl rfl ?_
        refine XS.iconst X0.here hx rfl (Jvm.hb hby d4_56) ?_
        refine X0.iaload hx ((congrArg (fun (HH : Heap) => HH[t]?) (e0 : s₁.heap = h0)).trans Ar758.1) (State.isArrayOf_alike hZ.alike Ar758.2.1) Ar758.2.2 in758 (H758.at in758 rfl) (g := (mkF m 57 #[.val (.ref r), .val (.int (1 : Int32)), .val (.int (4 : Int32)), .val (.ref t), .val (.int ev), .val (.int iv), .val (.int (0 : Int32)), .val (.int (t1 + ev))] [(.int (2 : Int32)), (.ref t)])) rfl rfl (Jvm.hb hby d4_57) _ ?_
        refine XS.iload X0.here hx rfl (Jvm.hb hby d4_58) rfl ?_
        exact kt)
      by_cases q2 : (t1 + ev) < t2
      · skip
        obtain ⟨cl760, Ar760, q760, S760, M760, H760, U760⟩ := id VT
        have in760 : ¬ ((3 : Int32) < 0 ∨ cl760.slots.size ≤ ((3 : Int32)).toNatClampNeg) := inb_of S760 ⟨by decide, by decide⟩
        have pre761 := fun (τ : State) kt => pre759 τ (by
          show Steps p.tables e below (s₁.setTop (mkF m 60 #[.val (.ref r), .val (.int (1 : Int32)), .val (.int (4 : Int32)), .val (.ref t), .val (.int ev), .val (.int iv), .val (.int (0 : Int32)), .val (.int (t1 + ev))] [(.int (t1 + ev)), (.int t2)])) τ
          refine XS.icmpYes X0.here hx rfl (pc0 := 60) (pc' := 69) rfl (Jvm.hb hby d4_60) rfl (tlt q2).2.2.1 (by decide) (by decide) ?_
          refine XS.iloadN X0.here hx rfl (Jvm.hb hby d4_69) rfl ?_
          refine XS.iconst X0.here hx rfl (Jvm.hb hby d4_70) ?_
          refine XS.icmpNo X0.here hx rfl (Jvm.hb hby d4_71) rfl (tlt (by decide)).2.2.2 ?_
          refine XS.aloadN X0.here hx rfl (Jvm.hb hby d4_74) rfl rfl ?_
          refine XS.iconst X0.here hx rfl (Jvm.hb hby d4_75) ?_
          refine X0.iaload hx ((congrArg (fun (HH : Heap) => HH[t]?) (e0 : s₁.heap = h0)).trans Ar760.1) (State.isArrayOf_alike hZ.alike Ar760.2.1) Ar760.2.2 in760 (H760.at in760 rfl) (g := (mkF m 76 #[.val (.ref r), .val (.int (1 : Int32)), .val (.int (4 : Int32)), .val (.ref t), .val (.int ev), .val (.int iv), .val (.int (0 : Int32)), .val (.int (t1 + ev))] [(.int (3 : Int32)), (.ref t)])) rfl rfl (Jvm.hb hby d4_76) _ ?_
          refine XS.iload X0.here hx rfl (Jvm.hb hby d4_77) rfl ?_
          exact kt)
        by_cases q3 : (t1 + ev) < t3
        · skip
          obtain ⟨cl762, Ar762, q762, S762, M762, H762, U762⟩ := id VR
          have in762 : ¬ ((1 : Int32) < 0 ∨ cl762.slots.size ≤ ((1 : Int32)).toNatClampNeg) := inb_of S762 ⟨by decide, by decide⟩
          have hz : lx1 = (0 : Int32) := (Int32.toInt_inj.mp (by rw [show (0 : Int32).toInt = 0 by decide]; have b0 := w0.1; have b1 := (w0.2.2.2.2.1 (by decide) qi).mp q1; have b2 := (w0.2.2.2.2.2.1 (by decide) qi).mp q2; have b3 := (w0.2.2.2.2.2.2 (by decide) qi).mp q3; omega))
          have pre763 := fun (τ : State) kt => pre761 τ (by
            show Steps p.tables e below (s₁.setTop (mkF m 79 #[.val (.ref r), .val (.int (1 : Int32)), .val (.int (4 : Int32)), .val (.ref t), .val (.int ev), .val (.int iv), .val (.int (0 : Int32)), .val (.int (t1 + ev))] [(.int (t1 + ev)), (.int t3)])) τ
            refine XS.icmpYes X0.here hx rfl (pc0 := 79) (pc' := 88) rfl (Jvm.hb hby d4_79) rfl (tlt q3).2.2.1 (by decide) (by decide) ?_
            refine XS.aloadN X0.here hx rfl (Jvm.hb hby d4_88) rfl rfl ?_
            refine XS.iloadN X0.here hx rfl (Jvm.hb hby d4_89) rfl ?_
            refine X0.iaload hx ((congrArg (fun (HH : Heap) => HH[r]?) (e0 : s₁.heap = h0)).trans Ar762.1) (State.isArrayOf_alike hZ.alike Ar762.2.1) Ar762.2.2 in762 (H762.at in762 rfl) (g := (mkF m 90 #[.val (.ref r), .val (.int (1 : Int32)), .val (.int (4 : Int32)), .val (.ref t), .val (.int ev), .val (.int iv), .val (.int (0 : Int32)), .val (.int (t1 + ev))] [(.int (1 : Int32)), (.ref r)])) rfl rfl (Jvm.hb hby d4_90) _ ?_
            refine XS.iload X0.here hx rfl (Jvm.hb hby d4_91) rfl ?_
            refine XS.icmpNo X0.here hx rfl (Jvm.hb hby d4_93) rfl (teq hz).2 ?_
            refine XS.iconst X0.here hx rfl (Jvm.hb hby d4_96) ?_
            refine XS.goto X0.here hx rfl (pc0 := 97) (pc' := 101) rfl (Jvm.hb hby d4_97) (by decide) (by decide) ?_
            exact kt)
          obtain ⟨fs, hrL, hrun, hended, hW, hsame⟩ := X0.leave (v := some (.int (1 : Int32))) (fun h => by rw [Bd.returns] at h; cases h)
          refine ⟨_, _, cast (congrFun hPS _) (pre763 _ ?_), hrun, hended, _, _, rfl, ?_, ⟨_, rfl⟩, hW, hsame.mono (by decide) (by decide)⟩
          · show Steps p.tables e below (s₁.setTop (mkF m 101 #[.val (.ref r), .val (.int (1 : Int32)), .val (.int (4 : Int32)), .val (.ref t), .val (.int ev), .val (.int iv), .val (.int (0 : Int32)), .val (.int (t1 + ev))] [(.int (1 : Int32))])) _
            exact retN X0 hx (t := .boolean) Bd.returns (by simp) (Jvm.hb hby d4_101) hrL
          · show QZ h0 n0 _ s₁.heap _
            rw [e0]
            exact ⟨rfl, N0, rfl⟩
        · skip
          obtain ⟨cl764, Ar764, q764, S764, M764, H764, U764⟩ := id VR
          have in764 : ¬ ((1 : Int32) < 0 ∨ cl764.slots.size ≤ ((1 : Int32)).toNatClampNeg) := inb_of S764 ⟨by decide, by decide⟩
          have hz : lx1 = (1 : Int32) := (Int32.toInt_inj.mp (by rw [show (1 : Int32).toInt = 1 by decide]; have b0 := w0.1; have b1 := (w0.2.2.2.2.1 (by decide) qi).mp q1; have b2 := (w0.2.2.2.2.2.1 (by decide) qi).mp q2; have b3 := Int.not_lt.mp (fun z => q3 ((w0.2.2.2.2.2.2 (by decide) qi).mpr z)); omega))
          have pre765 := fun (τ : State) kt => pre761 τ (by
            show Steps p.tables e below (s₁.setTop (mkF m 79 #[.val (.ref r), .val (.int (1 : Int32)), .val (.int (4 : Int32)), .val (.ref t), .val (.int ev), .val (.int iv), .val (.int (0 : Int32)), .val (.int (t1 + ev))] [(.int (t1 + ev)), (.int t3)])) τ
            refine XS.icmpNo X0.here hx rfl (Jvm.hb hby d4_79) rfl (flt q3).2.2.1 ?_
            refine XS.iload X0.here hx rfl (Jvm.hb hby d4_82) rfl ?_
            refine XS.iconst X0.here hx rfl (Jvm.hb hby d4_84) ?_
            refine XS.iadd X0.here hx rfl (Jvm.hb hby d4_85) rfl ?_
            refine XS.istore X0.here hx rfl (Jvm.hb hby d4_86) rfl (l' := #[.val (.ref r), .val (.int (1 : Int32)), .val (.int (4 : Int32)), .val (.ref t), .val (.int ev), .val (.int iv), .val (.int (1 : Int32)), .val (.int (t1 + ev))]) rfl ?_
            refine XS.aloadN X0.here hx rfl (Jvm.hb hby d4_88) rfl rfl ?_
            refine XS.iloadN X0.here hx rfl (Jvm.hb hby d4_89) rfl ?_
            refine X0.iaload hx ((congrArg (fun (HH : Heap) => HH[r]?) (e0 : s₁.heap = h0)).trans Ar764.1) (State.isArrayOf_alike hZ.alike Ar764.2.1) Ar764.2.2 in764 (H764.at in764 rfl) (g := (mkF m 90 #[.val (.ref r), .val (.int (1 : Int32)), .val (.int (4 : Int32)), .val (.ref t), .val (.int ev), .val (.int iv), .val (.int (1 : Int32)), .val (.int (t1 + ev))] [(.int (1 : Int32)), (.ref r)])) rfl rfl (Jvm.hb hby d4_90) _ ?_
            refine XS.iload X0.here hx rfl (Jvm.hb hby d4_91) rfl ?_
            refine XS.icmpNo X0.here hx rfl (Jvm.hb hby d4_93) rfl (teq hz).2 ?_
            refine XS.iconst X0.here hx rfl (Jvm.hb hby d4_96) ?_
            refine XS.goto X0.here hx rfl (pc0 := 97) (pc' := 101) rfl (Jvm.hb hby d4_97) (by decide) (by decide) ?_
            exact kt)
          obtain ⟨fs, hrL, hrun, hended, hW, hsame⟩ := X0.leave (v := some (.int (1 : Int32))) (fun h => by rw [Bd.returns] at h; cases h)
          refine ⟨_, _, cast (congrFun hPS _) (pre765 _ ?_), hrun, hended, _, _, rfl, ?_, ⟨_, rfl⟩, hW, hsame.mono (by decide) (by decide)⟩
          · show Steps p.tables e below (s₁.setTop (mkF m 101 #[.val (.ref r), .val (.int (1 : Int32)), .val (.int (4 : Int32)), .val (.ref t), .val (.int ev), .val (.int iv), .val (.int (1 : Int32)), .val (.int (t1 + ev))] [(.int (1 : Int32))])) _
            exact retN X0 hx (t := .boolean) Bd.returns (by simp) (Jvm.hb hby d4_101) hrL
          · show QZ h0 n0 _ s₁.heap _
            rw [e0]
            exact ⟨rfl, N0, rfl⟩
      · skip
        obtain ⟨cl766, Ar766, q766, S766, M766, H766, U766⟩ := id VT
        have in766 : ¬ ((3 : Int32) < 0 ∨ cl766.slots.size ≤ ((3 : Int32)).toNatClampNeg) := inb_of S766 ⟨by decide, by decide⟩
        have pre767 := fun (τ : State) kt => pre759 τ (by
          show Steps p.tables e below (s₁.setTop (mkF m 60 #[.val (.ref r), .val (.int (1 : Int32)), .val (.int (4 : Int32)), .val (.ref t), .val (.int ev), .val (.int iv), .val (.int (0 : Int32)), .val (.int (t1 + ev))] [(.int (t1 + ev)), (.int t2)])) τ
          refine XS.icmpNo X0.here hx rfl (Jvm.hb hby d4_60) rfl (flt q2).2.2.1 ?_
          refine XS.iload X0.here hx rfl (Jvm.hb hby d4_63) rfl ?_
          refine XS.iconst X0.here hx rfl (Jvm.hb hby d4_65) ?_
          refine XS.iadd X0.here hx rfl (Jvm.hb hby d4_66) rfl ?_
          refine XS.istore X0.here hx rfl (Jvm.hb hby d4_67) rfl (l' := #[.val (.ref r), .val (.int (1 : Int32)), .val (.int (4 : Int32)), .val (.ref t), .val (.int ev), .val (.int iv), .val (.int (1 : Int32)), .val (.int (t1 + ev))]) rfl ?_
          refine XS.iloadN X0.here hx rfl (Jvm.hb hby d4_69) rfl ?_
          refine XS.iconst X0.here hx rfl (Jvm.hb hby d4_70) ?_
          refine XS.icmpNo X0.here hx rfl (Jvm.hb hby d4_71) rfl (tlt (by decide)).2.2.2 ?_
          refine XS.aloadN X0.here hx rfl (Jvm.hb hby d4_74) rfl rfl ?_
          refine XS.iconst X0.here hx rfl (Jvm.hb hby d4_75) ?_
          refine X0.iaload hx ((congrArg (fun (HH : Heap) => HH[t]?) (e0 : s₁.heap = h0)).trans Ar766.1) (State.isArrayOf_alike hZ.alike Ar766.2.1) Ar766.2.2 in766 (H766.at in766 rfl) (g := (mkF m 76 #[.val (.ref r), .val (.int (1 : Int32)), .val (.int (4 : Int32)), .val (.ref t), .val (.int ev), .val (.int iv), .val (.int (1 : Int32)), .val (.int (t1 + ev))] [(.int (3 : Int32)), (.ref t)])) rfl rfl (Jvm.hb hby d4_76) _ ?_
          refine XS.iload X0.here hx rfl (Jvm.hb hby d4_77) rfl ?_
          exact kt)
        by_cases q3 : (t1 + ev) < t3
        · skip
          obtain ⟨cl768, Ar768, q768, S768, M768, H768, U768⟩ := id VR
          have in768 : ¬ ((1 : Int32) < 0 ∨ cl768.slots.size ≤ ((1 : Int32)).toNatClampNeg) := inb_of S768 ⟨by decide, by decide⟩
          have hz : lx1 = (1 : Int32) := (Int32.toInt_inj.mp (by rw [show (1 : Int32).toInt = 1 by decide]; have b0 := w0.1; have b1 := (w0.2.2.2.2.1 (by decide) qi).mp q1; have b2 := Int.not_lt.mp (fun z => q2 ((w0.2.2.2.2.2.1 (by decide) qi).mpr z)); have b3 := (w0.2.2.2.2.2.2 (by decide) qi).mp q3; omega))
          have pre769 := fun (τ : State) kt => pre767 τ (by
            show Steps p.tables e below (s₁.setTop (mkF m 79 #[.val (.ref r), .val (.int (1 : Int32)), .val (.int (4 : Int32)), .val (.ref t), .val (.int ev), .val (.int iv), .val (.int (1 : Int32)), .val (.int (t1 + ev))] [(.int (t1 + ev)), (.int t3)])) τ
            refine XS.icmpYes X0.here hx rfl (pc0 := 79) (pc' := 88) rfl (Jvm.hb hby d4_79) rfl (tlt q3).2.2.1 (by decide) (by decide) ?_
            refine XS.aloadN X0.here hx rfl (Jvm.hb hby d4_88) rfl rfl ?_
            refine XS.iloadN X0.here hx rfl (Jvm.hb hby d4_89) rfl ?_
            refine X0.iaload hx ((congrArg (fun (HH : Heap) => HH[r]?) (e0 : s₁.heap = h0)).trans Ar768.1) (State.isArrayOf_alike hZ.alike Ar768.2.1) Ar768.2.2 in768 (H768.at in768 rfl) (g := (mkF m 90 #[.val (.ref r), .val (.int (1 : Int32)), .val (.int (4 : Int32)), .val (.ref t), .val (.int ev), .val (.int iv), .val (.int (1 : Int32)), .val (.int (t1 + ev))] [(.int (1 : Int32)), (.ref r)])) rfl rfl (Jvm.hb hby d4_90) _ ?_
            refine XS.iload X0.here hx rfl (Jvm.hb hby d4_91) rfl ?_
            refine XS.icmpNo X0.here hx rfl (Jvm.hb hby d4_93) rfl (teq hz).2 ?_
            refine XS.iconst X0.here hx rfl (Jvm.hb hby d4_96) ?_
            refine XS.goto X0.here hx rfl (pc0 := 97) (pc' := 101) rfl (Jvm.hb hby d4_97) (by decide) (by decide) ?_
            exact kt)
          obtain ⟨fs, hrL, hrun, hended, hW, hsame⟩ := X0.leave (v := some (.int (1 : Int32))) (fun h => by rw [Bd.returns] at h; cases h)
          refine ⟨_, _, cast (congrFun hPS _) (pre769 _ ?_), hrun, hended, _, _, rfl, ?_, ⟨_, rfl⟩, hW, hsame.mono (by decide) (by decide)⟩
          · show Steps p.tables e below (s₁.setTop (mkF m 101 #[.val (.ref r), .val (.int (1 : Int32)), .val (.int (4 : Int32)), .val (.ref t), .val (.int ev), .val (.int iv), .val (.int (1 : Int32)), .val (.int (t1 + ev))] [(.int (1 : Int32))])) _
            exact retN X0 hx (t := .boolean) Bd.returns (by simp) (Jvm.hb hby d4_101) hrL
          · show QZ h0 n0 _ s₁.heap _
            rw [e0]
            exact ⟨rfl, N0, rfl⟩
        · skip
          obtain ⟨cl770, Ar770, q770, S770, M770, H770, U770⟩ := id VR
          have in770 : ¬ ((1 : Int32) < 0 ∨ cl770.slots.size ≤ ((1 : Int32)).toNatClampNeg) := inb_of S770 ⟨by decide, by decide⟩
          have hz : lx1 = (2 : Int32) := (Int32.toInt_inj.mp (by rw [show (2 : Int32).toInt = 2 by decide]; have b0 := w0.1; have b1 := (w0.2.2.2.2.1 (by decide) qi).mp q1; have b2 := Int.not_lt.mp (fun z => q2 ((w0.2.2.2.2.2.1 (by decide) qi).mpr z)); have b3 := Int.not_lt.mp (fun z => q3 ((w0.2.2.2.2.2.2 (by decide) qi).mpr z)); omega))
          have pre771 := fun (τ : State) kt => pre767 τ (by
            show Steps p.tables e below (s₁.setTop (mkF m 79 #[.val (.ref r), .val (.int (1 : Int32)), .val (.int (4 : Int32)), .val (.ref t), .val (.int ev), .val (.int iv), .val (.int (1 : Int32)), .val (.int (t1 + ev))] [(.int (t1 + ev)), (.int t3)])) τ
            refine XS.icmpNo X0.here hx rfl (Jvm.hb hby d4_79) rfl (flt q3).2.2.1 ?_
            refine XS.iload X0.here hx rfl (Jvm.hb hby d4_82) rfl ?_
            refine XS.iconst X0.here hx rfl (Jvm.hb hby d4_84) ?_
            refine XS.iadd X0.here hx rfl (Jvm.hb hby d4_85) rfl ?_
            refine XS.istore X0.here hx rfl (Jvm.hb hby d4_86) rfl (l' := #[.val (.ref r), .val (.int (1 : Int32)), .val (.int (4 : Int32)), .val (.ref t), .val (.int ev), .val (.int iv), .val (.int (2 : Int32)), .val (.int (t1 + ev))]) rfl ?_
            refine XS.aloadN X0.here hx rfl (Jvm.hb hby d4_88) rfl rfl ?_
            refine XS.iloadN X0.here hx rfl (Jvm.hb hby d4_89) rfl ?_
            refine X0.iaload hx ((congrArg (fun (HH : Heap) => HH[r]?) (e0 : s₁.heap = h0)).trans Ar770.1) (State.isArrayOf_alike hZ.alike Ar770.2.1) Ar770.2.2 in770 (H770.at in770 rfl) (g := (mkF m 90 #[.val (.ref r), .val (.int (1 : Int32)), .val (.int (4 : Int32)), .val (.ref t), .val (.int ev), .val (.int iv), .val (.int (2 : Int32)), .val (.int (t1 + ev))] [(.int (1 : Int32)), (.ref r)])) rfl rfl (Jvm.hb hby d4_90) _ ?_
            refine XS.iload X0.here hx rfl (Jvm.hb hby d4_91) rfl ?_
            refine XS.icmpNo X0.here hx rfl (Jvm.hb hby d4_93) rfl (teq hz).2 ?_
            refine XS.iconst X0.here hx rfl (Jvm.hb hby d4_96) ?_
            refine XS.goto X0.here hx rfl (pc0 := 97) (pc' := 101) rfl (Jvm.hb hby d4_97) (by decide) (by decide) ?_
            exact kt)
          obtain ⟨fs, hrL, hrun, hended, hW, hsame⟩ := X0.leave (v := some (.int (1 : Int32))) (fun h => by rw [Bd.returns] at h; cases h)
          refine ⟨_, _, cast (congrFun hPS _) (pre771 _ ?_), hrun, hended, _, _, rfl, ?_, ⟨_, rfl⟩, hW, hsame.mono (by decide) (by decide)⟩
          · show Steps p.tables e below (s₁.setTop (mkF m 101 #[.val (.ref r), .val (.int (1 : Int32)), .val (.int (4 : Int32)), .val (.ref t), .val (.int ev), .val (.int iv), .val (.int (2 : Int32)), .val (.int (t1 + ev))] [(.int (1 : Int32))])) _
            exact retN X0 hx (t := .boolean) Bd.returns (by simp) (Jvm.hb hby d4_101) hrL
          · show QZ h0 n0 _ s₁.heap _
            rw [e0]
            exact ⟨rfl, N0, rfl⟩
    · skip
      obtain ⟨cl772, Ar772, q772, S772, M772, H772, U772⟩ := id VT
      have in772 : ¬ ((2 : Int32) < 0 ∨ cl772.slots.size ≤ ((2 : Int32)).toNatClampNeg) := inb_of S772 ⟨by decide, by decide⟩
      have pre773 := fun (τ : State) kt => pre757 τ (by
        show Steps p.tables e below (s₁.setTop (mkF m 41 #[.val (.ref r), .val (.int (1 : Int32)), .val (.int (4 : Int32)), .val (.ref t), .val (.int ev), .val (.int iv), .val (.int (0 : Int32)), .val (.int (t1 + ev))] [(.int (t1 + ev)), (.int t1)])) τ
        refine XS.icmpNo X0.here hx rfl (Jvm.hb hby d4_41) rfl (flt q1).2.2.1 ?_
        refine XS.iload X0.here hx rfl (Jvm.hb hby d4_44) rfl ?_
        refine XS.iconst X0.here hx rfl (Jvm.hb hby d4_46) ?_
        refine XS.iadd X0.here hx rfl (Jvm.hb hby d4_47) rfl ?_
        refine XS.istore X0.here hx rfl (Jvm.hb hby d4_48) rfl (l' := #[.val (.ref r), .val (.int (1 : Int32)), .val (.int (4 : Int32)), .val (.ref t), .val (.int ev), .val (.int iv), .val (.int (1 : Int32)), .val (.int (t1 + ev))]) rfl ?_
        refine XS.iloadN X0.here hx rfl (Jvm.hb hby d4_50) rfl ?_
        refine XS.iconst X0.here hx rfl (Jvm.hb hby d4_51) ?_
        refine XS.icmpNo X0.here hx rfl (Jvm.hb hby d4_52) rfl (tlt (by decide)).2.2.2 ?_
        refine XS.aloadN X0.here hx rfl (Jvm.hb hby d4_55) rfl rfl ?_
        refine XS.iconst X0.here hx rfl (Jvm.hb hby d4_56) ?_
        refine X0.iaload hx ((congrArg (fun (HH : Heap) => HH[t]?) (e0 : s₁.heap = h0)).trans Ar772.1) (State.isArrayOf_alike hZ.alike Ar772.2.1) Ar772.2.2 in772 (H772.at in772 rfl) (g := (mkF m 57 #[.val (.ref r), .val (.int (1 : Int32)), .val (.int (4 : Int32)), .val (.ref t), .val (.int ev), .val (.int iv), .val (.int (1 : Int32)), .val (.int (t1 + ev))] [(.int (2 : Int32)), (.ref t)])) rfl rfl (Jvm.hb hby d4_57) _ ?_
        refine XS.iload X0.here hx rfl (Jvm.hb hby d4_58) rfl ?_
        exact kt)
      by_cases q2 : (t1 + ev) < t2
      · skip
        obtain ⟨cl774, Ar774, q774, S774, M774, H774, U774⟩ := id VT
        have in774 : ¬ ((3 : Int32) < 0 ∨ cl774.slots.size ≤ ((3 : Int32)).toNatClampNeg) := inb_of S774 ⟨by decide, by decide⟩
        have pre775 := fun (τ : State) kt => pre773 τ (by
          show Steps p.tables e below (s₁.setTop (mkF m 60 #[.val (.ref r), .val (.int (1 : Int32)), .val (.int (4 : Int32)), .val (.ref t), .val (.int ev), .val (.int iv), .val (.int (1 : Int32)), .val (.int (t1 + ev))] [(.int (t1 + ev)), (.int t2)])) τ
          refine XS.icmpYes X0.here hx rfl (pc0 := 60) (pc' := 69) rfl (Jvm.hb hby d4_60) rfl (tlt q2).2.2.1 (by decide) (by decide) ?_
          refine XS.iloadN X0.here hx rfl (Jvm.hb hby d4_69) rfl ?_
          refine XS.iconst X0.here hx rfl (Jvm.hb hby d4_70) ?_
          refine XS.icmpNo X0.here hx rfl (Jvm.hb hby d4_71) rfl (tlt (by decide)).2.2.2 ?_
          refine XS.aloadN X0.here hx rfl (Jvm.hb hby d4_74) rfl rfl ?_
          refine XS.iconst X0.here hx rfl (Jvm.hb hby d4_75) ?_
          refine X0.iaload hx ((congrArg (fun (HH : Heap) => HH[t]?) (e0 : s₁.heap = h0)).trans Ar774.1) (State.isArrayOf_alike hZ.alike Ar774.2.1) Ar774.2.2 in774 (H774.at in774 rfl) (g := (mkF m 76 #[.val (.ref r), .val (.int (1 : Int32)), .val (.int (4 : Int32)), .val (.ref t), .val (.int ev), .val (.int iv), .val (.int (1 : Int32)), .val (.int (t1 + ev))] [(.int (3 : Int32)), (.ref t)])) rfl rfl (Jvm.hb hby d4_76) _ ?_
          refine XS.iload X0.here hx rfl (Jvm.hb hby d4_77) rfl ?_
          exact kt)
        by_cases q3 : (t1 + ev) < t3
        · skip
          obtain ⟨cl776, Ar776, q776, S776, M776, H776, U776⟩ := id VR
          have in776 : ¬ ((1 : Int32) < 0 ∨ cl776.slots.size ≤ ((1 : Int32)).toNatClampNeg) := inb_of S776 ⟨by decide, by decide⟩
          have hz : lx1 = (1 : Int32) := (Int32.toInt_inj.mp (by rw [show (1 : Int32).toInt = 1 by decide]; have b0 := w0.1; have b1 := Int.not_lt.mp (fun z => q1 ((w0.2.2.2.2.1 (by decide) qi).mpr z)); have b2 := (w0.2.2.2.2.2.1 (by decide) qi).mp q2; have b3 := (w0.2.2.2.2.2.2 (by decide) qi).mp q3; omega))
          have pre777 := fun (τ : State) kt => pre775 τ (by
            show Steps p.tables e below (s₁.setTop (mkF m 79 #[.val (.ref r), .val (.int (1 : Int32)), .val (.int (4 : Int32)), .val (.ref t), .val (.int ev), .val (.int iv), .val (.int (1 : Int32)), .val (.int (t1 + ev))] [(.int (t1 + ev)), (.int t3)])) τ
            refine XS.icmpYes X0.here hx rfl (pc0 := 79) (pc' := 88) rfl (Jvm.hb hby d4_79) rfl (tlt q3).2.2.1 (by decide) (by decide) ?_
            refine XS.aloadN X0.here hx rfl (Jvm.hb hby d4_88) rfl rfl ?_
            refine XS.iloadN X0.here hx rfl (Jvm.hb hby d4_89) rfl ?_
            refine X0.iaload hx ((congrArg (fun (HH : Heap) => HH[r]?) (e0 : s₁.heap = h0)).trans Ar776.1) (State.isArrayOf_alike hZ.alike Ar776.2.1) Ar776.2.2 in776 (H776.at in776 rfl) (g := (mkF m 90 #[.val (.ref r), .val (.int (1 : Int32)), .val (.int (4 : Int32)), .val (.ref t), .val (.int ev), .val (.int iv), .val (.int (1 : Int32)), .val (.int (t1 + ev))] [(.int (1 : Int32)), (.ref r)])) rfl rfl (Jvm.hb hby d4_90) _ ?_
            refine XS.iload X0.here hx rfl (Jvm.hb hby d4_91) rfl ?_
            refine XS.icmpNo X0.here hx rfl (Jvm.hb hby d4_93) rfl (teq hz).2 ?_
            refine XS.iconst X0.here hx rfl (Jvm.hb hby d4_96) ?_
            refine XS.goto X0.here hx rfl (pc0 := 97) (pc' := 101) rfl (Jvm.hb hby d4_97) (by decide) (by decide) ?_
            exact kt)
          obtain ⟨fs, hrL, hrun, hended, hW, hsame⟩ := X0.leave (v := some (.int (1 : Int32))) (fun h => by rw [Bd.returns] at h; cases h)
          refine ⟨_, _, cast (congrFun hPS _) (pre777 _ ?_), hrun, hended, _, _, rfl, ?_, ⟨_, rfl⟩, hW, hsame.mono (by decide) (by decide)⟩
          · show Steps p.tables e below (s₁.setTop (mkF m 101 #[.val (.ref r), .val (.int (1 : Int32)), .val (.int (4 : Int32)), .val (.ref t), .val (.int ev), .val (.int iv), .val (.int (1 : Int32)), .val (.int (t1 + ev))] [(.int (1 : Int32))])) _
            exact retN X0 hx (t := .boolean) Bd.returns (by simp) (Jvm.hb hby d4_101) hrL
          · show QZ h0 n0 _ s₁.heap _
            rw [e0]
            exact ⟨rfl, N0, rfl⟩
        · skip
          obtain ⟨cl778, Ar778, q778, S778, M778, H778, U778⟩ := id VR
          have in778 : ¬ ((1 : Int32) < 0 ∨ cl778.slots.size ≤ ((1 : Int32)).toNatClampNeg) := inb_of S778 ⟨by decide, by decide⟩
          have hz : lx1 = (2 : Int32) := (Int32.toInt_inj.mp (by rw [show (2 : Int32).toInt = 2 by decide]; have b0 := w0.1; have b1 := Int.not_lt.mp (fun z => q1 ((w0.2.2.2.2.1 (by decide) qi).mpr z)); have b2 := (w0.2.2.2.2.2.1 (by decide) qi).mp q2; have b3 := Int.not_lt.mp (fun z => q3 ((w0.2.2.2.2.2.2 (by decide) qi).mpr z)); omega))
          have pre779 := fun (τ : State) kt => pre775 τ (by
            show Steps p.tables e below (s₁.setTop (mkF m 79 #[.val (.ref r), .val (.int (1 : Int32)), .val (.int (4 : Int32)), .val (.ref t), .val (.int ev), .val (.int iv), .val (.int (1 : Int32)), .val (.int (t1 + ev))] [(.int (t1 + ev)), (.int t3)])) τ
            refine XS.icmpNo X0.here hx rfl (Jvm.hb hby d4_79) rfl (flt q3).2.2.1 ?_
            refine XS.iload X0.here hx rfl (Jvm.hb hby d4_82) rfl ?_
            refine XS.iconst X0.here hx rfl (Jvm.hb hby d4_84) ?_
            refine XS.iadd X0.here hx rfl (Jvm.hb hby d4_85) rfl ?_
            refine XS.istore X0.here hx rfl (Jvm.hb hby d4_86) rfl (l' := #[.val (.ref r), .val (.int (1 : Int32)), .val (.int (4 : Int32)), .val (.ref t), .val (.int ev), .val (.int iv), .val (.int (2 : Int32)), .val (.int (t1 + ev))]) rfl ?_
            refine XS.aloadN X0.here hx rfl (Jvm.hb hby d4_88) rfl rfl ?_
            refine XS.iloadN X0.here hx rfl (Jvm.hb hby d4_89) rfl ?_
            refine X0.iaload hx ((congrArg (fun (HH : Heap) => HH[r]?) (e0 : s₁.heap = h0)).trans Ar778.1) (State.isArrayOf_alike hZ.alike Ar778.2.1) Ar778.2.2 in778 (H778.at in778 rfl) (g := (mkF m 90 #[.val (.ref r), .val (.int (1 : Int32)), .val (.int (4 : Int32)), .val (.ref t), .val (.int ev), .val (.int iv), .val (.int (2 : Int32)), .val (.int (t1 + ev))] [(.int (1 : Int32)), (.ref r)])) rfl rfl (Jvm.hb hby d4_90) _ ?_
            refine XS.iload X0.here hx rfl (Jvm.hb hby d4_91) rfl ?_
            refine XS.icmpNo X0.here hx rfl (Jvm.hb hby d4_93) rfl (teq hz).2 ?_
            refine XS.iconst X0.here hx rfl (Jvm.hb hby d4_96) ?_
            refine XS.goto X0.here hx rfl (pc0 := 97) (pc' := 101) rfl (Jvm.hb hby d4_97) (by decide) (by decide) ?_
            exact kt)
          obtain ⟨fs, hrL, hrun, hended, hW, hsame⟩ := X0.leave (v := some (.int (1 : Int32))) (fun h => by rw [Bd.returns] at h; cases h)
          refine ⟨_, _, cast (congrFun hPS _) (pre779 _ ?_), hrun, hended, _, _, rfl, ?_, ⟨_, rfl⟩, hW, hsame.mono (by decide) (by decide)⟩
          · show Steps p.tables e below (s₁.setTop (mkF m 101 #[.val (.ref r), .val (.int (1 : Int32)), .val (.int (4 : Int32)), .val (.ref t), .val (.int ev), .val (.int iv), .val (.int (2 : Int32)), .val (.int (t1 + ev))] [(.int (1 : Int32))])) _
            exact retN X0 hx (t := .boolean) Bd.returns (by simp) (Jvm.hb hby d4_101) hrL
          · show QZ h0 n0 _ s₁.heap _
            rw [e0]
            exact ⟨rfl, N0, rfl⟩
      · skip
        obtain ⟨cl780, Ar780, q780, S780, M780, H780, U780⟩ := id VT
        have in780 : ¬ ((3 : Int32) < 0 ∨ cl780.slots.size ≤ ((3 : Int32)).toNatClampNeg) := inb_of S780 ⟨by decide, by decide⟩
        have pre781 := fun (τ : State) kt => pre773 τ (by
          show Steps p.tables e below (s₁.setTop (mkF m 60 #[.val (.ref r), .val (.int (1 : Int32)), .val (.int (4 : Int32)), .val (.ref t), .val (.int ev), .val (.int iv), .val (.int (1 : Int32)), .val (.int (t1 + ev))] [(.int (t1 + ev)), (.int t2)])) τ
          refine XS.icmpNo X0.here hx rfl (Jvm.hb hby d4_60) rfl (flt q2).2.2.1 ?_
          refine XS.iload X0.here hx rfl (Jvm.hb hby d4_63) rfl ?_
          refine XS.iconst X0.here hx rfl (Jvm.hb hby d4_65) ?_
          refine XS.iadd X0.here hx rfl (Jvm.hb hby d4_66) rfl ?_
          refine XS.istore X0.here hx rfl (Jvm.hb hby d4_67) rfl (l' := #[.val (.ref r), .val (.int (1 : Int32)), .val (.int (4 : Int32)), .val (.ref t), .val (.int ev), .val (.int iv), .val (.int (2 : Int32)), .val (.int (t1 + ev))]) rfl ?_
          refine XS.iloadN X0.here hx rfl (Jvm.hb hby d4_69) rfl ?_
          refine XS.iconst X0.here hx rfl (Jvm.hb hby d4_70) ?_
          refine XS.icmpNo X0.here hx rfl (Jvm.hb hby d4_71) rfl (tlt (by decide)).2.2.2 ?_
          refine XS.aloadN X0.here hx rfl (Jvm.hb hby d4_74) rfl rfl ?_
          refine XS.iconst X0.here hx rfl (Jvm.hb hby d4_75) ?_
          refine X0.iaload hx ((congrArg (fun (HH : Heap) => HH[t]?) (e0 : s₁.heap = h0)).trans Ar780.1) (State.isArrayOf_alike hZ.alike Ar780.2.1) Ar780.2.2 in780 (H780.at in780 rfl) (g := (mkF m 76 #[.val (.ref r), .val (.int (1 : Int32)), .val (.int (4 : Int32)), .val (.ref t), .val (.int ev), .val (.int iv), .val (.int (2 : Int32)), .val (.int (t1 + ev))] [(.int (3 : Int32)), (.ref t)])) rfl rfl (Jvm.hb hby d4_76) _ ?_
          refine XS.iload X0.here hx rfl (Jvm.hb hby d4_77) rfl ?_
          exact kt)
        by_cases q3 : (t1 + ev) < t3
        · skip
          obtain ⟨cl782, Ar782, q782, S782, M782, H782, U782⟩ := id VR
          have in782 : ¬ ((1 : Int32) < 0 ∨ cl782.slots.size ≤ ((1 : Int32)).toNatClampNeg) := inb_of S782 ⟨by decide, by decide⟩
          have hz : lx1 = (2 : Int32) := (Int32.toInt_inj.mp (by rw [show (2 : Int32).toInt = 2 by decide]; have b0 := w0.1; have b1 := Int.not_lt.mp (fun z => q1 ((w0.2.2.2.2.1 (by decide) qi).mpr z)); have b2 := Int.not_lt.mp (fun z => q2 ((w0.2.2.2.2.2.1 (by decide) qi).mpr z)); have b3 := (w0.2.2.2.2.2.2 (by decide) qi).mp q3; omega))
          have pre783 := fun (τ : State) kt => pre781 τ (by
            show Steps p.tables e below (s₁.setTop (mkF m 79 #[.val (.ref r), .val (.int (1 : Int32)), .val (.int (4 : Int32)), .val (.ref t), .val (.int ev), .val (.int iv), .val (.int (2 : Int32)), .val (.int (t1 + ev))] [(.int (t1 + ev)), (.int t3)])) τ
            refine XS.icmpYes X0.here hx rfl (pc0 := 79) (pc' := 88) rfl (Jvm.hb hby d4_79) rfl (tlt q3).2.2.1 (by decide) (by decide) ?_
            refine XS.aloadN X0.here hx rfl (Jvm.hb hby d4_88) rfl rfl ?_
            refine XS.iloadN X0.here hx rfl (Jvm.hb hby d4_89) rfl ?_
            refine X0.iaload hx ((congrArg (fun (HH : Heap) => HH[r]?) (e0 : s₁.heap = h0)).trans Ar782.1) (State.isArrayOf_alike hZ.alike Ar782.2.1) Ar782.2.2 in782 (H782.at in782 rfl) (g := (mkF m 90 #[.val (.ref r), .val (.int (1 : Int32)), .val (.int (4 : Int32)), .val (.ref t), .val (.int ev), .val (.int iv), .val (.int (2 : Int32)), .val (.int (t1 + ev))] [(.int (1 : Int32)), (.ref r)])) rfl rfl (Jvm.hb hby d4_90) _ ?_
            refine XS.iload X0.here hx rfl (Jvm.hb hby d4_91) rfl ?_
            refine XS.icmpNo X0.here hx rfl (Jvm.hb hby d4_93) rfl (teq hz).2 ?_
            refine XS.iconst X0.here hx rfl (Jvm.hb hby d4_96) ?_
            refine XS.goto X0.here hx rfl (pc0 := 97) (pc' := 101) rfl (Jvm.hb hby d4_97) (by decide) (by decide) ?_
            exact kt)
          obtain ⟨fs, hrL, hrun, hended, hW, hsame⟩ := X0.leave (v := some (.int (1 : Int32))) (fun h => by rw [Bd.returns] at h; cases h)
          refine ⟨_, _, cast (congrFun hPS _) (pre783 _ ?_), hrun, hended, _, _, rfl, ?_, ⟨_, rfl⟩, hW, hsame.mono (by decide) (by decide)⟩
          · show Steps p.tables e below (s₁.setTop (mkF m 101 #[.val (.ref r), .val (.int (1 : Int32)), .val (.int (4 : Int32)), .val (.ref t), .val (.int ev), .val (.int iv), .val (.int (2 : Int32)), .val (.int (t1 + ev))] [(.int (1 : Int32))])) _
            exact retN X0 hx (t := .boolean) Bd.returns (by simp) (Jvm.hb hby d4_101) hrL
          · show QZ h0 n0 _ s₁.heap _
            rw [e0]
            exact ⟨rfl, N0, rfl⟩
        · skip
          obtain ⟨cl784, Ar784, q784, S784, M784, H784, U784⟩ := id VR
          have in784 : ¬ ((1 : Int32) < 0 ∨ cl784.slots.size ≤ ((1 : Int32)).toNatClampNeg) := inb_of S784 ⟨by decide, by decide⟩
          have hz : lx1 = (3 : Int32) := (Int32.toInt_inj.mp (by rw [show (3 : Int32).toInt = 3 by decide]; have b0 := w0.1; have b1 := Int.not_lt.mp (fun z => q1 ((w0.2.2.2.2.1 (by decide) qi).mpr z)); have b2 := Int.not_lt.mp (fun z => q2 ((w0.2.2.2.2.2.1 (by decide) qi).mpr z)); have b3 := Int.not_lt.mp (fun z => q3 ((w0.2.2.2.2.2.2 (by decide) qi).mpr z)); omega))
          have pre785 := fun (τ : State) kt => pre781 τ (by
            show Steps p.tables e below (s₁.setTop (mkF m 79 #[.val (.ref r), .val (.int (1 : Int32)), .val (.int (4 : Int32)), .val (.ref t), .val (.int ev), .val (.int iv), .val (.int (2 : Int32)), .val (.int (t1 + ev))] [(.int (t1 + ev)), (.int t3)])) τ
            refine XS.icmpNo X0.here hx rfl (Jvm.hb hby d4_79) rfl (flt q3).2.2.1 ?_
            refine XS.iload X0.here hx rfl (Jvm.hb hby d4_82) rfl ?_
            refine XS.iconst X0.here hx rfl (Jvm.hb hby d4_84) ?_
            refine XS.iadd X0.here hx rfl (Jvm.hb hby d4_85) rfl ?_
            refine XS.istore X0.here hx rfl (Jvm.hb hby d4_86) rfl (l' := #[.val (.ref r), .val (.int (1 : Int32)), .val (.int (4 : Int32)), .val (.ref t), .val (.int ev), .val (.int iv), .val (.int (3 : Int32)), .val (.int (t1 + ev))]) rfl ?_
            refine XS.aloadN X0.here hx rfl (Jvm.hb hby d4_88) rfl rfl ?_
            refine XS.iloadN X0.here hx rfl (Jvm.hb hby d4_89) rfl ?_
            refine X0.iaload hx ((congrArg (fun (HH : Heap) => HH[r]?) (e0 : s₁.heap = h0)).trans Ar784.1) (State.isArrayOf_alike hZ.alike Ar784.2.1) Ar784.2.2 in784 (H784.at in784 rfl) (g := (mkF m 90 #[.val (.ref r), .val (.int (1 : Int32)), .val (.int (4 : Int32)), .val (.ref t), .val (.int ev), .val (.int iv), .val (.int (3 : Int32)), .val (.int (t1 + ev))] [(.int (1 : Int32)), (.ref r)])) rfl rfl (Jvm.hb hby d4_90) _ ?_
            refine XS.iload X0.here hx rfl (Jvm.hb hby d4_91) rfl ?_
            refine XS.icmpNo X0.here hx rfl (Jvm.hb hby d4_93) rfl (teq hz).2 ?_
            refine XS.iconst X0.here hx rfl (Jvm.hb hby d4_96) ?_
            refine XS.goto X0.here hx rfl (pc0 := 97) (pc' := 101) rfl (Jvm.hb hby d4_97) (by decide) (by decide) ?_
            exact kt)
          obtain ⟨fs, hrL, hrun, hended, hW, hsame⟩ := X0.leave (v := some (.int (1 : Int32))) (fun h => by rw [Bd.returns] at h; cases h)
          refine ⟨_, _, cast (congrFun hPS _) (pre785 _ ?_), hrun, hended, _, _, rfl, ?_, ⟨_, rfl⟩, hW, hsame.mono (by decide) (by decide)⟩
          · show Steps p.tables e below (s₁.setTop (mkF m 101 #[.val (.ref r), .val (.int (1 : Int32)), .val (.int (4 : Int32)), .val (.ref t), .val (.int ev), .val (.int iv), .val (.int (3 : Int32)), .val (.int (t1 + ev))] [(.int (1 : Int32))])) _
            exact retN X0 hx (t := .boolean) Bd.returns (by simp) (Jvm.hb hby d4_101) hrL
          · show QZ h0 n0 _ s₁.heap _
            rw [e0]
            exact ⟨rfl, N0, rfl⟩
  · skip
    obtain ⟨cl786, Ar786, q786, S786, M786, H786, U786⟩ := id VR
    have in786 : ¬ ((1 : Int32) < 0 ∨ cl786.slots.size ≤ ((1 : Int32)).toNatClampNeg) := inb_of S786 ⟨by decide, by decide⟩
    have hz : lx1 = (3 : Int32) := (Int32.toInt_inj.mp (by rw [w0.2.2.2.1 qi]; decide))
    have pre787 := fun (τ : State) kt => pre754 τ (by
      show Steps p.tables e below (s₁.setTop (mkF m 9 #[.val (.ref r), .val (.int (1 : Int32)), .val (.int (4 : Int32)), .val (.ref t), .val (.int ev), .val (.int iv), .unset, .unset] [(.int iv)])) τ
      refine XS.ifNo X0.here hx rfl (Jvm.hb hby d4_9) rfl ((if0 _ _).trans (feq qi).1) ?_
      refine XS.iloadN X0.here hx rfl (Jvm.hb hby d4_12) rfl ?_
      refine XS.iconst X0.here hx rfl (Jvm.hb hby d4_13) ?_
      refine XS.isub X0.here hx rfl (Jvm.hb hby d4_14) rfl ?_
      refine XS.istore X0.here hx rfl (Jvm.hb hby d4_15) rfl (l' := #[.val (.ref r), .val (.int (1 : Int32)), .val (.int (4 : Int32)), .val (.ref t), .val (.int ev), .val (.int iv), .val (.int (3 : Int32)), .unset]) rfl ?_
      refine XS.goto X0.here hx rfl (pc0 := 17) (pc' := 88) rfl (Jvm.hb hby d4_17) (by decide) (by decide) ?_
      refine XS.aloadN X0.here hx rfl (Jvm.hb hby d4_88) rfl rfl ?_
      refine XS.iloadN X0.here hx rfl (Jvm.hb hby d4_89) rfl ?_
      refine X0.iaload hx ((congrArg (fun (HH : Heap) => HH[r]?) (e0 : s₁.heap = h0)).trans Ar786.1) (State.isArrayOf_alike hZ.alike Ar786.2.1) Ar786.2.2 in786 (H786.at in786 rfl) (g := (mkF m 90 #[.val (.ref r), .val (.int (1 : Int32)), .val (.int (4 : Int32)), .val (.ref t), .val (.int ev), .val (.int iv), .val (.int (3 : Int32)), .unset] [(.int (1 : Int32)), (.ref r)])) rfl rfl (Jvm.hb hby d4_90) _ ?_
      refine XS.iload X0.here hx rfl (Jvm.hb hby d4_91) rfl ?_
      refine XS.icmpNo X0.here hx rfl (Jvm.hb hby d4_93) rfl (teq hz).2 ?_
      refine XS.iconst X0.here hx rfl (Jvm.hb hby d4_96) ?_
      refine XS.goto X0.here hx rfl (pc0 := 97) (pc' := 101) rfl (Jvm.hb hby d4_97) (by decide) (by decide) ?_
      exact kt)
    obtain ⟨fs, hrL, hrun, hended, hW, hsame⟩ := X0.leave (v := some (.int (1 : Int32))) (fun h => by rw [Bd.returns] at h; cases h)
    refine ⟨_, _, cast (congrFun hPS _) (pre787 _ ?_), hrun, hended, _, _, rfl, ?_, ⟨_, rfl⟩, hW, hsame.mono (by decide) (by decide)⟩
    · show Steps p.tables e below (s₁.setTop (mkF m 101 #[.val (.ref r), .val (.int (1 : Int32)), .val (.int (4 : Int32)), .val (.ref t), .val (.int ev), .val (.int iv), .val (.int (3 : Int32)), .unset] [(.int (1 : Int32))])) _
      exact retN X0 hx (t := .boolean) Bd.returns (by simp) (Jvm.hb hby d4_101) hrL
    · show QZ h0 n0 _ s₁.heap _
      rw [e0]
      exact ⟨rfl, N0, rfl⟩
set_option maxRecDepth 65536 in
set_option maxHeartbeats 40000000 in
theorem rmC2_4 (l : Launch) (Z : State) (a0 : Array Value) (hw : ∀ d ∈ tables_1, d.before a0 Z = true) (ws : List Jvm.Cond) (r : Addr) (ci : Int32) (cn : Int32) (t : Addr) (ev : Int32) (iv : Int32) (kr kt : ClassId) (t0 t1 t2 t3 lx0 lx1 lx2 lx3 : Int32) (en : UInt64) (h0 : Heap) (n0 : Nat) (Z0 : n0 ≤ h0.size) (hi : ci = (2 : Int32)) (hn : cn = (4 : Int32)) (VR : Arv Z h0 r kr .int (4 : Int32) [(.int lx0), (.int lx1), (.int lx2), (.int lx3)] (.int (0 : Int32))) (VT : Arv Z h0 t kt .int (4 : Int32) [(.int t0), (.int t1), (.int t2), (.int t3)] (.int (0 : Int32))) (w0 : own_row 4 iv t1 t2 t3 t2 ev en lx2) :
    MetFree l (⟨"com/example/counterpath/counterpath/core/WindowLastsPinLaw", "check", "([III[IIZ)Z"⟩ : MethodName) (head1 (Jvm.Cond.code (⟨"com/example/counterpath/counterpath/core/WindowLastsPinLaw", "check", "([III[IIZ)Z"⟩ : MethodName) method_3_code 8 (some .boolean) :: ws) ({ frames := 0, cells := 0, slots := 0, locals := 0 } : Room)) (fun α U => α = #[(.ref r), (.int ci), (.int cn), (.ref t), (.int ev), (.int iv)] ∧ Z.Warmed39 U.vm ∧ U.heap = h0) (fun _ _ _ _ _ => True) (fun _ U ω U' => ∃ ν Λ, ω = .returned ν ∧ QZ h0 n0 ν U'.heap Λ ∧ FrameEnd U ω U' Λ ({ frames := 0, cells := 0, slots := 0, locals := 0 } : Room).cells ({ frames := 0, cells := 0, slots := 0, locals := 0 } : Room).slots) := by
  refine MetFree.of_bodySF (plainFor_of_name own_pn_com_example_counterpath_counterpath_core_WindowLastsPinLaw) hisR ?_
  intro p e s m args below meth c s₁ Bd hml0 hP hK
  obtain ⟨rfl, hZ, hh⟩ := hP
  have hx := Bd.exec
  have hby := Bd.bytes
  have hml : c.maxLocals = 8 := hml0
  have hown : s.vm.findClass "com/example/counterpath/counterpath/core/WindowLastsPinLaw" = some m.cls := findClass_of_methodNamed Bd.named
  have hnm := (name_of_methodNamed Bd.named Bd.method).1
  have X0 : Stand p l e ({ frames := 0, cells := 0, slots := 0, locals := 0 } : Room) s m #[(.ref r), (.int ci), (.int cn), (.ref t), (.int ev), (.int iv)] below meth c s₁ [] 0 0 := Stand.of_body Bd
  have e0 : s₁.heap = h0 := by rw [← hh, Bd.state]; rfl
  have N0 := Fr.nil n0
  have KK0 : Keep h0 h0 [] := Keep.refl h0 []
  obtain ⟨PS, hPS⟩ : ∃ P : State → Prop, P = fun τ => Steps p.tables e below (s₁.setTop (entryFrame m #[(.ref r), (.int ci), (.int cn), (.ref t), (.int ev), (.int iv)] 8)) τ := ⟨_, rfl⟩
  have pre0 : ∀ τ, Steps p.tables e below (s₁.setTop (mkF m 0 #[.val (.ref r), .val (.int ci), .val (.int cn), .val (.ref t), .val (.int ev), .val (.int iv), .unset, .unset] [])) τ → PS τ := by rw [hPS]; exact fun τ κ => castTop (own_ef4 m r ci cn t ev iv) κ
  have pre788 : ∀ τ, Steps p.tables e below (s₁.setTop (mkF m 0 #[.val (.ref r), .val (.int (2 : Int32)), .val (.int cn), .val (.ref t), .val (.int ev), .val (.int iv), .unset, .unset] [])) τ → PS τ := by have hq := pre0; rw [hi] at hq; exact hq
  have pre789 : ∀ τ, Steps p.tables e below (s₁.setTop (mkF m 0 #[.val (.ref r), .val (.int (2 : Int32)), .val (.int (4 : Int32)), .val (.ref t), .val (.int ev), .val (.int iv), .unset, .unset] [])) τ → PS τ := by have hq := pre788; rw [hn] at hq; exact hq
  have pre790 := fun (τ : State) kt => pre789 τ (by
    show Steps p.tables e below (s₁.setTop (mkF m 0 #[.val (.ref r), .val (.int (2 : Int32)), .val (.int (4 : Int32)), .val (.ref t), .val (.int ev), .val (.int iv), .unset, .unset] [])) τ
    refine XS.iloadN X0.here hx rfl (Jvm.hb hby d4_0) rfl ?_
    refine XS.iloadN X0.here hx rfl (Jvm.hb hby d4_1) rfl ?_
    refine XS.icmpYes X0.here hx rfl (pc0 := 2) (pc' := 7) rfl (Jvm.hb hby d4_2) rfl (tlt (by decide)).1 (by decide) (by decide) ?_
    refine XS.iload X0.here hx rfl (Jvm.hb hby d4_7) rfl ?_
    exact kt)
  by_cases qi : iv = (0 : Int32)
  · skip
    obtain ⟨cl791, Ar791, q791, S791, M791, H791, U791⟩ := id VT
    have in791 : ¬ ((2 : Int32) < 0 ∨ cl791.slots.size ≤ ((2 : Int32)).toNatClampNeg) := inb_of S791 ⟨by decide, by decide⟩
    obtain ⟨cl792, Ar792, q792, S792, M792, H792, U792⟩ := id VT
    have in792 : ¬ ((1 : Int32) < 0 ∨ cl792.slots.size ≤ ((1 : Int32)).toNatClampNeg) := inb_of S792 ⟨by decide, by decide⟩
    have pre793 := fun (τ : State) kt => pre790 τ (by
      show Steps p.tables e below (s₁.setTop (mkF m 9 #[.val (.ref r), .val (.int (2 : Int32)), .val (.int (4 : Int32)), .val (.ref t), .val (.int ev), .val (.int iv), .unset, .unset] [(.int iv)])) τ
      refine XS.ifYes X0.here hx rfl (pc0 := 9) (pc' := 20) rfl (Jvm.hb hby d4_9) rfl ((if0 _ _).trans (teq qi).1) (by decide) (by decide) ?_
      refine XS.aloadN X0.here hx rfl (Jvm.hb hby d4_20) rfl rfl ?_
      refine XS.iloadN X0.here hx rfl (Jvm.hb hby d4_21) rfl ?_
      refine X0.iaload hx ((congrArg (fun (HH : Heap) => HH[t]?) (e0 : s₁.heap = h0)).trans Ar791.1) (State.isArrayOf_alike hZ.alike Ar791.2.1) Ar791.2.2 in791 (H791.at in791 rfl) (g := (mkF m 22 #[.val (.ref r), .val (.int (2 : Int32)), .val (.int (4 : Int32)), .val (.ref t), .val (.int ev), .val (.int iv), .unset, .unset] [(.int (2 : Int32)), (.ref t)])) rfl rfl (Jvm.hb hby d4_22) _ ?_
      refine XS.iload X0.here hx rfl (Jvm.hb hby d4_23) rfl ?_
      refine XS.iadd X0.here hx rfl (Jvm.hb hby d4_25) rfl ?_
      refine XS.istore X0.here hx rfl (Jvm.hb hby d4_26) rfl (l' := #[.val (.ref r), .val (.int (2 : Int32)), .val (.int (4 : Int32)), .val (.ref t), .val (.int ev), .val (.int iv), .unset, .val (.int (t2 + ev))]) rfl ?_
      refine XS.iconst X0.here hx rfl (Jvm.hb hby d4_28) ?_
      refine XS.istore X0.here hx rfl (Jvm.hb hby d4_29) rfl (l' := #[.val (.ref r), .val (.int (2 : Int32)), .val (.int (4 : Int32)), .val (.ref t), .val (.int ev), .val (.int iv), .val (.int (0 : Int32)), .val (.int (t2 + ev))]) rfl ?_
      refine XS.iloadN X0.here hx rfl (Jvm.hb hby d4_31) rfl ?_
      refine XS.iconst X0.here hx rfl (Jvm.hb hby d4_32) ?_
      refine XS.icmpNo X0.here hx rfl (Jvm.hb hby d4_33) rfl (tlt (by decide)).2.2.2 ?_
      refine XS.aloadN X0.here hx rfl (Jvm.hb hby d4_36) rfl rfl ?_
      refine XS.iconst X0.here hx rfl (Jvm.hb hby d4_37) ?_
      refine X0.iaload hx ((congrArg (fun (HH : Heap) => HH[t]?) (e0 : s₁.heap = h0)).trans Ar792.1) (State.isArrayOf_alike hZ.alike Ar792.2.1) Ar792.2.2 in792 (H792.at in792 rfl) (g := (mkF m 38 #[.val (.ref r), .val (.int (2 : Int32)), .val (.int (4 : Int32)), .val (.ref t), .val (.int ev), .val (.int iv), .val (.int (0 : Int32)), .val (.int (t2 + ev))] [(.int (1 : Int32)), (.ref t)])) rfl rfl (Jvm.hb hby d4_38) _ ?_
      refine XS.iload X0.here hx rfl (Jvm.hb hby d4_39) rfl ?_
      exact kt)
    by_cases q1 : (t2 + ev) < t1
    · skip
      obtain ⟨cl794, Ar794, q794, S794, M794, H794, U794⟩ := id VT
      have in794 : ¬ ((2 : Int32) < 0 ∨ cl794.slots.size ≤ ((2 : Int32)).toNatClampNeg) := inb_of S794 ⟨by decide, by decide⟩
      have pre795 := fun (τ : State) kt => pre793 τ (by
        show Steps p.tables e below (s₁.setTop (mkF m 41 #[.val (.ref r), .val (.int (2 : Int32)), .val (.int (4 : Int32)), .val (.ref t), .val (.int ev), .val (.int iv), .val (.int (0 : Int32)), .val (.int (t2 + ev))] [(.int (t2 + ev)), (.int t1)])) τ
        refine XS.icmpYes X0.here hx rfl (pc0 := 41) (pc' := 50) rfl (Jvm.hb hby d4_41) rfl (tlt q1).2.2.1 (by decide) (by decide) ?_
        refine XS.iloadN X0.here hx rfl (Jvm.hb hby d4_50) rfl ?_
        refine XS.iconst X0.here hx rfl (Jvm.hb hby d4_51) ?_
        refine XS.icmpNo X0.here hx rfl (Jvm.hb hby d4_52) rfl (tlt (by decide)).2.2.2 ?_
        refine XS.aloadN X0.here hx rfl (Jvm.hb hby d4_55) rfl rfl ?_
        refine XS.iconst X0.here hx rfl (Jvm.hb hby d4_56) ?_
        refine X0.iaload hx ((congrArg (fun (HH : Heap) => HH[t]?) (e0 : s₁.heap = h0)).trans Ar794.1) (State.isArrayOf_alike hZ.alike Ar794.2.1) Ar794.2.2 in794 (H794.at in794 rfl) (g := (mkF m 57 #[.val (.ref r), .val (.int (2 : Int32)), .val (.int (4 : Int32)), .val (.ref t), .val (.int ev), .val (.int iv), .val (.int (0 : Int32)), .val (.int (t2 + ev))] [(.int (2 : Int32)), (.ref t)])) rfl rfl (Jvm.hb hby d4_57) _ ?_
        refine XS.iload X0.here hx rfl (Jvm.hb hby d4_58) rfl ?_
        exact kt)
      by_cases q2 : (t2 + ev) < t2
      · skip
        obtain ⟨cl796, Ar796, q796, S796, M796, H796, U796⟩ := id VT
        have in796 : ¬ ((3 : Int32) < 0 ∨ cl796.slots.size ≤ ((3 : Int32)).toNatClampNeg) := inb_of S796 ⟨by decide, by decide⟩
        have pre797 := fun (τ : State) kt => pre795 τ (by
          show Steps p.tables e below (s₁.setTop (mkF m 60 #[.val (.ref r), .val (.int (2 : Int32)), .val (.int (4 : Int32)), .val (.ref t), .val (.int ev), .val (.int iv), .val (.int (0 : Int32)), .val (.int (t2 + ev))] [(.int (t2 + ev)), (.int t2)])) τ
          refine XS.icmpYes X0.here hx rfl (pc0 := 60) (pc' := 69) rfl (Jvm.hb hby d4_60) rfl (tlt q2).2.2.1 (by decide) (by decide) ?_
          refine XS.iloadN X0.here hx rfl (Jvm.hb hby d4_69) rfl ?_
          refine XS.iconst X0.here hx rfl (Jvm.hb hby d4_70) ?_
          refine XS.icmpNo X0.here hx rfl (Jvm.hb hby d4_71) rfl (tlt (by decide)).2.2.2 ?_
          refine XS.aloadN X0.here hx rfl (Jvm.hb hby d4_74) rfl rfl ?_
          refine XS.iconst X0.here hx rfl (Jvm.hb hby d4_75) ?_
          refine X0.iaload hx ((congrArg (fun (HH : Heap) => HH[t]?) (e0 : s₁.heap = h0)).trans Ar796.1) (State.isArrayOf_alike hZ.alike Ar796.2.1) Ar796.2.2 in796 (H796.at in796 rfl) (g := (mkF m 76 #[.val (.ref r), .val (.int (2 : Int32)), .val (.int (4 : Int32)), .val (.ref t), .val (.int ev), .val (.int iv), .val (.int (0 : Int32)), .val (.int (t2 + ev))] [(.int (3 : Int32)), (.ref t)])) rfl rfl (Jvm.hb hby d4_76) _ ?_
          refine XS.iload X0.here hx rfl (Jvm.hb hby d4_77) rfl ?_
          exact kt)
        by_cases q3 : (t2 + ev) < t3
        · skip
          obtain ⟨cl798, Ar798, q798, S798, M798, H798, U798⟩ := id VR
          have in798 : ¬ ((2 : Int32) < 0 ∨ cl798.slots.size ≤ ((2 : Int32)).toNatClampNeg) := inb_of S798 ⟨by decide, by decide⟩
          have hz : lx2 = (0 : Int32) := (Int32.toInt_inj.mp (by rw [show (0 : Int32).toInt = 0 by decide]; have b0 := w0.1; have b1 := (w0.2.2.2.2.1 (by decide) qi).mp q1; have b2 := (w0.2.2.2.2.2.1 (by decide) qi).mp q2; have b3 := (w0.2.2.2.2.2.2 (by decide) qi).mp q3; omega))
          have pre799 := fun (τ : State) kt => pre797 τ (by
            show Steps p.tables e below (s₁.setTop (mkF m 79 #[.val (.ref r), .val (.int (2 : Int32)), .val (.int (4 : Int32)), .val (.ref t), .val (.int ev), .val (.int iv), .val (.int (0 : Int32)), .val (.int (t2 + ev))] [(.int (t2 + ev)), (.int t3)])) τ
            refine XS.icmpYes X0.here hx rfl (pc0 := 79) (pc' := 88) rfl (Jvm.hb hby d4_79) rfl (tlt q3).2.2.1 (by decide) (by decide) ?_
            refine XS.aloadN X0.here hx rfl (Jvm.hb hby d4_88) rfl rfl ?_
            refine XS.iloadN X0.here hx rfl (Jvm.hb hby d4_89) rfl ?_
            refine X0.iaload hx ((congrArg (fun (HH : Heap) => HH[r]?) (e0 : s₁.heap = h0)).trans Ar798.1) (State.isArrayOf_alike hZ.alike Ar798.2.1) Ar798.2.2 in798 (H798.at in798 rfl) (g := (mkF m 90 #[.val (.ref r), .val (.int (2 : Int32)), .val (.int (4 : Int32)), .val (.ref t), .val (.int ev), .val (.int iv), .val (.int (0 : Int32)), .val (.int (t2 + ev))] [(.int (2 : Int32)), (.ref r)])) rfl rfl (Jvm.hb hby d4_90) _ ?_
            refine XS.iload X0.here hx rfl (Jvm.hb hby d4_91) rfl ?_
            refine XS.icmpNo X0.here hx rfl (Jvm.hb hby d4_93) rfl (teq hz).2 ?_
            refine XS.iconst X0.here hx rfl (Jvm.hb hby d4_96) ?_
            refine XS.goto X0.here hx rfl (pc0 := 97) (pc' := 101) rfl (Jvm.hb hby d4_97) (by decide) (by decide) ?_
            exact kt)
          obtain ⟨fs, hrL, hrun, hended, hW, hsame⟩ := X0.leave (v := some (.int (1 : Int32))) (fun h => by rw [Bd.returns] at h; cases h)
          refine ⟨_, _, cast (congrFun hPS _) (pre799 _ ?_), hrun, hended, _, _, rfl, ?_, ⟨_, rfl⟩, hW, hsame.mono (by decide) (by decide)⟩
          · show Steps p.tables e below (s₁.setTop (mkF m 101 #[.val (.ref r), .val (.int (2 : Int32)), .val (.int (4 : Int32)), .val (.ref t), .val (.int ev), .val (.int iv), .val (.int (0 : Int32)), .val (.int (t2 + ev))] [(.int (1 : Int32))])) _
            exact retN X0 hx (t := .boolean) Bd.returns (by simp) (Jvm.hb hby d4_101) hrL
          · show QZ h0 n0 _ s₁.heap _
            rw [e0]
            exact ⟨rfl, N0, rfl⟩
        · skip
          obtain ⟨cl800, Ar800, q800, S800, M800, H800, U800⟩ := id VR
          have in800 : ¬ ((2 : Int32) < 0 ∨ cl800.slots.size ≤ ((2 : Int32)).toNatClampNeg) := inb_of S800 ⟨by decide, by decide⟩
          have hz : lx2 = (1 : Int32) := (Int32.toInt_inj.mp (by rw [show (1 : Int32).toInt = 1 by decide]; have b0 := w0.1; have b1 := (w0.2.2.2.2.1 (by decide) qi).mp q1; have b2 := (w0.2.2.2.2.2.1 (by decide) qi).mp q2; have b3 := Int.not_lt.mp (fun z => q3 ((w0.2.2.2.2.2.2 (by decide) qi).mpr z)); omega))
          have pre801 := fun (τ : State) kt => pre797 τ (by
            show Steps p.tables e below (s₁.setTop (mkF m 79 #[.val (.ref r), .val (.int (2 : Int32)), .val (.int (4 : Int32)), .val (.ref t), .val (.int ev), .val (.int iv), .val (.int (0 : Int32)), .val (.int (t2 + ev))] [(.int (t2 + ev)), (.int t3)])) τ
            refine XS.icmpNo X0.here hx rfl (Jvm.hb hby d4_79) rfl (flt q3).2.2.1 ?_
            refine XS.iload X0.here hx rfl (Jvm.hb hby d4_82) rfl ?_
            refine XS.iconst X0.here hx rfl (Jvm.hb hby d4_84) ?_
            refine XS.iadd X0.here hx rfl (Jvm.hb hby d4_85) rfl ?_
            refine XS.istore X0.here hx rfl (Jvm.hb hby d4_86) rfl (l' := #[.val (.ref r), .val (.int (2 : Int32)), .val (.int (4 : Int32)), .val (.ref t), .val (.int ev), .val (.int iv), .val (.int (1 : Int32)), .val (.int (t2 + ev))]) rfl ?_
            refine XS.aloadN X0.here hx rfl (Jvm.hb hby d4_88) rfl rfl ?_
            refine XS.iloadN X0.here hx rfl (Jvm.hb hby d4_89) rfl ?_
            refine X0.iaload hx ((congrArg (fun (HH : Heap) => HH[r]?) (e0 : s₁.heap = h0)).trans Ar800.1) (State.isArrayOf_alike hZ.alike Ar800.2.1) Ar800.2.2 in800 (H800.at in800 rfl) (g := (mkF m 90 #[.val (.ref r), .val (.int (2 : Int32)), .val (.int (4 : Int32)), .val (.ref t), .val (.int ev), .val (.int iv), .val (.int (1 : Int32)), .val (.int (t2 + ev))] [(.int (2 : Int32)), (.ref r)])) rfl rfl (Jvm.hb hby d4_90) _ ?_
            refine XS.iload X0.here hx rfl (Jvm.hb hby d4_91) rfl ?_
            refine XS.icmpNo X0.here hx rfl (Jvm.hb hby d4_93) rfl (teq hz).2 ?_
            refine XS.iconst X0.here hx rfl (Jvm.hb hby d4_96) ?_
            refine XS.goto X0.here hx rfl (pc0 := 97) (pc' := 101) rfl (Jvm.hb hby d4_97) (by decide) (by decide) ?_
            exact kt)
          obtain ⟨fs, hrL, hrun, hended, hW, hsame⟩ := X0.leave (v := some (.int (1 : Int32))) (fun h => by rw [Bd.returns] at h; cases h)
          refine ⟨_, _, cast (congrFun hPS _) (pre801 _ ?_), hrun, hended, _, _, rfl, ?_, ⟨_, rfl⟩, hW, hsame.mono (by decide) (by decide)⟩
          · show Steps p.tables e below (s₁.setTop (mkF m 101 #[.val (.ref r), .val (.int (2 : Int32)), .val (.int (4 : Int32)), .val (.ref t), .val (.int ev), .val (.int iv), .val (.int (1 : Int32)), .val (.int (t2 + ev))] [(.int (1 : Int32))])) _
            exact retN X0 hx (t := .boolean) Bd.returns (by simp) (Jvm.hb hby d4_101) hrL
          · show QZ h0 n0 _ s₁.heap _
            rw [e0]
            exact ⟨rfl, N0, rfl⟩
      · skip
        obtain ⟨cl802, Ar802, q802, S802, M802, H802, U802⟩ := id VT
        have in802 : ¬ ((3 : Int32) < 0 ∨ cl802.slots.size ≤ ((3 : Int32)).toNatClampNeg) := inb_of S802 ⟨by decide, by decide⟩
        have pre803 := fun (τ : State) kt => pre795 τ (by
          show Steps p.tables e below (s₁.setTop (mkF m 60 #[.val (.ref r), .val (.int (2 : Int32)), .val (.int (4 : Int32)), .val (.ref t), .val (.int ev), .val (.int iv), .val (.int (0 : Int32)), .val (.int (t2 + ev))] [(.int (t2 + ev)), (.int t2)])) τ
          refine XS.icmpNo X0.here hx rfl (Jvm.hb hby d4_60) rfl (flt q2).2.2.1 ?_
          refine XS.iload X0.here hx rfl (Jvm.hb hby d4_63) rfl ?_
          refine XS.iconst X0.here hx rfl (Jvm.hb hby d4_65) ?_
          refine XS.iadd X0.here hx rfl (Jvm.hb hby d4_66) rfl ?_
          refine XS.istore X0.here hx rfl (Jvm.hb hby d4_67) rfl (l' := #[.val (.ref r), .val (.int (2 : Int32)), .val (.int (4 : Int32)), .val (.ref t), .val (.int ev), .val (.int iv), .val (.int (1 : Int32)), .val (.int (t2 + ev))]) rfl ?_
          refine XS.iloadN X0.here hx rfl (Jvm.hb hby d4_69) rfl ?_
          refine XS.iconst X0.here hx rfl (Jvm.hb hby d4_70) ?_
          refine XS.icmpNo X0.here hx rfl (Jvm.hb hby d4_71) rfl (tlt (by decide)).2.2.2 ?_
          refine XS.aloadN X0.here hx rfl (Jvm.hb hby d4_74) rfl rfl ?_
          refine XS.iconst X0.here hx rfl (Jvm.hb hby d4_75) ?_
          refine X0.iaload hx ((congrArg (fun (HH : Heap) => HH[t]?) (e0 : s₁.heap = h0)).trans Ar802.1) (State.isArrayOf_alike hZ.alike Ar802.2.1) Ar802.2.2 in802 (H802.at in802 rfl) (g := (mkF m 76 #[.val (.ref r), .val (.int (2 : Int32)), .val (.int (4 : Int32)), .val (.ref t), .val (.int ev), .val (.int iv), .val (.int (1 : Int32)), .val (.int (t2 + ev))] [(.int (3 : Int32)), (.ref t)])) rfl rfl (Jvm.hb hby d4_76) _ ?_
          refine XS.iload X0.here hx rfl (Jvm.hb hby d4_77) rfl ?_
          exact kt)
        by_cases q3 : (t2 + ev) < t3
        · skip
          obtain ⟨cl804, Ar804, q804, S804, M804, H804, U804⟩ := id VR
          have in804 : ¬ ((2 : Int32) < 0 ∨ cl804.slots.size ≤ ((2 : Int32)).toNatClampNeg) := inb_of S804 ⟨by decide, by decide⟩
          have hz : lx2 = (1 : Int32) := (Int32.toInt_inj.mp (by rw [show (1 : Int32).toInt = 1 by decide]; have b0 := w0.1; have b1 := (w0.2.2.2.2.1 (by decide) qi).mp q1; have b2 := Int.not_lt.mp (fun z => q2 ((w0.2.2.2.2.2.1 (by decide) qi).mpr z)); have b3 := (w0.2.2.2.2.2.2 (by decide) qi).mp q3; omega))
          have pre805 := fun (τ : State) kt => pre803 τ (by
            show Steps p.tables e below (s₁.setTop (mkF m 79 #[.val (.ref r), .val (.int (2 : Int32)), .val (.int (4 : Int32)), .val (.ref t), .val (.int ev), .val (.int iv), .val (.int (1 : Int32)), .val (.int (t2 + ev))] [(.int (t2 + ev)), (.int t3)])) τ
            refine XS.icmpYes X0.here hx rfl (pc0 := 79) (pc' := 88) rfl (Jvm.hb hby d4_79) rfl (tlt q3).2.2.1 (by decide) (by decide) ?_
            refine XS.aloadN X0.here hx rfl (Jvm.hb hby d4_88) rfl rfl ?_
            refine XS.iloadN X0.here hx rfl (Jvm.hb hby d4_89) rfl ?_
            refine X0.iaload hx ((congrArg (fun (HH : Heap) => HH[r]?) (e0 : s₁.heap = h0)).trans Ar804.1) (State.isArrayOf_alike hZ.alike Ar804.2.1) Ar804.2.2 in804 (H804.at in804 rfl) (g := (mkF m 90 #[.val (.ref r), .val (.int (2 : Int32)), .val (.int (4 : Int32)), .val (.ref t), .val (.int ev), .val (.int iv), .val (.int (1 : Int32)), .val (.int (t2 + ev))] [(.int (2 : Int32)), (.ref r)])) rfl rfl (Jvm.hb hby d4_90) _ ?_
            refine XS.iload X0.here hx rfl (Jvm.hb hby d4_91) rfl ?_
            refine XS.icmpNo X0.here hx rfl (Jvm.hb hby d4_93) rfl (teq hz).2 ?_
            refine XS.iconst X0.here hx rfl (Jvm.hb hby d4_96) ?_
            refine XS.goto X0.here hx rfl (pc0 := 97) (pc' := 101) rfl (Jvm.hb hby d4_97) (by decide) (by decide) ?_
            exact kt)
          obtain ⟨fs, hrL, hrun, hended, hW, hsame⟩ := X0.leave (v := some (.int (1 : Int32))) (fun h => by rw [Bd.returns] at h; cases h)
          refine ⟨_, _, cast (congrFun hPS _) (pre805 _ ?_), hrun, hended, _, _, rfl, ?_, ⟨_, rfl⟩, hW, hsame.mono (by decide) (by decide)⟩
          · show Steps p.tables e below (s₁.setTop (mkF m 101 #[.val (.ref r), .val (.int (2 : Int32)), .val (.int (4 : Int32)), .val (.ref t), .val (.int ev), .val (.int iv), .val (.int (1 : Int32)), .val (.int (t2 + ev))] [(.int (1 : Int32))])) _
            exact retN X0 hx (t := .boolean) Bd.returns (by simp) (Jvm.hb hby d4_101) hrL
          · show QZ h0 n0 _ s₁.heap _
            rw [e0]
            exact ⟨rfl, N0, rfl⟩
        · skip
          obtain ⟨cl806, Ar806, q806, S806, M806, H806, U806⟩ := id VR
          have in806 : ¬ ((2 : Int32) < 0 ∨ cl806.slots.size ≤ ((2 : Int32)).toNatClampNeg) := inb_of S806 ⟨by decide, by decide⟩
          have hz : lx2 = (2 : Int32) := (Int32.toInt_inj.mp (by rw [show (2 : Int32).toInt = 2 by decide]; have b0 := w0.1; have b1 := (w0.2.2.2.2.1 (by decide) qi).mp q1; have b2 := Int.not_lt.mp (fun z => q2 ((w0.2.2.2.2.2.1 (by decide) qi).mpr z)); have b3 := Int.not_lt.mp (fun z => q3 ((w0.2.2.2.2.2.2 (by decide) qi).mpr z)); omega))
          have pre807 := fun (τ : State) kt => pre803 τ (by
            show Steps p.tables e below (s₁.setTop (mkF m 79 #[.val (.ref r), .val (.int (2 : Int32)), .val (.int (4 : Int32)), .val (.ref t), .val (.int ev), .val (.int iv), .val (.int (1 : Int32)), .val (.int (t2 + ev))] [(.int (t2 + ev)), (.int t3)])) τ
            refine XS.icmpNo X0.here hx rfl (Jvm.hb hby d4_79) rfl (flt q3).2.2.1 ?_
            refine XS.iload X0.here hx rfl (Jvm.hb hby d4_82) rfl ?_
            refine XS.iconst X0.here hx rfl (Jvm.hb hby d4_84) ?_
            refine XS.iadd X0.here hx rfl (Jvm.hb hby d4_85) rfl ?_
            refine XS.istore X0.here hx rfl (Jvm.hb hby d4_86) rfl (l' := #[.val (.ref r), .val (.int (2 : Int32)), .val (.int (4 : Int32)), .val (.ref t), .val (.int ev), .val (.int iv), .val (.int (2 : Int32)), .val (.int (t2 + ev))]) rfl ?_
            refine XS.aloadN X0.here hx rfl (Jvm.hb hby d4_88) rfl rfl ?_
            refine XS.iloadN X0.here hx rfl (Jvm.hb hby d4_89) rfl ?_
            refine X0.iaload hx ((congrArg (fun (HH : Heap) => HH[r]?) (e0 : s₁.heap = h0)).trans Ar806.1) (State.isArrayOf_alike hZ.alike Ar806.2.1) Ar806.2.2 in806 (H806.at in806 rfl) (g := (mkF m 90 #[.val (.ref r), .val (.int (2 : Int32)), .val (.int (4 : Int32)), .val (.ref t), .val (.int ev), .val (.int iv), .val (.int (2 : Int32)), .val (.int (t2 + ev))] [(.int (2 : Int32)), (.ref r)])) rfl rfl (Jvm.hb hby d4_90) _ ?_
            refine XS.iload X0.here hx rfl (Jvm.hb hby d4_91) rfl ?_
            refine XS.icmpNo X0.here hx rfl (Jvm.hb hby d4_93) rfl (teq hz).2 ?_
            refine XS.iconst X0.here hx rfl (Jvm.hb hby d4_96) ?_
            refine XS.goto X0.here hx rfl (pc0 := 97) (pc' := 101) rfl (Jvm.hb hby d4_97) (by decide) (by decide) ?_
            exact kt)
          obtain ⟨fs, hrL, hrun, hended, hW, hsame⟩ := X0.leave (v := some (.int (1 : Int32))) (fun h => by rw [Bd.returns] at h; cases h)
          refine ⟨_, _, cast (congrFun hPS _) (pre807 _ ?_), hrun, hended, _, _, rfl, ?_, ⟨_, rfl⟩, hW, hsame.mono (by decide) (by decide)⟩
          · show Steps p.tables e below (s₁.setTop (mkF m 101 #[.val (.ref r), .val (.int (2 : Int32)), .val (.int (4 : Int32)), .val (.ref t), .val (.int ev), .val (.int iv), .val (.int (2 : Int32)), .val (.int (t2 + ev))] [(.int (1 : Int32))])) _
            exact retN X0 hx (t := .boolean) Bd.returns (by simp) (Jvm.hb hby d4_101) hrL
          · show QZ h0 n0 _ s₁.heap _
            rw [e0]
            exact ⟨rfl, N0, rfl⟩
    · skip
      obtain ⟨cl808, Ar808, q808, S808, M808, H808, U808⟩ := id VT
      have in808 : ¬ ((2 : Int32) < 0 ∨ cl808.slots.size ≤ ((2 : Int32)).toNatClampNeg) := inb_of S808 ⟨by decide, by decide⟩
      have pre809 := fun (τ : State) kt => pre793 τ (by
        show Steps p.tables e below (s₁.setTop (mkF m 41 #[.val (.ref r), .val (.int (2 : Int32)), .val (.int (4 : Int32)), .val (.ref t), .val (.int ev), .val (.int iv), .val (.int (0 : Int32)), .val (.int (t2 + ev))] [(.int (t2 + ev)), (.int t1)])) τ
        refine XS.icmpNo X0.here hx rfl (Jvm.hb hby d4_41) rfl (flt q1).2.2.1 ?_
        refine XS.iload X0.here hx rfl (Jvm.hb hby d4_44) rfl ?_
        refine XS.iconst X0.here hx rfl (Jvm.hb hby d4_46) ?_
        refine XS.iadd X0.here hx rfl (Jvm.hb hby d4_47) rfl ?_
        refine XS.istore X0.here hx rfl (Jvm.hb hby d4_48) rfl (l' := #[.val (.ref r), .val (.int (2 : Int32)), .val (.int (4 : Int32)), .val (.ref t), .val (.int ev), .val (.int iv), .val (.int (1 : Int32)), .val (.int (t2 + ev))]) rfl ?_
        refine XS.iloadN X0.here hx rfl (Jvm.hb hby d4_50) rfl ?_
        refine XS.iconst X0.here hx rfl (Jvm.hb hby d4_51) ?_
        refine XS.icmpNo X0.here hx rfl (Jvm.hb hby d4_52) rfl (tlt (by decide)).2.2.2 ?_
        refine XS.aloadN X0.here hx rfl (Jvm.hb hby d4_55) rfl rfl ?_
        refine XS.iconst X0.here hx rfl (Jvm.hb hby d4_56) ?_
        refine X0.iaload hx ((congrArg (fun (HH : Heap) => HH[t]?) (e0 : s₁.heap = h0)).trans Ar808.1) (State.isArrayOf_alike hZ.alike Ar808.2.1) Ar808.2.2 in808 (H808.at in808 rfl) (g := (mkF m 57 #[.val (.ref r), .val (.int (2 : Int32)), .val (.int (4 : Int32)), .val (.ref t), .val (.int ev), .val (.int iv), .val (.int (1 : Int32)), .val (.int (t2 + ev))] [(.int (2 : Int32)), (.ref t)])) rfl rfl (Jvm.hb hby d4_57) _ ?_
        refine XS.iload X0.here hx rfl (Jvm.hb hby d4_58) rfl ?_
        exact kt)
      by_cases q2 : (t2 + ev) < t2
      · skip
        obtain ⟨cl810, Ar810, q810, S810, M810, H810, U810⟩ := id VT
        have in810 : ¬ ((3 : Int32) < 0 ∨ cl810.slots.size ≤ ((3 : Int32)).toNatClampNeg) := inb_of S810 ⟨by decide, by decide⟩
        have pre811 := fun (τ : State) kt => pre809 τ (by
          show Steps p.tables e below (s₁.setTop (mkF m 60 #[.val (.ref r), .val (.int (2 : Int32)), .val (.int (4 : Int32)), .val (.ref t), .val (.int ev), .val (.int iv), .val (.int (1 : Int32)), .val (.int (t2 + ev))] [(.int (t2 + ev)), (.int t2)])) τ
          refine XS.icmpYes X0.here hx rfl (pc0 := 60) (pc' := 69) rfl (Jvm.hb hby d4_60) rfl (tlt q2).2.2.1 (by decide) (by decide) ?_
          refine XS.iloadN X0.here hx rfl (Jvm.hb hby d4_69) rfl ?_
          refine XS.iconst X0.here hx rfl (Jvm.hb hby d4_70) ?_
          refine XS.icmpNo X0.here hx rfl (Jvm.hb hby d4_71) rfl (tlt (by decide)).2.2.2 ?_
          refine XS.aloadN X0.here hx rfl (Jvm.hb hby d4_74) rfl rfl ?_
          refine XS.iconst X0.here hx rfl (Jvm.hb hby d4_75) ?_
          refine X0.iaload hx ((congrArg (fun (HH : Heap) => HH[t]?) (e0 : s₁.heap = h0)).trans Ar810.1) (State.isArrayOf_alike hZ.alike Ar810.2.1) Ar810.2.2 in810 (H810.at in810 rfl) (g := (mkF m 76 #[.val (.ref r), .val (.int (2 : Int32)), .val (.int (4 : Int32)), .val (.ref t), .val (.int ev), .val (.int iv), .val (.int (1 : Int32)), .val (.int (t2 + ev))] [(.int (3 : Int32)), (.ref t)])) rfl rfl (Jvm.hb hby d4_76) _ ?_
          refine XS.iload X0.here hx rfl (Jvm.hb hby d4_77) rfl ?_
          exact kt)
        by_cases q3 : (t2 + ev) < t3
        · skip
          obtain ⟨cl812, Ar812, q812, S812, M812, H812, U812⟩ := id VR
          have in812 : ¬ ((2 : Int32) < 0 ∨ cl812.slots.size ≤ ((2 : Int32)).toNatClampNeg) := inb_of S812 ⟨by decide, by decide⟩
          have hz : lx2 = (1 : Int32) := (Int32.toInt_inj.mp (by rw [show (1 : Int32).toInt = 1 by decide]; have b0 := w0.1; have b1 := Int.not_lt.mp (fun z => q1 ((w0.2.2.2.2.1 (by decide) qi).mpr z)); have b2 := (w0.2.2.2.2.2.1 (by decide) qi).mp q2; have b3 := (w0.2.2.2.2.2.2 (by decide) qi).mp q3; omega))
          have pre813 := fun (τ : State) kt => pre811 τ (by
            show Steps p.tables e below (s₁.setTop (mkF m 79 #[.val (.ref r), .val (.int (2 : Int32)), .val (.int (4 : Int32)), .val (.ref t), .val (.int ev), .val (.int iv), .val (.int (1 : Int32)), .val (.int (t2 + ev))] [(.int (t2 + ev)), (.int t3)])) τ
            refine XS.icmpYes X0.here hx rfl (pc0 := 79) (pc' := 88) rfl (Jvm.hb hby d4_79) rfl (tlt q3).2.2.1 (by decide) (by decide) ?_
            refine XS.aloadN X0.here hx rfl (Jvm.hb hby d4_88) rfl rfl ?_
            refine XS.iloadN X0.here hx rfl (Jvm.hb hby d4_89) rfl ?_
            refine X0.iaload hx ((congrArg (fun (HH : Heap) => HH[r]?) (e0 : s₁.heap = h0)).trans Ar812.1) (State.isArrayOf_alike hZ.alike Ar812.2.1) Ar812.2.2 in812 (H812.at in812 rfl) (g := (mkF m 90 #[.val (.ref r), .val (.int (2 : Int32)), .val (.int (4 : Int32)), .val (.ref t), .val (.int ev), .val (.int iv), .val (.int (1 : Int32)), .val (.int (t2 + ev))] [(.int (2 : Int32)), (.ref r)])) rfl rfl (Jvm.hb hby d4_90) _ ?_
            refine XS.iload X0.here hx rfl (Jvm.hb hby d4_91) rfl ?_
            refine XS.icmpNo X0.here hx rfl (Jvm.hb hby d4_93) rfl (teq hz).2 ?_
            refine XS.iconst X0.here hx rfl (Jvm.hb hby d4_96) ?_
            refine XS.goto X0.here hx rfl (pc0 := 97) (pc' := 101) rfl (Jvm.hb hby d4_97) (by decide) (by decide) ?_
            exact kt)
          obtain ⟨fs, hrL, hrun, hended, hW, hsame⟩ := X0.leave (v := some (.int (1 : Int32))) (fun h => by rw [Bd.returns] at h; cases h)
          refine ⟨_, _, cast (congrFun hPS _) (pre813 _ ?_), hrun, hended, _, _, rfl, ?_, ⟨_, rfl⟩, hW, hsame.mono (by decide) (by decide)⟩
          · show Steps p.tables e below (s₁.setTop (mkF m 101 #[.val (.ref r), .val (.int (2 : Int32)), .val (.int (4 : Int32)), .val (.ref t), .val (.int ev), .val (.int iv), .val (.int (1 : Int32)), .val (.int (t2 + ev))] [(.int (1 : Int32))])) _
            exact retN X0 hx (t := .boolean) Bd.returns (by simp) (Jvm.hb hby d4_101) hrL
          · show QZ h0 n0 _ s₁.heap _
            rw [e0]
            exact ⟨rfl, N0, rfl⟩
        · skip
          obtain ⟨cl814, Ar814, q814, S814, M814, H814, U814⟩ := id VR
          have in814 : ¬ ((2 : Int32) < 0 ∨ cl814.slots.size ≤ ((2 : Int32)).toNatClampNeg) := inb_of S814 ⟨by decide, by decide⟩
          have hz : lx2 = (2 : Int32) := (Int32.toInt_inj.mp (by rw [show (2 : Int32).toInt = 2 by decide]; have b0 := w0.1; have b1 := Int.not_lt.mp (fun z => q1 ((w0.2.2.2.2.1 (by decide) qi).mpr z)); have b2 := (w0.2.2.2.2.2.1 (by decide) qi).mp q2; have b3 := Int.not_lt.mp (fun z => q3 ((w0.2.2.2.2.2.2 (by decide) qi).mpr z)); omega))
          have pre815 := fun (τ : State) kt => pre811 τ (by
            show Steps p.tables e below (s₁.setTop (mkF m 79 #[.val (.ref r), .val (.int (2 : Int32)), .val (.int (4 : Int32)), .val (.ref t), .val (.int ev), .val (.int iv), .val (.int (1 : Int32)), .val (.int (t2 + ev))] [(.int (t2 + ev)), (.int t3)])) τ
            refine XS.icmpNo X0.here hx rfl (Jvm.hb hby d4_79) rfl (flt q3).2.2.1 ?_
            refine XS.iload X0.here hx rfl (Jvm.hb hby d4_82) rfl ?_
            refine XS.iconst X0.here hx rfl (Jvm.hb hby d4_84) ?_
            refine XS.iadd X0.here hx rfl (Jvm.hb hby d4_85) rfl ?_
            refine XS.istore X0.here hx rfl (Jvm.hb hby d4_86) rfl (l' := #[.val (.ref r), .val (.int (2 : Int32)), .val (.int (4 : Int32)), .val (.ref t), .val (.int ev), .val (.int iv), .val (.int (2 : Int32)), .val (.int (t2 + ev))]) rfl ?_
            refine XS.aloadN X0.here hx rfl (Jvm.hb hby d4_88) rfl rfl ?_
            refine XS.iloadN X0.here hx rfl (Jvm.hb hby d4_89) rfl ?_
            refine X0.iaload hx ((congrArg (fun (HH : Heap) => HH[r]?) (e0 : s₁.heap = h0)).trans Ar814.1) (State.isArrayOf_alike hZ.alike Ar814.2.1) Ar814.2.2 in814 (H814.at in814 rfl) (g := (mkF m 90 #[.val (.ref r), .val (.int (2 : Int32)), .val (.int (4 : Int32)), .val (.ref t), .val (.int ev), .val (.int iv), .val (.int (2 : Int32)), .val (.int (t2 + ev))] [(.int (2 : Int32)), (.ref r)])) rfl rfl (Jvm.hb hby d4_90) _ ?_
            refine XS.iload X0.here hx rfl (Jvm.hb hby d4_91) rfl ?_
            refine XS.icmpNo X0.here hx rfl (Jvm.hb hby d4_93) rfl (teq hz).2 ?_
            refine XS.iconst X0.here hx rfl (Jvm.hb hby d4_96) ?_
            refine XS.goto X0.here hx rfl (pc0 := 97) (pc' := 101) rfl (Jvm.hb hby d4_97) (by decide) (by decide) ?_
            exact kt)
          obtain ⟨fs, hrL, hrun, hended, hW, hsame⟩ := X0.leave (v := some (.int (1 : Int32))) (fun h => by rw [Bd.returns] at h; cases h)
          refine ⟨_, _, cast (congrFun hPS _) (pre815 _ ?_), hrun, hended, _, _, rfl, ?_, ⟨_, rfl⟩, hW, hsame.mono (by decide) (by decide)⟩
          · show Steps p.tables e below (s₁.setTop (mkF m 101 #[.val (.ref r), .val (.int (2 : Int32)), .val (.int (4 : Int32)), .val (.ref t), .val (.int ev), .val (.int iv), .val (.int (2 : Int32)), .val (.int (t2 + ev))] [(.int (1 : Int32))])) _
            exact retN X0 hx (t := .boolean) Bd.returns (by simp) (Jvm.hb hby d4_101) hrL
          · show QZ h0 n0 _ s₁.heap _
            rw [e0]
            exact ⟨rfl, N0, rfl⟩
      · skip
        obtain ⟨cl816, Ar816, q816, S816, M816, H816, U816⟩ := id VT
        have in816 : ¬ ((3 : Int32) < 0 ∨ cl816.slots.size ≤ ((3 : Int32)).toNatClampNeg) := inb_of S816 ⟨by decide, by decide⟩
        have pre817 := fun (τ : State) kt => pre809 τ (by
          show Steps p.tables e below (s₁.setTop (mkF m 60 #[.val (.ref r), .val (.int (2 : Int32)), .val (.int (4 : Int32)), .val (.ref t), .val (.int ev), .val (.int iv), .val (.int (1 : Int32)), .val (.int (t2 + ev))] [(.int (t2 + ev)), (.int t2)])) τ
          refine XS.icmpNo X0.here hx rfl (Jvm.hb hby d4_60) rfl (flt q2).2.2.1 ?_
          refine XS.iload X0.here hx rfl (Jvm.hb hby d4_63) rfl ?_
          refine XS.iconst X0.here hx rfl (Jvm.hb hby d4_65) ?_
          refine XS.iadd X0.here hx rfl (Jvm.hb hby d4_66) rfl ?_
          refine XS.istore X0.here hx rfl (Jvm.hb hby d4_67) rfl (l' := #[.val (.ref r), .val (.int (2 : Int32)), .val (.int (4 : Int32)), .val (.ref t), .val (.int ev), .val (.int iv), .val (.int (2 : Int32)), .val (.int (t2 + ev))]) rfl ?_
          refine XS.iloadN X0.here hx rfl (Jvm.hb hby d4_69) rfl ?_
          refine XS.iconst X0.here hx rfl (Jvm.hb hby d4_70) ?_
          refine XS.icmpNo X0.here hx rfl (Jvm.hb hby d4_71) rfl (tlt (by decide)).2.2.2 ?_
          refine XS.aloadN X0.here hx rfl (Jvm.hb hby d4_74) rfl rfl ?_
          refine XS.iconst X0.here hx rfl (Jvm.hb hby d4_75) ?_
          refine X0.iaload hx ((congrArg (fun (HH : Heap) => HH[t]?) (e0 : s₁.heap = h0)).trans Ar816.1) (State.isArrayOf_alike hZ.alike Ar816.2.1) Ar816.2.2 in816 (H816.at in816 rfl) (g := (mkF m 76 #[.val (.ref r), .val (.int (2 : Int32)), .val (.int (4 : Int32)), .val (.ref t), .val (.int ev), .val (.int iv), .val (.int (2 : Int32)), .val (.int (t2 + ev))] [(.int (3 : Int32)), (.ref t)])) rfl rfl (Jvm.hb hby d4_76) _ ?_
          refine XS.iload X0.here hx rfl (Jvm.hb hby d4_77) rfl ?_
          exact kt)
        by_cases q3 : (t2 + ev) < t3
        · skip
          obtain ⟨cl818, Ar818, q818, S818, M818, H818, U818⟩ := id VR
          have in818 : ¬ ((2 : Int32) < 0 ∨ cl818.slots.size ≤ ((2 : Int32)).toNatClampNeg) := inb_of S818 ⟨by decide, by decide⟩
          have hz : lx2 = (2 : Int32) := (Int32.toInt_inj.mp (by rw [show (2 : Int32).toInt = 2 by decide]; have b0 := w0.1; have b1 := Int.not_lt.mp (fun z => q1 ((w0.2.2.2.2.1 (by decide) qi).mpr z)); have b2 := Int.not_lt.mp (fun z => q2 ((w0.2.2.2.2.2.1 (by decide) qi).mpr z)); have b3 := (w0.2.2.2.2.2.2 (by decide) qi).mp q3; omega))
          have pre819 := fun (τ : State) kt => pre817 τ (by
            show Steps p.tables e below (s₁.setTop (mkF m 79 #[.val (.ref r), .val (.int (2 : Int32)), .val (.int (4 : Int32)), .val (.ref t), .val (.int ev), .val (.int iv), .val (.int (2 : Int32)), .val (.int (t2 + ev))] [(.int (t2 + ev)), (.int t3)])) τ
            refine XS.icmpYes X0.here hx rfl (pc0 := 79) (pc' := 88) rfl (Jvm.hb hby d4_79) rfl (tlt q3).2.2.1 (by decide) (by decide) ?_
            refine XS.aloadN X0.here hx rfl (Jvm.hb hby d4_88) rfl rfl ?_
            refine XS.iloadN X0.here hx rfl (Jvm.hb hby d4_89) rfl ?_
            refine X0.iaload hx ((congrArg (fun (HH : Heap) => HH[r]?) (e0 : s₁.heap = h0)).trans Ar818.1) (State.isArrayOf_alike hZ.alike Ar818.2.1) Ar818.2.2 in818 (H818.at in818 rfl) (g := (mkF m 90 #[.val (.ref r), .val (.int (2 : Int32)), .val (.int (4 : Int32)), .val (.ref t), .val (.int ev), .val (.int iv), .val (.int (2 : Int32)), .val (.int (t2 + ev))] [(.int (2 : Int32)), (.ref r)])) rfl rfl (Jvm.hb hby d4_90) _ ?_
            refine XS.iload X0.here hx rfl (Jvm.hb hby d4_91) rfl ?_
            refine XS.icmpNo X0.here hx rfl (Jvm.hb hby d4_93) rfl (teq hz).2 ?_
            refine XS.iconst X0.here hx rfl (Jvm.hb hby d4_96) ?_
            refine XS.goto X0.here hx rfl (pc0 := 97) (pc' := 101) rfl (Jvm.hb hby d4_97) (by decide) (by decide) ?_
            exact kt)
          obtain ⟨fs, hrL, hrun, hended, hW, hsame⟩ := X0.leave (v := some (.int (1 : Int32))) (fun h => by rw [Bd.returns] at h; cases h)
          refine ⟨_, _, cast (congrFun hPS _) (pre819 _ ?_), hrun, hended, _, _, rfl, ?_, ⟨_, rfl⟩, hW, hsame.mono (by decide) (by decide)⟩
          · show Steps p.tables e below (s₁.setTop (mkF m 101 #[.val (.ref r), .val (.int (2 : Int32)), .val (.int (4 : Int32)), .val (.ref t), .val (.int ev), .val (.int iv), .val (.int (2 : Int32)), .val (.int (t2 + ev))] [(.int (1 : Int32))])) _
            exact retN X0 hx (t := .boolean) Bd.returns (by simp) (Jvm.hb hby d4_101) hrL
          · show QZ h0 n0 _ s₁.heap _
            rw [e0]
            exact ⟨rfl, N0, rfl⟩
        · skip
          obtain ⟨cl820, Ar820, q820, S820, M820, H820, U820⟩ := id VR
          have in820 : ¬ ((2 : Int32) < 0 ∨ cl820.slots.size ≤ ((2 : Int32)).toNatClampNeg) := inb_of S820 ⟨by decide, by decide⟩
          have hz : lx2 = (3 : Int32) := (Int32.toInt_inj.mp (by rw [show (3 : Int32).toInt = 3 by decide]; have b0 := w0.1; have b1 := Int.not_lt.mp (fun z => q1 ((w0.2.2.2.2.1 (by decide) qi).mpr z)); have b2 := Int.not_lt.mp (fun z => q2 ((w0.2.2.2.2.2.1 (by decide) qi).mpr z)); have b3 := Int.not_lt.mp (fun z => q3 ((w0.2.2.2.2.2.2 (by decide) qi).mpr z)); omega))
          have pre821 := fun (τ : State) kt => pre817 τ (by
            show Steps p.tables e below (s₁.setTop (mkF m 79 #[.val (.ref r), .val (.int (2 : Int32)), .val (.int (4 : Int32)), .val (.ref t), .val (.int ev), .val (.int iv), .val (.int (2 : Int32)), .val (.int (t2 + ev))] [(.int (t2 + ev)), (.int t3)])) τ
            refine XS.icmpNo X0.here hx rfl (Jvm.hb hby d4_79) rfl (flt q3).2.2.1 ?_
            refine XS.iload X0.here hx rfl (Jvm.hb hby d4_82) rfl ?_
            refine XS.iconst X0.here hx rfl (Jvm.hb hby d4_84) ?_
            refine XS.iadd X0.here hx rfl (Jvm.hb hby d4_85) rfl ?_
            refine XS.istore X0.here hx rfl (Jvm.hb hby d4_86) rfl (l' := #[.val (.ref r), .val (.int (2 : Int32)), .val (.int (4 : Int32)), .val (.ref t), .val (.int ev), .val (.int iv), .val (.int (3 : Int32)), .val (.int (t2 + ev))]) rfl ?_
            refine XS.aloadN X0.here hx rfl (Jvm.hb hby d4_88) rfl rfl ?_
            refine XS.iloadN X0.here hx rfl (Jvm.hb hby d4_89) rfl ?_
            refine X0.iaload hx ((congrArg (fun (HH : Heap) => HH[r]?) (e0 : s₁.heap = h0)).trans Ar820.1) (State.isArrayOf_alike hZ.alike Ar820.2.1) Ar820.2.2 in820 (H820.at in820 rfl) (g := (mkF m 90 #[.val (.ref r), .val (.int (2 : Int32)), .val (.int (4 : Int32)), .val (.ref t), .val (.int ev), .val (.int iv), .val (.int (3 : Int32)), .val (.int (t2 + ev))] [(.int (2 : Int32)), (.ref r)])) rfl rfl (Jvm.hb hby d4_90) _ ?_
            refine XS.iload X0.here hx rfl (Jvm.hb hby d4_91) rfl ?_
            refine XS.icmpNo X0.here hx rfl (Jvm.hb hby d4_93) rfl (teq hz).2 ?_
            refine XS.iconst X0.here hx rfl (Jvm.hb hby d4_96) ?_
            refine XS.goto X0.here hx rfl (pc0 := 97) (pc' := 101) rfl (Jvm.hb hby d4_97) (by decide) (by decide) ?_
            exact kt)
          obtain ⟨fs, hrL, hrun, hended, hW, hsame⟩ := X0.leave (v := some (.int (1 : Int32))) (fun h => by rw [Bd.returns] at h; cases h)
          refine ⟨_, _, cast (congrFun hPS _) (pre821 _ ?_), hrun, hended, _, _, rfl, ?_, ⟨_, rfl⟩, hW, hsame.mono (by decide) (by decide)⟩
          · show Steps p.tables e below (s₁.setTop (mkF m 101 #[.val (.ref r), .val (.int (2 : Int32)), .val (.int (4 : Int32)), .val (.ref t), .val (.int ev), .val (.int iv), .val (.int (3 : Int32)), .val (.int (t2 + ev))] [(.int (1 : Int32))])) _
            exact retN X0 hx (t := .boolean) Bd.returns (by simp) (Jvm.hb hby d4_101) hrL
          · show QZ h0 n0 _ s₁.heap _
            rw [e0]
            exact ⟨rfl, N0, rfl⟩
  · skip
    obtain ⟨cl822, Ar822, q822, S822, M822, H822, U822⟩ := id VR
    have in822 : ¬ ((2 : Int32) < 0 ∨ cl822.slots.size ≤ ((2 : Int32)).toNatClampNeg) := inb_of S822 ⟨by decide, by decide⟩
    have hz : lx2 = (3 : Int32) := (Int32.toInt_inj.mp (by rw [w0.2.2.2.1 qi]; decide))
    have pre823 := fun (τ : State) kt => pre790 τ (by
      show Steps p.tables e below (s₁.setTop (mkF m 9 #[.val (.ref r), .val (.int (2 : Int32)), .val (.int (4 : Int32)), .val (.ref t), .val (.int ev), .val (.int iv), .unset, .unset] [(.int iv)])) τ
      refine XS.ifNo X0.here hx rfl (Jvm.hb hby d4_9) rfl ((if0 _ _).trans (feq qi).1) ?_
      refine XS.iloadN X0.here hx rfl (Jvm.hb hby d4_12) rfl ?_
      refine XS.iconst X0.here hx rfl (Jvm.hb hby d4_13) ?_
      refine XS.isub X0.here hx rfl (Jvm.hb hby d4_14) rfl ?_
      refine XS.istore X0.here hx rfl (Jvm.hb hby d4_15) rfl (l' := #[.val (.ref r), .val (.int (2 : Int32)), .val (.int (4 : Int32)), .val (.ref t), .val (.int ev), .val (.int iv), .val (.int (3 : Int32)), .unset]) rfl ?_
      refine XS.goto X0.here hx rfl (pc0 := 17) (pc' := 88) rfl (Jvm.hb hby d4_17) (by decide) (by decide) ?_
      refine XS.aloadN X0.here hx rfl (Jvm.hb hby d4_88) rfl rfl ?_
      refine XS.iloadN X0.here hx rfl (Jvm.hb hby d4_89) rfl ?_
      refine X0.iaload hx ((congrArg (fun (HH : Heap) => HH[r]?) (e0 : s₁.heap = h0)).trans Ar822.1) (State.isArrayOf_alike hZ.alike Ar822.2.1) Ar822.2.2 in822 (H822.at in822 rfl) (g := (mkF m 90 #[.val (.ref r), .val (.int (2 : Int32)), .val (.int (4 : Int32)), .val (.ref t), .val (.int ev), .val (.int iv), .val (.int (3 : Int32)), .unset] [(.int (2 : Int32)), (.ref r)])) rfl rfl (Jvm.hb hby d4_90) _ ?_
      refine XS.iload X0.here hx rfl (Jvm.hb hby d4_91) rfl ?_
      refine XS.icmpNo X0.here hx rfl (Jvm.hb hby d4_93) rfl (teq hz).2 ?_
      refine XS.iconst X0.here hx rfl (Jvm.hb hby d4_96) ?_
      refine XS.goto X0.here hx rfl (pc0 := 97) (pc' := 101) rfl (Jvm.hb hby d4_97) (by decide) (by decide) ?_
      exact kt)
    obtain ⟨fs, hrL, hrun, hended, hW, hsame⟩ := X0.leave (v := some (.int (1 : Int32))) (fun h => by rw [Bd.returns] at h; cases h)
    refine ⟨_, _, cast (congrFun hPS _) (pre823 _ ?_), hrun, hended, _, _, rfl, ?_, ⟨_, rfl⟩, hW, hsame.mono (by decide) (by decide)⟩
    · show Steps p.tables e below (s₁.setTop (mkF m 101 #[.val (.ref r), .val (.int (2 : Int32)), .val (.int (4 : Int32)), .val (.ref t), .val (.int ev), .val (.int iv), .val (.int (3 : Int32)), .unset] [(.int (1 : Int32))])) _
      exact retN X0 hx (t := .boolean) Bd.returns (by simp) (Jvm.hb hby d4_101) hrL
    · show QZ h0 n0 _ s₁.heap _
      rw [e0]
      exact ⟨rfl, N0, rfl⟩
set_option maxRecDepth 65536 in
set_option maxHeartbeats 40000000 in
theorem rmC3_4 (l : Launch) (Z : State) (a0 : Array Value) (hw : ∀ d ∈ tables_1, d.before a0 Z = true) (ws : List Jvm.Cond) (r : Addr) (ci : Int32) (cn : Int32) (t : Addr) (ev : Int32) (iv : Int32) (kr kt : ClassId) (t0 t1 t2 t3 lx0 lx1 lx2 lx3 : Int32) (en : UInt64) (h0 : Heap) (n0 : Nat) (Z0 : n0 ≤ h0.size) (hi : ci = (3 : Int32)) (hn : cn = (4 : Int32)) (VR : Arv Z h0 r kr .int (4 : Int32) [(.int lx0), (.int lx1), (.int lx2), (.int lx3)] (.int (0 : Int32))) (VT : Arv Z h0 t kt .int (4 : Int32) [(.int t0), (.int t1), (.int t2), (.int t3)] (.int (0 : Int32))) (w0 : own_row 4 iv t1 t2 t3 t3 ev en lx3) :
    MetFree l (⟨"com/example/counterpath/counterpath/core/WindowLastsPinLaw", "check", "([III[IIZ)Z"⟩ : MethodName) (head1 (Jvm.Cond.code (⟨"com/example/counterpath/counterpath/core/WindowLastsPinLaw", "check", "([III[IIZ)Z"⟩ : MethodName) method_3_code 8 (some .boolean) :: ws) ({ frames := 0, cells := 0, slots := 0, locals := 0 } : Room)) (fun α U => α = #[(.ref r), (.int ci), (.int cn), (.ref t), (.int ev), (.int iv)] ∧ Z.Warmed39 U.vm ∧ U.heap = h0) (fun _ _ _ _ _ => True) (fun _ U ω U' => ∃ ν Λ, ω = .returned ν ∧ QZ h0 n0 ν U'.heap Λ ∧ FrameEnd U ω U' Λ ({ frames := 0, cells := 0, slots := 0, locals := 0 } : Room).cells ({ frames := 0, cells := 0, slots := 0, locals := 0 } : Room).slots) := by
  refine MetFree.of_bodySF (plainFor_of_name own_pn_com_example_counterpath_counterpath_core_WindowLastsPinLaw) hisR ?_
  intro p e s m args below meth c s₁ Bd hml0 hP hK
  obtain ⟨rfl, hZ, hh⟩ := hP
  have hx := Bd.exec
  have hby := Bd.bytes
  have hml : c.maxLocals = 8 := hml0
  have hown : s.vm.findClass "com/example/counterpath/counterpath/core/WindowLastsPinLaw" = some m.cls := findClass_of_methodNamed Bd.named
  have hnm := (name_of_methodNamed Bd.named Bd.method).1
  have X0 : Stand p l e ({ frames := 0, cells := 0, slots := 0, locals := 0 } : Room) s m #[(.ref r), (.int ci), (.int cn), (.ref t), (.int ev), (.int iv)] below meth c s₁ [] 0 0 := Stand.of_body Bd
  have e0 : s₁.heap = h0 := by rw [← hh, Bd.state]; rfl
  have N0 := Fr.nil n0
  have KK0 : Keep h0 h0 [] := Keep.refl h0 []
  obtain ⟨PS, hPS⟩ : ∃ P : State → Prop, P = fun τ => Steps p.tables e below (s₁.setTop (entryFrame m #[(.ref r), (.int ci), (.int cn), (.ref t), (.int ev), (.int iv)] 8)) τ := ⟨_, rfl⟩
  have pre0 : ∀ τ, Steps p.tables e below (s₁.setTop (mkF m 0 #[.val (.ref r), .val (.int ci), .val (.int cn), .val (.ref t), .val (.int ev), .val (.int iv), .unset, .unset] [])) τ → PS τ := by rw [hPS]; exact fun τ κ => castTop (own_ef4 m r ci cn t ev iv) κ
  have pre824 : ∀ τ, Steps p.tables e below (s₁.setTop (mkF m 0 #[.val (.ref r), .val (.int (3 : Int32)), .val (.int cn), .val (.ref t), .val (.int ev), .val (.int iv), .unset, .unset] [])) τ → PS τ := by have hq := pre0; rw [hi] at hq; exact hq
  have pre825 : ∀ τ, Steps p.tables e below (s₁.setTop (mkF m 0 #[.val (.ref r), .val (.int (3 : Int32)), .val (.int (4 : Int32)), .val (.ref t), .val (.int ev), .val (.int iv), .unset, .unset] [])) τ → PS τ := by have hq := pre824; rw [hn] at hq; exact hq
  have pre826 := fun (τ : State) kt => pre825 τ (by
    show Steps p.tables e below (s₁.setTop (mkF m 0 #[.val (.ref r), .val (.int (3 : Int32)), .val (.int (4 : Int32)), .val (.ref t), .val (.int ev), .val (.int iv), .unset, .unset] [])) τ
    refine XS.iloadN X0.here hx rfl (Jvm.hb hby d4_0) rfl ?_
    refine XS.iloadN X0.here hx rfl (Jvm.hb hby d4_1) rfl ?_
    refine XS.icmpYes X0.here hx rfl (pc0 := 2) (pc' := 7) rfl (Jvm.hb hby d4_2) rfl (tlt (by decide)).1 (by decide) (by decide) ?_
    refine XS.iload X0.here hx rfl (Jvm.hb hby d4_7) rfl ?_
    exact kt)
  by_cases qi : iv = (0 : Int32)
  · skip
    obtain ⟨cl827, Ar827, q827, S827, M827, H827, U827⟩ := id VT
    have in827 : ¬ ((3 : Int32) < 0 ∨ cl827.slots.size ≤ ((3 : Int32)).toNatClampNeg) := inb_of S827 ⟨by decide, by decide⟩
    obtain ⟨cl828, Ar828, q828, S828, M828, H828, U828⟩ := id VT
    have in828 : ¬ ((1 : Int32) < 0 ∨ cl828.slots.size ≤ ((1 : Int32)).toNatClampNeg) := inb_of S828 ⟨by decide, by decide⟩
    have pre829 := fun (τ : State) kt => pre826 τ (by
      show Steps p.tables e below (s₁.setTop (mkF m 9 #[.val (.ref r), .val (.int (3 : Int32)), .val (.int (4 : Int32)), .val (.ref t), .val (.int ev), .val (.int iv), .unset, .unset] [(.int iv)])) τ
      refine XS.ifYes X0.here hx rfl (pc0 := 9) (pc' := 20) rfl (Jvm.hb hby d4_9) rfl ((if0 _ _).trans (teq qi).1) (by decide) (by decide) ?_
      refine XS.aloadN X0.here hx rfl (Jvm.hb hby d4_20) rfl rfl ?_
      refine XS.iloadN X0.here hx rfl (Jvm.hb hby d4_21) rfl ?_
      refine X0.iaload hx ((congrArg (fun (HH : Heap) => HH[t]?) (e0 : s₁.heap = h0)).trans Ar827.1) (State.isArrayOf_alike hZ.alike Ar827.2.1) Ar827.2.2 in827 (H827.at in827 rfl) (g := (mkF m 22 #[.val (.ref r), .val (.int (3 : Int32)), .val (.int (4 : Int32)), .val (.ref t), .val (.int ev), .val (.int iv), .unset, .unset] [(.int (3 : Int32)), (.ref t)])) rfl rfl (Jvm.hb hby d4_22) _ ?_
      refine XS.iload X0.here hx rfl (Jvm.hb hby d4_23) rfl ?_
      refine XS.iadd X0.here hx rfl (Jvm.hb hby d4_25) rfl ?_
      refine XS.istore X0.here hx rfl (Jvm.hb hby d4_26) rfl (l' := #[.val (.ref r), .val (.int (3 : Int32)), .val (.int (4 : Int32)), .val (.ref t), .val (.int ev), .val (.int iv), .unset, .val (.int (t3 + ev))]) rfl ?_
      refine XS.iconst X0.here hx rfl (Jvm.hb hby d4_28) ?_
      refine XS.istore X0.here hx rfl (Jvm.hb hby d4_29) rfl (l' := #[.val (.ref r), .val (.int (3 : Int32)), .val (.int (4 : Int32)), .val (.ref t), .val (.int ev), .val (.int iv), .val (.int (0 : Int32)), .val (.int (t3 + ev))]) rfl ?_
      refine XS.iloadN X0.here hx rfl (Jvm.hb hby d4_31) rfl ?_
      refine XS.iconst X0.here hx rfl (Jvm.hb hby d4_32) ?_
      refine XS.icmpNo X0.here hx rfl (Jvm.hb hby d4_33) rfl (tlt (by decide)).2.2.2 ?_
      refine XS.aloadN X0.here hx rfl (Jvm.hb hby d4_36) rfl rfl ?_
      refine XS.iconst X0.here hx rfl (Jvm.hb hby d4_37) ?_
      refine X0.iaload hx ((congrArg (fun (HH : Heap) => HH[t]?) (e0 : s₁.heap = h0)).trans Ar828.1) (State.isArrayOf_alike hZ.alike Ar828.2.1) Ar828.2.2 in828 (H828.at in828 rfl) (g := (mkF m 38 #[.val (.ref r), .val (.int (3 : Int32)), .val (.int (4 : Int32)), .val (.ref t), .val (.int ev), .val (.int iv), .val (.int (0 : Int32)), .val (.int (t3 + ev))] [(.int (1 : Int32)), (.ref t)])) rfl rfl (Jvm.hb hby d4_38) _ ?_
      refine XS.iload X0.here hx rfl (Jvm.hb hby d4_39) rfl ?_
      exact kt)
    by_cases q1 : (t3 + ev) < t1
    · skip
      obtain ⟨cl830, Ar830, q830, S830, M830, H830, U830⟩ := id VT
      have in830 : ¬ ((2 : Int32) < 0 ∨ cl830.slots.size ≤ ((2 : Int32)).toNatClampNeg) := inb_of S830 ⟨by decide, by decide⟩
      have pre831 := fun (τ : State) kt => pre829 τ (by
        show Steps p.tables e below (s₁.setTop (mkF m 41 #[.val (.ref r), .val (.int (3 : Int32)), .val (.int (4 : Int32)), .val (.ref t), .val (.int ev), .val (.int iv), .val (.int (0 : Int32)), .val (.int (t3 + ev))] [(.int (t3 + ev)), (.int t1)])) τ
        refine XS.icmpYes X0.here hx rfl (pc0 := 41) (pc' := 50) rfl (Jvm.hb hby d4_41) rfl (tlt q1).2.2.1 (by decide) (by decide) ?_
        refine XS.iloadN X0.here hx rfl (Jvm.hb hby d4_50) rfl ?_
        refine XS.iconst X0.here hx rfl (Jvm.hb hby d4_51) ?_
        refine XS.icmpNo X0.here hx rfl (Jvm.hb hby d4_52) rfl (tlt (by decide)).2.2.2 ?_
        refine XS.aloadN X0.here hx rfl (Jvm.hb hby d4_55) rfl rfl ?_
        refine XS.iconst X0.here hx rfl (Jvm.hb hby d4_56) ?_
        refine X0.iaload hx ((congrArg (fun (HH : Heap) => HH[t]?) (e0 : s₁.heap = h0)).trans Ar830.1) (State.isArrayOf_alike hZ.alike Ar830.2.1) Ar830.2.2 in830 (H830.at in830 rfl) (g := (mkF m 57 #[.val (.ref r), .val (.int (3 : Int32)), .val (.int (4 : Int32)), .val (.ref t), .val (.int ev), .val (.int iv), .val (.int (0 : Int32)), .val (.int (t3 + ev))] [(.int (2 : Int32)), (.ref t)])) rfl rfl (Jvm.hb hby d4_57) _ ?_
        refine XS.iload X0.here hx rfl (Jvm.hb hby d4_58) rfl ?_
        exact kt)
      by_cases q2 : (t3 + ev) < t2
      · skip
        obtain ⟨cl832, Ar832, q832, S832, M832, H832, U832⟩ := id VT
        have in832 : ¬ ((3 : Int32) < 0 ∨ cl832.slots.size ≤ ((3 : Int32)).toNatClampNeg) := inb_of S832 ⟨by decide, by decide⟩
        have pre833 := fun (τ : State) kt => pre831 τ (by
          show Steps p.tables e below (s₁.setTop (mkF m 60 #[.val (.ref r), .val (.int (3 : Int32)), .val (.int (4 : Int32)), .val (.ref t), .val (.int ev), .val (.int iv), .val (.int (0 : Int32)), .val (.int (t3 + ev))] [(.int (t3 + ev)), (.int t2)])) τ
          refine XS.icmpYes X0.here hx rfl (pc0 := 60) (pc' := 69) rfl (Jvm.hb hby d4_60) rfl (tlt q2).2.2.1 (by decide) (by decide) ?_
          refine XS.iloadN X0.here hx rfl (Jvm.hb hby d4_69) rfl ?_
          refine XS.iconst X0.here hx rfl (Jvm.hb hby d4_70) ?_
          refine XS.icmpNo X0.here hx rfl (Jvm.hb hby d4_71) rfl (tlt (by decide)).2.2.2 ?_
          refine XS.aloadN X0.here hx rfl (Jvm.hb hby d4_74) rfl rfl ?_
          refine XS.iconst X0.here hx rfl (Jvm.hb hby d4_75) ?_
          refine X0.iaload hx ((congrArg (fun (HH : Heap) => HH[t]?) (e0 : s₁.heap = h0)).trans Ar832.1) (State.isArrayOf_alike hZ.alike Ar832.2.1) Ar832.2.2 in832 (H832.at in832 rfl) (g := (mkF m 76 #[.val (.ref r), .val (.int (3 : Int32)), .val (.int (4 : Int32)), .val (.ref t), .val (.int ev), .val (.int iv), .val (.int (0 : Int32)), .val (.int (t3 + ev))] [(.int (3 : Int32)), (.ref t)])) rfl rfl (Jvm.hb hby d4_76) _ ?_
          refine XS.iload X0.here hx rfl (Jvm.hb hby d4_77) rfl ?_
          exact kt)
        by_cases q3 : (t3 + ev) < t3
        · skip
          obtain ⟨cl834, Ar834, q834, S834, M834, H834, U834⟩ := id VR
          have in834 : ¬ ((3 : Int32) < 0 ∨ cl834.slots.size ≤ ((3 : Int32)).toNatClampNeg) := inb_of S834 ⟨by decide, by decide⟩
          have hz : lx3 = (0 : Int32) := (Int32.toInt_inj.mp (by rw [show (0 : Int32).toInt = 0 by decide]; have b0 := w0.1; have b1 := (w0.2.2.2.2.1 (by decide) qi).mp q1; have b2 := (w0.2.2.2.2.2.1 (by decide) qi).mp q2; have b3 := (w0.2.2.2.2.2.2 (by decide) qi).mp q3; omega))
          have pre835 := fun (τ : State) kt => pre833 τ (by
            show Steps p.tables e below (s₁.setTop (mkF m 79 #[.val (.ref r), .val (.int (3 : Int32)), .val (.int (4 : Int32)), .val (.ref t), .val (.int ev), .val (.int iv), .val (.int (0 : Int32)), .val (.int (t3 + ev))] [(.int (t3 + ev)), (.int t3)])) τ
            refine XS.icmpYes X0.here hx rfl (pc0 := 79) (pc' := 88) rfl (Jvm.hb hby d4_79) rfl (tlt q3).2.2.1 (by decide) (by decide) ?_
            refine XS.aloadN X0.here hx rfl (Jvm.hb hby d4_88) rfl rfl ?_
            refine XS.iloadN X0.here hx rfl (Jvm.hb hby d4_89) rfl ?_
            refine X0.iaload hx ((congrArg (fun (HH : Heap) => HH[r]?) (e0 : s₁.heap = h0)).trans Ar834.1) (State.isArrayOf_alike hZ.alike Ar834.2.1) Ar834.2.2 in834 (H834.at in834 rfl) (g := (mkF m 90 #[.val (.ref r), .val (.int (3 : Int32)), .val (.int (4 : Int32)), .val (.ref t), .val (.int ev), .val (.int iv), .val (.int (0 : Int32)), .val (.int (t3 + ev))] [(.int (3 : Int32)), (.ref r)])) rfl rfl (Jvm.hb hby d4_90) _ ?_
            refine XS.iload X0.here hx rfl (Jvm.hb hby d4_91) rfl ?_
            refine XS.icmpNo X0.here hx rfl (Jvm.hb hby d4_93) rfl (teq hz).2 ?_
            refine XS.iconst X0.here hx rfl (Jvm.hb hby d4_96) ?_
            refine XS.goto X0.here hx rfl (pc0 := 97) (pc' := 101) rfl (Jvm.hb hby d4_97) (by decide) (by decide) ?_
            exact kt)
          obtain ⟨fs, hrL, hrun, hended, hW, hsame⟩ := X0.leave (v := some (.int (1 : Int32))) (fun h => by rw [Bd.returns] at h; cases h)
          refine ⟨_, _, cast (congrFun hPS _) (pre835 _ ?_), hrun, hended, _, _, rfl, ?_, ⟨_, rfl⟩, hW, hsame.mono (by decide) (by decide)⟩
          · show Steps p.tables e below (s₁.setTop (mkF m 101 #[.val (.ref r), .val (.int (3 : Int32)), .val (.int (4 : Int32)), .val (.ref t), .val (.int ev), .val (.int iv), .val (.int (0 : Int32)), .val (.int (t3 + ev))] [(.int (1 : Int32))])) _
            exact retN X0 hx (t := .boolean) Bd.returns (by simp) (Jvm.hb hby d4_101) hrL
          · show QZ h0 n0 _ s₁.heap _
            rw [e0]
            exact ⟨rfl, N0, rfl⟩
        · skip
          obtain ⟨cl836, Ar836, q836, S836, M836, H836, U836⟩ := id VR
          have in836 : ¬ ((3 : Int32) < 0 ∨ cl836.slots.size ≤ ((3 : Int32)).toNatClampNeg) := inb_of S836 ⟨by decide, by decide⟩
          have hz : lx3 = (1 : Int32) := (Int32.toInt_inj.mp (by rw [show (1 : Int32).toInt = 1 by decide]; have b0 := w0.1; have b1 := (w0.2.2.2.2.1 (by decide) qi).mp q1; have b2 := (w0.2.2.2.2.2.1 (by decide) qi).mp q2; have b3 := Int.not_lt.mp (fun z => q3 ((w0.2.2.2.2.2.2 (by decide) qi).mpr z)); omega))
          have pre837 := fun (τ : State) kt => pre833 τ (by
            show Steps p.tables e below (s₁.setTop (mkF m 79 #[.val (.ref r), .val (.int (3 : Int32)), .val (.int (4 : Int32)), .val (.ref t), .val (.int ev), .val (.int iv), .val (.int (0 : Int32)), .val (.int (t3 + ev))] [(.int (t3 + ev)), (.int t3)])) τ
            refine XS.icmpNo X0.here hx rfl (Jvm.hb hby d4_79) rfl (flt q3).2.2.1 ?_
            refine XS.iload X0.here hx rfl (Jvm.hb hby d4_82) rfl ?_
            refine XS.iconst X0.here hx rfl (Jvm.hb hby d4_84) ?_
            refine XS.iadd X0.here hx rfl (Jvm.hb hby d4_85) rfl ?_
            refine XS.istore X0.here hx rfl (Jvm.hb hby d4_86) rfl (l' := #[.val (.ref r), .val (.int (3 : Int32)), .val (.int (4 : Int32)), .val (.ref t), .val (.int ev), .val (.int iv), .val (.int (1 : Int32)), .val (.int (t3 + ev))]) rfl ?_
            refine XS.aloadN X0.here hx rfl (Jvm.hb hby d4_88) rfl rfl ?_
            refine XS.iloadN X0.here hx rfl (Jvm.hb hby d4_89) rfl ?_
            refine X0.iaload hx ((congrArg (fun (HH : Heap) => HH[r]?) (e0 : s₁.heap = h0)).trans Ar836.1) (State.isArrayOf_alike hZ.alike Ar836.2.1) Ar836.2.2 in836 (H836.at in836 rfl) (g := (mkF m 90 #[.val (.ref r), .val (.int (3 : Int32)), .val (.int (4 : Int32)), .val (.ref t), .val (.int ev), .val (.int iv), .val (.int (1 : Int32)), .val (.int (t3 + ev))] [(.int (3 : Int32)), (.ref r)])) rfl rfl (Jvm.hb hby d4_90) _ ?_
            refine XS.iload X0.here hx rfl (Jvm.hb hby d4_91) rfl ?_
            refine XS.icmpNo X0.here hx rfl (Jvm.hb hby d4_93) rfl (teq hz).2 ?_
            refine XS.iconst X0.here hx rfl (Jvm.hb hby d4_96) ?_
            refine XS.goto X0.here hx rfl (pc0 := 97) (pc' := 101) rfl (Jvm.hb hby d4_97) (by decide) (by decide) ?_
            exact kt)
          obtain ⟨fs, hrL, hrun, hended, hW, hsame⟩ := X0.leave (v := some (.int (1 : Int32))) (fun h => by rw [Bd.returns] at h; cases h)
          refine ⟨_, _, cast (congrFun hPS _) (pre837 _ ?_), hrun, hended, _, _, rfl, ?_, ⟨_, rfl⟩, hW, hsame.mono (by decide) (by decide)⟩
          · show Steps p.tables e below (s₁.setTop (mkF m 101 #[.val (.ref r), .val (.int (3 : Int32)), .val (.int (4 : Int32)), .val (.ref t), .val (.int ev), .val (.int iv), .val (.int (1 : Int32)), .val (.int (t3 + ev))] [(.int (1 : Int32))])) _
            exact retN X0 hx (t := .boolean) Bd.returns (by simp) (Jvm.hb hby d4_101) hrL
          · show QZ h0 n0 _ s₁.heap _
            rw [e0]
            exact ⟨rfl, N0, rfl⟩
      · skip
        obtain ⟨cl838, Ar838, q838, S838, M838, H838, U838⟩ := id VT
        have in838 : ¬ ((3 : Int32) < 0 ∨ cl838.slots.size ≤ ((3 : Int32)).toNatClampNeg) := inb_of S838 ⟨by decide, by decide⟩
        have pre839 := fun (τ : State) kt => pre831 τ (by
          show Steps p.tables e below (s₁.setTop (mkF m 60 #[.val (.ref r), .val (.int (3 : Int32)), .val (.int (4 : Int32)), .val (.ref t), .val (.int ev), .val (.int iv), .val (.int (0 : Int32)), .val (.int (t3 + ev))] [(.int (t3 + ev)), (.int t2)])) τ
          refine XS.icmpNo X0.here hx rfl (Jvm.hb hby d4_60) rfl (flt q2).2.2.1 ?_
          refine XS.iload X0.here hx rfl (Jvm.hb hby d4_63) rfl ?_
          refine XS.iconst X0.here hx rfl (Jvm.hb hby d4_65) ?_
          refine XS.iadd X0.here hx rfl (Jvm.hb hby d4_66) rfl ?_
          refine XS.istore X0.here hx rfl (Jvm.hb hby d4_67) rfl (l' := #[.val (.ref r), .val (.int (3 : Int32)), .val (.int (4 : Int32)), .val (.ref t), .val (.int ev), .val (.int iv), .val (.int (1 : Int32)), .val (.int (t3 + ev))]) rfl ?_
          refine XS.iloadN X0.here hx rfl (Jvm.hb hby d4_69) rfl ?_
          refine XS.iconst X0.here hx rfl (Jvm.hb hby d4_70) ?_
          refine XS.icmpNo X0.here hx rfl (Jvm.hb hby d4_71) rfl (tlt (by decide)).2.2.2 ?_
          refine XS.aloadN X0.here hx rfl (Jvm.hb hby d4_74) rfl rfl ?_
          refine XS.iconst X0.here hx rfl (Jvm.hb hby d4_75) ?_
          refine X0.iaload hx ((congrArg (fun (HH : Heap) => HH[t]?) (e0 : s₁.heap = h0)).trans Ar838.1) (State.isArrayOf_alike hZ.alike Ar838.2.1) Ar838.2.2 in838 (H838.at in838 rfl) (g := (mkF m 76 #[.val (.ref r), .val (.int (3 : Int32)), .val (.int (4 : Int32)), .val (.ref t), .val (.int ev), .val (.int iv), .val (.int (1 : Int32)), .val (.int (t3 + ev))] [(.int (3 : Int32)), (.ref t)])) rfl rfl (Jvm.hb hby d4_76) _ ?_
          refine XS.iload X0.here hx rfl (Jvm.hb hby d4_77) rfl ?_
          exact kt)
        by_cases q3 : (t3 + ev) < t3
        · skip
          obtain ⟨cl840, Ar840, q840, S840, M840, H840, U840⟩ := id VR
          have in840 : ¬ ((3 : Int32) < 0 ∨ cl840.slots.size ≤ ((3 : Int32)).toNatClampNeg) := inb_of S840 ⟨by decide, by decide⟩
          have hz : lx3 = (1 : Int32) := (Int32.toInt_inj.mp (by rw [show (1 : Int32).toInt = 1 by decide]; have b0 := w0.1; have b1 := (w0.2.2.2.2.1 (by decide) qi).mp q1; have b2 := Int.not_lt.mp (fun z => q2 ((w0.2.2.2.2.2.1 (by decide) qi).mpr z)); have b3 := (w0.2.2.2.2.2.2 (by decide) qi).mp q3; omega))
          have pre841 := fun (τ : State) kt => pre839 τ (by
            show Steps p.tables e below (s₁.setTop (mkF m 79 #[.val (.ref r), .val (.int (3 : Int32)), .val (.int (4 : Int32)), .val (.ref t), .val (.int ev), .val (.int iv), .val (.int (1 : Int32)), .val (.int (t3 + ev))] [(.int (t3 + ev)), (.int t3)])) τ
            refine XS.icmpYes X0.here hx rfl (pc0 := 79) (pc' := 88) rfl (Jvm.hb hby d4_79) rfl (tlt q3).2.2.1 (by decide) (by decide) ?_
            refine XS.aloadN X0.here hx rfl (Jvm.hb hby d4_88) rfl rfl ?_
            refine XS.iloadN X0.here hx rfl (Jvm.hb hby d4_89) rfl ?_
            refine X0.iaload hx ((congrArg (fun (HH : Heap) => HH[r]?) (e0 : s₁.heap = h0)).trans Ar840.1) (State.isArrayOf_alike hZ.alike Ar840.2.1) Ar840.2.2 in840 (H840.at in840 rfl) (g := (mkF m 90 #[.val (.ref r), .val (.int (3 : Int32)), .val (.int (4 : Int32)), .val (.ref t), .val (.int ev), .val (.int iv), .val (.int (1 : Int32)), .val (.int (t3 + ev))] [(.int (3 : Int32)), (.ref r)])) rfl rfl (Jvm.hb hby d4_90) _ ?_
            refine XS.iload X0.here hx rfl (Jvm.hb hby d4_91) rfl ?_
            refine XS.icmpNo X0.here hx rfl (Jvm.hb hby d4_93) rfl (teq hz).2 ?_
            refine XS.iconst X0.here hx rfl (Jvm.hb hby d4_96) ?_
            refine XS.goto X0.here hx rfl (pc0 := 97) (pc' := 101) rfl (Jvm.hb hby d4_97) (by decide) (by decide) ?_
            exact kt)
          obtain ⟨fs, hrL, hrun, hended, hW, hsame⟩ := X0.leave (v := some (.int (1 : Int32))) (fun h => by rw [Bd.returns] at h; cases h)
          refine ⟨_, _, cast (congrFun hPS _) (pre841 _ ?_), hrun, hended, _, _, rfl, ?_, ⟨_, rfl⟩, hW, hsame.mono (by decide) (by decide)⟩
          · show Steps p.tables e below (s₁.setTop (mkF m 101 #[.val (.ref r), .val (.int (3 : Int32)), .val (.int (4 : Int32)), .val (.ref t), .val (.int ev), .val (.int iv), .val (.int (1 : Int32)), .val (.int (t3 + ev))] [(.int (1 : Int32))])) _
            exact retN X0 hx (t := .boolean) Bd.returns (by simp) (Jvm.hb hby d4_101) hrL
          · show QZ h0 n0 _ s₁.heap _
            rw [e0]
            exact ⟨rfl, N0, rfl⟩
        · skip
          obtain ⟨cl842, Ar842, q842, S842, M842, H842, U842⟩ := id VR
          have in842 : ¬ ((3 : Int32) < 0 ∨ cl842.slots.size ≤ ((3 : Int32)).toNatClampNeg) := inb_of S842 ⟨by decide, by decide⟩
          have hz : lx3 = (2 : Int32) := (Int32.toInt_inj.mp (by rw [show (2 : Int32).toInt = 2 by decide]; have b0 := w0.1; have b1 := (w0.2.2.2.2.1 (by decide) qi).mp q1; have b2 := Int.not_lt.mp (fun z => q2 ((w0.2.2.2.2.2.1 (by decide) qi).mpr z)); have b3 := Int.not_lt.mp (fun z => q3 ((w0.2.2.2.2.2.2 (by decide) qi).mpr z)); omega))
          have pre843 := fun (τ : State) kt => pre839 τ (by
            show Steps p.tables e below (s₁.setTop (mkF m 79 #[.val (.ref r), .val (.int (3 : Int32)), .val (.int (4 : Int32)), .val (.ref t), .val (.int ev), .val (.int iv), .val (.int (1 : Int32)), .val (.int (t3 + ev))] [(.int (t3 + ev)), (.int t3)])) τ
            refine XS.icmpNo X0.here hx rfl (Jvm.hb hby d4_79) rfl (flt q3).2.2.1 ?_
            refine XS.iload X0.here hx rfl (Jvm.hb hby d4_82) rfl ?_
            refine XS.iconst X0.here hx rfl (Jvm.hb hby d4_84) ?_
            refine XS.iadd X0.here hx rfl (Jvm.hb hby d4_85) rfl ?_
            refine XS.istore X0.here hx rfl (Jvm.hb hby d4_86) rfl (l' := #[.val (.ref r), .val (.int (3 : Int32)), .val (.int (4 : Int32)), .val (.ref t), .val (.int ev), .val (.int iv), .val (.int (2 : Int32)), .val (.int (t3 + ev))]) rfl ?_
            refine XS.aloadN X0.here hx rfl (Jvm.hb hby d4_88) rfl rfl ?_
            refine XS.iloadN X0.here hx rfl (Jvm.hb hby d4_89) rfl ?_
            refine X0.iaload hx ((congrArg (fun (HH : Heap) => HH[r]?) (e0 : s₁.heap = h0)).trans Ar842.1) (State.isArrayOf_alike hZ.alike Ar842.2.1) Ar842.2.2 in842 (H842.at in842 rfl) (g := (mkF m 90 #[.val (.ref r), .val (.int (3 : Int32)), .val (.int (4 : Int32)), .val (.ref t), .val (.int ev), .val (.int iv), .val (.int (2 : Int32)), .val (.int (t3 + ev))] [(.int (3 : Int32)), (.ref r)])) rfl rfl (Jvm.hb hby d4_90) _ ?_
            refine XS.iload X0.here hx rfl (Jvm.hb hby d4_91) rfl ?_
            refine XS.icmpNo X0.here hx rfl (Jvm.hb hby d4_93) rfl (teq hz).2 ?_
            refine XS.iconst X0.here hx rfl (Jvm.hb hby d4_96) ?_
            refine XS.goto X0.here hx rfl (pc0 := 97) (pc' := 101) rfl (Jvm.hb hby d4_97) (by decide) (by decide) ?_
            exact kt)
          obtain ⟨fs, hrL, hrun, hended, hW, hsame⟩ := X0.leave (v := some (.int (1 : Int32))) (fun h => by rw [Bd.returns] at h; cases h)
          refine ⟨_, _, cast (congrFun hPS _) (pre843 _ ?_), hrun, hended, _, _, rfl, ?_, ⟨_, rfl⟩, hW, hsame.mono (by decide) (by decide)⟩
          · show Steps p.tables e below (s₁.setTop (mkF m 101 #[.val (.ref r), .val (.int (3 : Int32)), .val (.int (4 : Int32)), .val (.ref t), .val (.int ev), .val (.int iv), .val (.int (2 : Int32)), .val (.int (t3 + ev))] [(.int (1 : Int32))])) _
            exact retN X0 hx (t := .boolean) Bd.returns (by simp) (Jvm.hb hby d4_101) hrL
          · show QZ h0 n0 _ s₁.heap _
            rw [e0]
            exact ⟨rfl, N0, rfl⟩
    · skip
      obtain ⟨cl844, Ar844, q844, S844, M844, H844, U844⟩ := id VT
      have in844 : ¬ ((2 : Int32) < 0 ∨ cl844.slots.size ≤ ((2 : Int32)).toNatClampNeg) := inb_of S844 ⟨by decide, by decide⟩
      have pre845 := fun (τ : State) kt => pre829 τ (by
        show Steps p.tables e below (s₁.setTop (mkF m 41 #[.val (.ref r), .val (.int (3 : Int32)), .val (.int (4 : Int32)), .val (.ref t), .val (.int ev), .val (.int iv), .val (.int (0 : Int32)), .val (.int (t3 + ev))] [(.int (t3 + ev)), (.int t1)])) τ
        refine XS.icmpNo X0.here hx rfl (Jvm.hb hby d4_41) rfl (flt q1).2.2.1 ?_
        refine XS.iload X0.here hx rfl (Jvm.hb hby d4_44) rfl ?_
        refine XS.iconst X0.here hx rfl (Jvm.hb hby d4_46) ?_
        refine XS.iadd X0.here hx rfl (Jvm.hb hby d4_47) rfl ?_
        refine XS.istore X0.here hx rfl (Jvm.hb hby d4_48) rfl (l' := #[.val (.ref r), .val (.int (3 : Int32)), .val (.int (4 : Int32)), .val (.ref t), .val (.int ev), .val (.int iv), .val (.int (1 : Int32)), .val (.int (t3 + ev))]) rfl ?_
        refine XS.iloadN X0.here hx rfl (Jvm.hb hby d4_50) rfl ?_
        refine XS.iconst X0.here hx rfl (Jvm.hb hby d4_51) ?_
        refine XS.icmpNo X0.here hx rfl (Jvm.hb hby d4_52) rfl (tlt (by decide)).2.2.2 ?_
        refine XS.aloadN X0.here hx rfl (Jvm.hb hby d4_55) rfl rfl ?_
        refine XS.iconst X0.here hx rfl (Jvm.hb hby d4_56) ?_
        refine X0.iaload hx ((congrArg (fun (HH : Heap) => HH[t]?) (e0 : s₁.heap = h0)).trans Ar844.1) (State.isArrayOf_alike hZ.alike Ar844.2.1) Ar844.2.2 in844 (H844.at in844 rfl) (g := (mkF m 57 #[.val (.ref r), .val (.int (3 : Int32)), .val (.int (4 : Int32)), .val (.ref t), .val (.int ev), .val (.int iv), .val (.int (1 : Int32)), .val (.int (t3 + ev))] [(.int (2 : Int32)), (.ref t)])) rfl rfl (Jvm.hb hby d4_57) _ ?_
        refine XS.iload X0.here hx rfl (Jvm.hb hby d4_58) rfl ?_
        exact kt)
      by_cases q2 : (t3 + ev) < t2
      · skip
        obtain ⟨cl846, Ar846, q846, S846, M846, H846, U846⟩ := id VT
        have in846 : ¬ ((3 : Int32) < 0 ∨ cl846.slots.size ≤ ((3 : Int32)).toNatClampNeg) := inb_of S846 ⟨by decide, by decide⟩
        have pre847 := fun (τ : State) kt => pre845 τ (by
          show Steps p.tables e below (s₁.setTop (mkF m 60 #[.val (.ref r), .val (.int (3 : Int32)), .val (.int (4 : Int32)), .val (.ref t), .val (.int ev), .val (.int iv), .val (.int (1 : Int32)), .val (.int (t3 + ev))] [(.int (t3 + ev)), (.int t2)])) τ
          refine XS.icmpYes X0.here hx rfl (pc0 := 60) (pc' := 69) rfl (Jvm.hb hby d4_60) rfl (tlt q2).2.2.1 (by decide) (by decide) ?_
          refine XS.iloadN X0.here hx rfl (Jvm.hb hby d4_69) rfl ?_
          refine XS.iconst X0.here hx rfl (Jvm.hb hby d4_70) ?_
          refine XS.icmpNo X0.here hx rfl (Jvm.hb hby d4_71) rfl (tlt (by decide)).2.2.2 ?_
          refine XS.aloadN X0.here hx rfl (Jvm.hb hby d4_74) rfl rfl ?_
          refine XS.iconst X0.here hx rfl (Jvm.hb hby d4_75) ?_
          refine X0.iaload hx ((congrArg (fun (HH : Heap) => HH[t]?) (e0 : s₁.heap = h0)).trans Ar846.1) (State.isArrayOf_alike hZ.alike Ar846.2.1) Ar846.2.2 in846 (H846.at in846 rfl) (g := (mkF m 76 #[.val (.ref r), .val (.int (3 : Int32)), .val (.int (4 : Int32)), .val (.ref t), .val (.int ev), .val (.int iv), .val (.int (1 : Int32)), .val (.int (t3 + ev))] [(.int (3 : Int32)), (.ref t)])) rfl rfl (Jvm.hb hby d4_76) _ ?_
          refine XS.iload X0.here hx rfl (Jvm.hb hby d4_77) rfl ?_
          exact kt)
        by_cases q3 : (t3 + ev) < t3
        · skip
          obtain ⟨cl848, Ar848, q848, S848, M848, H848, U848⟩ := id VR
          have in848 : ¬ ((3 : Int32) < 0 ∨ cl848.slots.size ≤ ((3 : Int32)).toNatClampNeg) := inb_of S848 ⟨by decide, by decide⟩
          have hz : lx3 = (1 : Int32) := (Int32.toInt_inj.mp (by rw [show (1 : Int32).toInt = 1 by decide]; have b0 := w0.1; have b1 := Int.not_lt.mp (fun z => q1 ((w0.2.2.2.2.1 (by decide) qi).mpr z)); have b2 := (w0.2.2.2.2.2.1 (by decide) qi).mp q2; have b3 := (w0.2.2.2.2.2.2 (by decide) qi).mp q3; omega))
          have pre849 := fun (τ : State) kt => pre847 τ (by
            show Steps p.tables e below (s₁.setTop (mkF m 79 #[.val (.ref r), .val (.int (3 : Int32)), .val (.int (4 : Int32)), .val (.ref t), .val (.int ev), .val (.int iv), .val (.int (1 : Int32)), .val (.int (t3 + ev))] [(.int (t3 + ev)), (.int t3)])) τ
            refine XS.icmpYes X0.here hx rfl (pc0 := 79) (pc' := 88) rfl (Jvm.hb hby d4_79) rfl (tlt q3).2.2.1 (by decide) (by decide) ?_
            refine XS.aloadN X0.here hx rfl (Jvm.hb hby d4_88) rfl rfl ?_
            refine XS.iloadN X0.here hx rfl (Jvm.hb hby d4_89) rfl ?_
            refine X0.iaload hx ((congrArg (fun (HH : Heap) => HH[r]?) (e0 : s₁.heap = h0)).trans Ar848.1) (State.isArrayOf_alike hZ.alike Ar848.2.1) Ar848.2.2 in848 (H848.at in848 rfl) (g := (mkF m 90 #[.val (.ref r), .val (.int (3 : Int32)), .val (.int (4 : Int32)), .val (.ref t), .val (.int ev), .val (.int iv), .val (.int (1 : Int32)), .val (.int (t3 + ev))] [(.int (3 : Int32)), (.ref r)])) rfl rfl (Jvm.hb hby d4_90) _ ?_
            refine XS.iload X0.here hx rfl (Jvm.hb hby d4_91) rfl ?_
            refine XS.icmpNo X0.here hx rfl (Jvm.hb hby d4_93) rfl (teq hz).2 ?_
            refine XS.iconst X0.here hx rfl (Jvm.hb hby d4_96) ?_
            refine XS.goto X0.here hx rfl (pc0 := 97) (pc' := 101) rfl (Jvm.hb hby d4_97) (by decide) (by decide) ?_
            exact kt)
          obtain ⟨fs, hrL, hrun, hended, hW, hsame⟩ := X0.leave (v := some (.int (1 : Int32))) (fun h => by rw [Bd.returns] at h; cases h)
          refine ⟨_, _, cast (congrFun hPS _) (pre849 _ ?_), hrun, hended, _, _, rfl, ?_, ⟨_, rfl⟩, hW, hsame.mono (by decide) (by decide)⟩
          · show Steps p.tables e below (s₁.setTop (mkF m 101 #[.val (.ref r), .val (.int (3 : Int32)), .val (.int (4 : Int32)), .val (.ref t), .val (.int ev), .val (.int iv), .val (.int (1 : Int32)), .val (.int (t3 + ev))] [(.int (1 : Int32))])) _
            exact retN X0 hx (t := .boolean) Bd.returns (by simp) (Jvm.hb hby d4_101) hrL
          · show QZ h0 n0 _ s₁.heap _
            rw [e0]
            exact ⟨rfl, N0, rfl⟩
        · skip
          obtain ⟨cl850, Ar850, q850, S850, M850, H850, U850⟩ := id VR
          have in850 : ¬ ((3 : Int32) < 0 ∨ cl850.slots.size ≤ ((3 : Int32)).toNatClampNeg) := inb_of S850 ⟨by decide, by decide⟩
          have hz : lx3 = (2 : Int32) := (Int32.toInt_inj.mp (by rw [show (2 : Int32).toInt = 2 by decide]; have b0 := w0.1; have b1 := Int.not_lt.mp (fun z => q1 ((w0.2.2.2.2.1 (by decide) qi).mpr z)); have b2 := (w0.2.2.2.2.2.1 (by decide) qi).mp q2; have b3 := Int.not_lt.mp (fun z => q3 ((w0.2.2.2.2.2.2 (by decide) qi).mpr z)); omega))
          have pre851 := fun (τ : State) kt => pre847 τ (by
            show Steps p.tables e below (s₁.setTop (mkF m 79 #[.val (.ref r), .val (.int (3 : Int32)), .val (.int (4 : Int32)), .val (.ref t), .val (.int ev), .val (.int iv), .val (.int (1 : Int32)), .val (.int (t3 + ev))] [(.int (t3 + ev)), (.int t3)])) τ
            refine XS.icmpNo X0.here hx rfl (Jvm.hb hby d4_79) rfl (flt q3).2.2.1 ?_
            refine XS.iload X0.here hx rfl (Jvm.hb hby d4_82) rfl ?_
            refine XS.iconst X0.here hx rfl (Jvm.hb hby d4_84) ?_
            refine XS.iadd X0.here hx rfl (Jvm.hb hby d4_85) rfl ?_
            refine XS.istore X0.here hx rfl (Jvm.hb hby d4_86) rfl (l' := #[.val (.ref r), .val (.int (3 : Int32)), .val (.int (4 : Int32)), .val (.ref t), .val (.int ev), .val (.int iv), .val (.int (2 : Int32)), .val (.int (t3 + ev))]) rfl ?_
            refine XS.aloadN X0.here hx rfl (Jvm.hb hby d4_88) rfl rfl ?_
            refine XS.iloadN X0.here hx rfl (Jvm.hb hby d4_89) rfl ?_
            refine X0.iaload hx ((congrArg (fun (HH : Heap) => HH[r]?) (e0 : s₁.heap = h0)).trans Ar850.1) (State.isArrayOf_alike hZ.alike Ar850.2.1) Ar850.2.2 in850 (H850.at in850 rfl) (g := (mkF m 90 #[.val (.ref r), .val (.int (3 : Int32)), .val (.int (4 : Int32)), .val (.ref t), .val (.int ev), .val (.int iv), .val (.int (2 : Int32)), .val (.int (t3 + ev))] [(.int (3 : Int32)), (.ref r)])) rfl rfl (Jvm.hb hby d4_90) _ ?_
            refine XS.iload X0.here hx rfl (Jvm.hb hby d4_91) rfl ?_
            refine XS.icmpNo X0.here hx rfl (Jvm.hb hby d4_93) rfl (teq hz).2 ?_
            refine XS.iconst X0.here hx rfl (Jvm.hb hby d4_96) ?_
            refine XS.goto X0.here hx rfl (pc0 := 97) (pc' := 101) rfl (Jvm.hb hby d4_97) (by decide) (by decide) ?_
            exact kt)
          obtain ⟨fs, hrL, hrun, hended, hW, hsame⟩ := X0.leave (v := some (.int (1 : Int32))) (fun h => by rw [Bd.returns] at h; cases h)
          refine ⟨_, _, cast (congrFun hPS _) (pre851 _ ?_), hrun, hended, _, _, rfl, ?_, ⟨_, rfl⟩, hW, hsame.mono (by decide) (by decide)⟩
          · show Steps p.tables e below (s₁.setTop (mkF m 101 #[.val (.ref r), .val (.int (3 : Int32)), .val (.int (4 : Int32)), .val (.ref t), .val (.int ev), .val (.int iv), .val (.int (2 : Int32)), .val (.int (t3 + ev))] [(.int (1 : Int32))])) _
            exact retN X0 hx (t := .boolean) Bd.returns (by simp) (Jvm.hb hby d4_101) hrL
          · show QZ h0 n0 _ s₁.heap _
            rw [e0]
            exact ⟨rfl, N0, rfl⟩
      · skip
        obtain ⟨cl852, Ar852, q852, S852, M852, H852, U852⟩ := id VT
        have in852 : ¬ ((3 : Int32) < 0 ∨ cl852.slots.size ≤ ((3 : Int32)).toNatClampNeg) := inb_of S852 ⟨by decide, by decide⟩
        have pre853 := fun (τ : State) kt => pre845 τ (by
          show Steps p.tables e below (s₁.setTop (mkF m 60 #[.val (.ref r), .val (.int (3 : Int32)), .val (.int (4 : Int32)), .val (.ref t), .val (.int ev), .val (.int iv), .val (.int (1 : Int32)), .val (.int (t3 + ev))] [(.int (t3 + ev)), (.int t2)])) τ
          refine XS.icmpNo X0.here hx rfl (Jvm.hb hby d4_60) rfl (flt q2).2.2.1 ?_
          refine XS.iload X0.here hx rfl (Jvm.hb hby d4_63) rfl ?_
          refine XS.iconst X0.here hx rfl (Jvm.hb hby d4_65) ?_
          refine XS.iadd X0.here hx rfl (Jvm.hb hby d4_66) rfl ?_
          refine XS.istore X0.here hx rfl (Jvm.hb hby d4_67) rfl (l' := #[.val (.ref r), .val (.int (3 : Int32)), .val (.int (4 : Int32)), .val (.ref t), .val (.int ev), .val (.int iv), .val (.int (2 : Int32)), .val (.int (t3 + ev))]) rfl ?_
          refine XS.iloadN X0.here hx rfl (Jvm.hb hby d4_69) rfl ?_
          refine XS.iconst X0.here hx rfl (Jvm.hb hby d4_70) ?_
          refine XS.icmpNo X0.here hx rfl (Jvm.hb hby d4_71) rfl (tlt (by decide)).2.2.2 ?_
          refine XS.aloadN X0.here hx rfl (Jvm.hb hby d4_74) rfl rfl ?_
          refine XS.iconst X0.here hx rfl (Jvm.hb hby d4_75) ?_
          refine X0.iaload hx ((congrArg (fun (HH : Heap) => HH[t]?) (e0 : s₁.heap = h0)).trans Ar852.1) (State.isArrayOf_alike hZ.alike Ar852.2.1) Ar852.2.2 in852 (H852.at in852 rfl) (g := (mkF m 76 #[.val (.ref r), .val (.int (3 : Int32)), .val (.int (4 : Int32)), .val (.ref t), .val (.int ev), .val (.int iv), .val (.int (2 : Int32)), .val (.int (t3 + ev))] [(.int (3 : Int32)), (.ref t)])) rfl rfl (Jvm.hb hby d4_76) _ ?_
          refine XS.iload X0.here hx rfl (Jvm.hb hby d4_77) rfl ?_
          exact kt)
        by_cases q3 : (t3 + ev) < t3
        · skip
          obtain ⟨cl854, Ar854, q854, S854, M854, H854, U854⟩ := id VR
          have in854 : ¬ ((3 : Int32) < 0 ∨ cl854.slots.size ≤ ((3 : Int32)).toNatClampNeg) := inb_of S854 ⟨by decide, by decide⟩
          have hz : lx3 = (2 : Int32) := (Int32.toInt_inj.mp (by rw [show (2 : Int32).toInt = 2 by decide]; have b0 := w0.1; have b1 := Int.not_lt.mp (fun z => q1 ((w0.2.2.2.2.1 (by decide) qi).mpr z)); have b2 := Int.not_lt.mp (fun z => q2 ((w0.2.2.2.2.2.1 (by decide) qi).mpr z)); have b3 := (w0.2.2.2.2.2.2 (by decide) qi).mp q3; omega))
          have pre855 := fun (τ : State) kt => pre853 τ (by
            show Steps p.tables e below (s₁.setTop (mkF m 79 #[.val (.ref r), .val (.int (3 : Int32)), .val (.int (4 : Int32)), .val (.ref t), .val (.int ev), .val (.int iv), .val (.int (2 : Int32)), .val (.int (t3 + ev))] [(.int (t3 + ev)), (.int t3)])) τ
            refine XS.icmpYes X0.here hx rfl (pc0 := 79) (pc' := 88) rfl (Jvm.hb hby d4_79) rfl (tlt q3).2.2.1 (by decide) (by decide) ?_
            refine XS.aloadN X0.here hx rfl (Jvm.hb hby d4_88) rfl rfl ?_
            refine XS.iloadN X0.here hx rfl (Jvm.hb hby d4_89) rfl ?_
            refine X0.iaload hx ((congrArg (fun (HH : Heap) => HH[r]?) (e0 : s₁.heap = h0)).trans Ar854.1) (State.isArrayOf_alike hZ.alike Ar854.2.1) Ar854.2.2 in854 (H854.at in854 rfl) (g := (mkF m 90 #[.val (.ref r), .val (.int (3 : Int32)), .val (.int (4 : Int32)), .val (.ref t), .val (.int ev), .val (.int iv), .val (.int (2 : Int32)), .val (.int (t3 + ev))] [(.int (3 : Int32)), (.ref r)])) rfl rfl (Jvm.hb hby d4_90) _ ?_
            refine XS.iload X0.here hx rfl (Jvm.hb hby d4_91) rfl ?_
            refine XS.icmpNo X0.here hx rfl (Jvm.hb hby d4_93) rfl (teq hz).2 ?_
            refine XS.iconst X0.here hx rfl (Jvm.hb hby d4_96) ?_
            refine XS.goto X0.here hx rfl (pc0 := 97) (pc' := 101) rfl (Jvm.hb hby d4_97) (by decide) (by decide) ?_
            exact kt)
          obtain ⟨fs, hrL, hrun, hended, hW, hsame⟩ := X0.leave (v := some (.int (1 : Int32))) (fun h => by rw [Bd.returns] at h; cases h)
          refine ⟨_, _, cast (congrFun hPS _) (pre855 _ ?_), hrun, hended, _, _, rfl, ?_, ⟨_, rfl⟩, hW, hsame.mono (by decide) (by decide)⟩
          · show Steps p.tables e below (s₁.setTop (mkF m 101 #[.val (.ref r), .val (.int (3 : Int32)), .val (.int (4 : Int32)), .val (.ref t), .val (.int ev), .val (.int iv), .val (.int (2 : Int32)), .val (.int (t3 + ev))] [(.int (1 : Int32))])) _
            exact retN X0 hx (t := .boolean) Bd.returns (by simp) (Jvm.hb hby d4_101) hrL
          · show QZ h0 n0 _ s₁.heap _
            rw [e0]
            exact ⟨rfl, N0, rfl⟩
        · skip
          obtain ⟨cl856, Ar856, q856, S856, M856, H856, U856⟩ := id VR
          have in856 : ¬ ((3 : Int32) < 0 ∨ cl856.slots.size ≤ ((3 : Int32)).toNatClampNeg) := inb_of S856 ⟨by decide, by decide⟩
          have hz : lx3 = (3 : Int32) := (Int32.toInt_inj.mp (by rw [show (3 : Int32).toInt = 3 by decide]; have b0 := w0.1; have b1 := Int.not_lt.mp (fun z => q1 ((w0.2.2.2.2.1 (by decide) qi).mpr z)); have b2 := Int.not_lt.mp (fun z => q2 ((w0.2.2.2.2.2.1 (by decide) qi).mpr z)); have b3 := Int.not_lt.mp (fun z => q3 ((w0.2.2.2.2.2.2 (by decide) qi).mpr z)); omega))
          have pre857 := fun (τ : State) kt => pre853 τ (by
            show Steps p.tables e below (s₁.setTop (mkF m 79 #[.val (.ref r), .val (.int (3 : Int32)), .val (.int (4 : Int32)), .val (.ref t), .val (.int ev), .val (.int iv), .val (.int (2 : Int32)), .val (.int (t3 + ev))] [(.int (t3 + ev)), (.int t3)])) τ
            refine XS.icmpNo X0.here hx rfl (Jvm.hb hby d4_79) rfl (flt q3).2.2.1 ?_
            refine XS.iload X0.here hx rfl (Jvm.hb hby d4_82) rfl ?_
            refine XS.iconst X0.here hx rfl (Jvm.hb hby d4_84) ?_
            refine XS.iadd X0.here hx rfl (Jvm.hb hby d4_85) rfl ?_
            refine XS.istore X0.here hx rfl (Jvm.hb hby d4_86) rfl (l' := #[.val (.ref r), .val (.int (3 : Int32)), .val (.int (4 : Int32)), .val (.ref t), .val (.int ev), .val (.int iv), .val (.int (3 : Int32)), .val (.int (t3 + ev))]) rfl ?_
            refine XS.aloadN X0.here hx rfl (Jvm.hb hby d4_88) rfl rfl ?_
            refine XS.iloadN X0.here hx rfl (Jvm.hb hby d4_89) rfl ?_
            refine X0.iaload hx ((congrArg (fun (HH : Heap) => HH[r]?) (e0 : s₁.heap = h0)).trans Ar856.1) (State.isArrayOf_alike hZ.alike Ar856.2.1) Ar856.2.2 in856 (H856.at in856 rfl) (g := (mkF m 90 #[.val (.ref r), .val (.int (3 : Int32)), .val (.int (4 : Int32)), .val (.ref t), .val (.int ev), .val (.int iv), .val (.int (3 : Int32)), .val (.int (t3 + ev))] [(.int (3 : Int32)), (.ref r)])) rfl rfl (Jvm.hb hby d4_90) _ ?_
            refine XS.iload X0.here hx rfl (Jvm.hb hby d4_91) rfl ?_
            refine XS.icmpNo X0.here hx rfl (Jvm.hb hby d4_93) rfl (teq hz).2 ?_
            refine XS.iconst X0.here hx rfl (Jvm.hb hby d4_96) ?_
            refine XS.goto X0.here hx rfl (pc0 := 97) (pc' := 101) rfl (Jvm.hb hby d4_97) (by decide) (by decide) ?_
            exact kt)
          obtain ⟨fs, hrL, hrun, hended, hW, hsame⟩ := X0.leave (v := some (.int (1 : Int32))) (fun h => by rw [Bd.returns] at h; cases h)
          refine ⟨_, _, cast (congrFun hPS _) (pre857 _ ?_), hrun, hended, _, _, rfl, ?_, ⟨_, rfl⟩, hW, hsame.mono (by decide) (by decide)⟩
          · show Steps p.tables e below (s₁.setTop (mkF m 101 #[.val (.ref r), .val (.int (3 : Int32)), .val (.int (4 : Int32)), .val (.ref t), .val (.int ev), .val (.int iv), .val (.int (3 : Int32)), .val (.int (t3 + ev))] [(.int (1 : Int32))])) _
            exact retN X0 hx (t := .boolean) Bd.returns (by simp) (Jvm.hb hby d4_101) hrL
          · show QZ h0 n0 _ s₁.heap _
            rw [e0]
            exact ⟨rfl, N0, rfl⟩
  · skip
    obtain ⟨cl858, Ar858, q858, S858, M858, H858, U858⟩ := id VR
    have in858 : ¬ ((3 : Int32) < 0 ∨ cl858.slots.size ≤ ((3 : Int32)).toNatClampNeg) := inb_of S858 ⟨by decide, by decide⟩
    have hz : lx3 = (3 : Int32) := (Int32.toInt_inj.mp (by rw [w0.2.2.2.1 qi]; decide))
    have pre859 := fun (τ : State) kt => pre826 τ (by
      show Steps p.tables e below (s₁.setTop (mkF m 9 #[.val (.ref r), .val (.int (3 : Int32)), .val (.int (4 : Int32)), .val (.ref t), .val (.int ev), .val (.int iv), .unset, .unset] [(.int iv)])) τ
      refine XS.ifNo X0.here hx rfl (Jvm.hb hby d4_9) rfl ((if0 _ _).trans (feq qi).1) ?_
      refine XS.iloadN X0.here hx rfl (Jvm.hb hby d4_12) rfl ?_
      refine XS.iconst X0.here hx rfl (Jvm.hb hby d4_13) ?_
      refine XS.isub X0.here hx rfl (Jvm.hb hby d4_14) rfl ?_
      refine XS.istore X0.here hx rfl (Jvm.hb hby d4_15) rfl (l' := #[.val (.ref r), .val (.int (3 : Int32)), .val (.int (4 : Int32)), .val (.ref t), .val (.int ev), .val (.int iv), .val (.int (3 : Int32)), .unset]) rfl ?_
      refine XS.goto X0.here hx rfl (pc0 := 17) (pc' := 88) rfl (Jvm.hb hby d4_17) (by decide) (by decide) ?_
      refine XS.aloadN X0.here hx rfl (Jvm.hb hby d4_88) rfl rfl ?_
      refine XS.iloadN X0.here hx rfl (Jvm.hb hby d4_89) rfl ?_
      refine X0.iaload hx ((congrArg (fun (HH : Heap) => HH[r]?) (e0 : s₁.heap = h0)).trans Ar858.1) (State.isArrayOf_alike hZ.alike Ar858.2.1) Ar858.2.2 in858 (H858.at in858 rfl) (g := (mkF m 90 #[.val (.ref r), .val (.int (3 : Int32)), .val (.int (4 : Int32)), .val (.ref t), .val (.int ev), .val (.int iv), .val (.int (3 : Int32)), .unset] [(.int (3 : Int32)), (.ref r)])) rfl rfl (Jvm.hb hby d4_90) _ ?_
      refine XS.iload X0.here hx rfl (Jvm.hb hby d4_91) rfl ?_
      refine XS.icmpNo X0.here hx rfl (Jvm.hb hby d4_93) rfl (teq hz).2 ?_
      refine XS.iconst X0.here hx rfl (Jvm.hb hby d4_96) ?_
      refine XS.goto X0.here hx rfl (pc0 := 97) (pc' := 101) rfl (Jvm.hb hby d4_97) (by decide) (by decide) ?_
      exact kt)
    obtain ⟨fs, hrL, hrun, hended, hW, hsame⟩ := X0.leave (v := some (.int (1 : Int32))) (fun h => by rw [Bd.returns] at h; cases h)
    refine ⟨_, _, cast (congrFun hPS _) (pre859 _ ?_), hrun, hended, _, _, rfl, ?_, ⟨_, rfl⟩, hW, hsame.mono (by decide) (by decide)⟩
    · show Steps p.tables e below (s₁.setTop (mkF m 101 #[.val (.ref r), .val (.int (3 : Int32)), .val (.int (4 : Int32)), .val (.ref t), .val (.int ev), .val (.int iv), .val (.int (3 : Int32)), .unset] [(.int (1 : Int32))])) _
      exact retN X0 hx (t := .boolean) Bd.returns (by simp) (Jvm.hb hby d4_101) hrL
    · show QZ h0 n0 _ s₁.heap _
      rw [e0]
      exact ⟨rfl, N0, rfl⟩
theorem own_ef0 (m : MethodId) (x0 : Int32) (x1 : Int32) (x2 : Int32) (x3 : Int32) : entryFrame m #[(.int x0), (.int x1), (.int x2), (.int x3)] maxLocals = mkF m 0 #[.val (.int x0), .val (.int x1), .val (.int x2), .val (.int x3), .unset, .unset, .unset, .unset, .unset, .unset, .unset, .unset, .unset, .unset, .unset] [] := by first | (simp [entryFrame, mkF, argsToLocals, Value.category, maxLocals]; done) | rfl
def Q0 (n0 : Nat) (v : Option Value) (h : Heap) (L : List Loc) : Prop := v = some (.int 1) ∧ Fr n0 L
set_option maxRecDepth 65536 in
set_option maxHeartbeats 40000000 in
theorem rm0 (l : Launch) (Z : State) (a0 : Array Value) (hw : ∀ d ∈ tables_1, d.before a0 Z = true) (ws : List Jvm.Cond) (pp : Int32) (aa : Int32) (bb : Int32) (cc : Int32)  (h0 : Heap) (n0 : Nat) (Z0 : n0 ≤ h0.size)  :
    MetFree l x (head1 (Jvm.Cond.code x code maxLocals ret :: ws) room_1) (fun α U => α = #[(.int pp), (.int aa), (.int bb), (.int cc)] ∧ Z.Warmed39 U.vm ∧ U.heap = h0) (fun _ _ _ _ _ => True) (fun _ U ω U' => ∃ ν Λ, ω = .returned ν ∧ Q0 n0 ν U'.heap Λ ∧ FrameEnd U ω U' Λ room_1.cells room_1.slots) := by
  refine MetFree.of_bodySF (plainFor_of_name own_pn_com_example_counterpath_counterpath_core_WindowLastsPinLaw) hisR ?_
  intro p e s m args below meth c s₁ Bd hml0 hP hK
  obtain ⟨rfl, hZ, hh⟩ := hP
  have hx := Bd.exec
  have hby := Bd.bytes
  have hml : c.maxLocals = 15 := hml0
  have hown : s.vm.findClass "com/example/counterpath/counterpath/core/WindowLastsPinLaw" = some m.cls := findClass_of_methodNamed Bd.named
  have hnm := (name_of_methodNamed Bd.named Bd.method).1
  have X0 : Stand p l e room_1 s m #[(.int pp), (.int aa), (.int bb), (.int cc)] below meth c s₁ [] 0 0 := Stand.of_body Bd
  have e0 : s₁.heap = h0 := by rw [← hh, Bd.state]; rfl
  have N0 := Fr.nil n0
  have KK0 : Keep h0 h0 [] := Keep.refl h0 []
  obtain ⟨PS, hPS⟩ : ∃ P : State → Prop, P = fun τ => Steps p.tables e below (s₁.setTop (entryFrame m #[(.int pp), (.int aa), (.int bb), (.int cc)] maxLocals)) τ := ⟨_, rfl⟩
  have pre0 : ∀ τ, Steps p.tables e below (s₁.setTop (mkF m 0 #[.val (.int pp), .val (.int aa), .val (.int bb), .val (.int cc), .unset, .unset, .unset, .unset, .unset, .unset, .unset, .unset, .unset, .unset, .unset] [])) τ → PS τ := by rw [hPS]; exact fun τ κ => castTop (own_ef0 m pp aa bb cc) κ
  have pre860 := fun (τ : State) kt => pre0 τ (by
    show Steps p.tables e below (s₁.setTop (mkF m 0 #[.val (.int pp), .val (.int aa), .val (.int bb), .val (.int cc), .unset, .unset, .unset, .unset, .unset, .unset, .unset, .unset, .unset, .unset, .unset] [])) τ
    refine XS.iloadN X0.here hx rfl (Jvm.hb hby at_0) rfl ?_
    refine X0.ldcInt hx hown (mvT hZ (own_W0 hw)) (g := (mkF m 1 #[.val (.int pp), .val (.int aa), .val (.int bb), .val (.int cc), .unset, .unset, .unset, .unset, .unset, .unset, .unset, .unset, .unset, .unset, .unset] [(.int pp)])) rfl (Jvm.hb hby at_1) _ ?_
    refine XS.iand X0.here hx rfl (Jvm.hb hby at_3) rfl ?_
    refine XS.iconst X0.here hx rfl (Jvm.hb hby at_4) ?_
    refine iremM X0 hx rfl (Jvm.hb hby at_5) rfl (by decide) ?_
    refine XS.istore X0.here hx rfl (Jvm.hb hby at_6) rfl (l' := #[.val (.int pp), .val (.int aa), .val (.int bb), .val (.int cc), .val (.int ((pp &&& (2147483647 : Int32)) % (5 : Int32))), .unset, .unset, .unset, .unset, .unset, .unset, .unset, .unset, .unset, .unset]) rfl ?_
    exact kt)
  obtain ⟨nv, e_nv⟩ : ∃ z : Int32, z = ((pp &&& (2147483647 : Int32)) % (5 : Int32)) := ⟨_, rfl⟩
  have pre861 : ∀ τ, Steps p.tables e below (s₁.setTop (mkF m 8 #[.val (.int pp), .val (.int aa), .val (.int bb), .val (.int cc), .val (.int nv), .unset, .unset, .unset, .unset, .unset, .unset, .unset, .unset, .unset, .unset] [])) τ → PS τ := by rw [e_nv]; exact pre860
  have pre862 := fun (τ : State) kt => pre861 τ (by
    show Steps p.tables e below (s₁.setTop (mkF m 8 #[.val (.int pp), .val (.int aa), .val (.int bb), .val (.int cc), .val (.int nv), .unset, .unset, .unset, .unset, .unset, .unset, .unset, .unset, .unset, .unset] [])) τ
    refine XS.iloadN X0.here hx rfl (Jvm.hb hby at_8) rfl ?_
    refine X0.ldcInt hx hown (mvT hZ (own_W1 hw)) (g := (mkF m 9 #[.val (.int pp), .val (.int aa), .val (.int bb), .val (.int cc), .val (.int nv), .unset, .unset, .unset, .unset, .unset, .unset, .unset, .unset, .unset, .unset] [(.int aa)])) rfl (Jvm.hb hby at_9) _ ?_
    refine XS.iand X0.here hx rfl (Jvm.hb hby at_11) rfl ?_
    refine X0.ldcInt hx hown (mvT hZ (own_W2 hw)) (g := (mkF m 12 #[.val (.int pp), .val (.int aa), .val (.int bb), .val (.int cc), .val (.int nv), .unset, .unset, .unset, .unset, .unset, .unset, .unset, .unset, .unset, .unset] [(.int (aa &&& (65535 : Int32)))])) rfl (Jvm.hb hby at_12) _ ?_
    refine XS.isub X0.here hx rfl (Jvm.hb hby at_14) rfl ?_
    refine XS.istore X0.here hx rfl (Jvm.hb hby at_15) rfl (l' := #[.val (.int pp), .val (.int aa), .val (.int bb), .val (.int cc), .val (.int nv), .val (.int ((aa &&& (65535 : Int32)) - (32768 : Int32))), .unset, .unset, .unset, .unset, .unset, .unset, .unset, .unset, .unset]) rfl ?_
    exact kt)
  obtain ⟨t0, e_t0⟩ : ∃ z : Int32, z = ((aa &&& (65535 : Int32)) - (32768 : Int32)) := ⟨_, rfl⟩
  have pre863 : ∀ τ, Steps p.tables e below (s₁.setTop (mkF m 17 #[.val (.int pp), .val (.int aa), .val (.int bb), .val (.int cc), .val (.int nv), .val (.int t0), .unset, .unset, .unset, .unset, .unset, .unset, .unset, .unset, .unset] [])) τ → PS τ := by rw [e_t0]; exact pre862
  have pre864 := fun (τ : State) kt => pre863 τ (by
    show Steps p.tables e below (s₁.setTop (mkF m 17 #[.val (.int pp), .val (.int aa), .val (.int bb), .val (.int cc), .val (.int nv), .val (.int t0), .unset, .unset, .unset, .unset, .unset, .unset, .unset, .unset, .unset] [])) τ
    refine XS.iload X0.here hx rfl (Jvm.hb hby at_17) rfl ?_
    refine XS.iconst X0.here hx rfl (Jvm.hb hby at_19) ?_
    refine XS.iadd X0.here hx rfl (Jvm.hb hby at_20) rfl ?_
    refine XS.iloadN X0.here hx rfl (Jvm.hb hby at_21) rfl ?_
    refine XS.bipush X0.here hx rfl (Jvm.hb hby at_22) ?_
    refine XS.iand X0.here hx rfl (Jvm.hb hby at_24) rfl ?_
    refine XS.iadd X0.here hx rfl (Jvm.hb hby at_25) rfl ?_
    refine XS.istore X0.here hx rfl (Jvm.hb hby at_26) rfl (l' := #[.val (.int pp), .val (.int aa), .val (.int bb), .val (.int cc), .val (.int nv), .val (.int t0), .val (.int ((t0 + (1 : Int32)) + (bb &&& (63 : Int32)))), .unset, .unset, .unset, .unset, .unset, .unset, .unset, .unset]) rfl ?_
    exact kt)
  obtain ⟨t1, e_t1⟩ : ∃ z : Int32, z = ((t0 + (1 : Int32)) + (bb &&& (63 : Int32))) := ⟨_, rfl⟩
  have pre865 : ∀ τ, Steps p.tables e below (s₁.setTop (mkF m 28 #[.val (.int pp), .val (.int aa), .val (.int bb), .val (.int cc), .val (.int nv), .val (.int t0), .val (.int t1), .unset, .unset, .unset, .unset, .unset, .unset, .unset, .unset] [])) τ → PS τ := by rw [e_t1]; exact pre864
  have pre866 := fun (τ : State) kt => pre865 τ (by
    show Steps p.tables e below (s₁.setTop (mkF m 28 #[.val (.int pp), .val (.int aa), .val (.int bb), .val (.int cc), .val (.int nv), .val (.int t0), .val (.int t1), .unset, .unset, .unset, .unset, .unset, .unset, .unset, .unset] [])) τ
    refine XS.iload X0.here hx rfl (Jvm.hb hby at_28) rfl ?_
    refine XS.iconst X0.here hx rfl (Jvm.hb hby at_30) ?_
    refine XS.iadd X0.here hx rfl (Jvm.hb hby at_31) rfl ?_
    refine XS.iloadN X0.here hx rfl (Jvm.hb hby at_32) rfl ?_
    refine XS.bipush X0.here hx rfl (Jvm.hb hby at_33) ?_
    refine XT.iushr X0.here hx rfl (Jvm.hb hby at_35) rfl ?_
    refine XS.bipush X0.here hx rfl (Jvm.hb hby at_36) ?_
    refine XS.iand X0.here hx rfl (Jvm.hb hby at_38) rfl ?_
    refine XS.iadd X0.here hx rfl (Jvm.hb hby at_39) rfl ?_
    refine XS.istore X0.here hx rfl (Jvm.hb hby at_40) rfl (l' := #[.val (.int pp), .val (.int aa), .val (.int bb), .val (.int cc), .val (.int nv), .val (.int t0), .val (.int t1), .val (.int ((t1 + (1 : Int32)) + ((XT.ushr bb (6 : Int32)) &&& (63 : Int32)))), .unset, .unset, .unset, .unset, .unset, .unset, .unset]) rfl ?_
    exact kt)
  obtain ⟨t2, e_t2⟩ : ∃ z : Int32, z = ((t1 + (1 : Int32)) + ((XT.ushr bb (6 : Int32)) &&& (63 : Int32))) := ⟨_, rfl⟩
  have pre867 : ∀ τ, Steps p.tables e below (s₁.setTop (mkF m 42 #[.val (.int pp), .val (.int aa), .val (.int bb), .val (.int cc), .val (.int nv), .val (.int t0), .val (.int t1), .val (.int t2), .unset, .unset, .unset, .unset, .unset, .unset, .unset] [])) τ → PS τ := by rw [e_t2]; exact pre866
  have pre868 := fun (τ : State) kt => pre867 τ (by
    show Steps p.tables e below (s₁.setTop (mkF m 42 #[.val (.int pp), .val (.int aa), .val (.int bb), .val (.int cc), .val (.int nv), .val (.int t0), .val (.int t1), .val (.int t2), .unset, .unset, .unset, .unset, .unset, .unset, .unset] [])) τ
    refine XS.iload X0.here hx rfl (Jvm.hb hby at_42) rfl ?_
    refine XS.iconst X0.here hx rfl (Jvm.hb hby at_44) ?_
    refine XS.iadd X0.here hx rfl (Jvm.hb hby at_45) rfl ?_
    refine XS.iloadN X0.here hx rfl (Jvm.hb hby at_46) rfl ?_
    refine XS.bipush X0.here hx rfl (Jvm.hb hby at_47) ?_
    refine XT.iushr X0.here hx rfl (Jvm.hb hby at_49) rfl ?_
    refine XS.bipush X0.here hx rfl (Jvm.hb hby at_50) ?_
    refine XS.iand X0.here hx rfl (Jvm.hb hby at_52) rfl ?_
    refine XS.iadd X0.here hx rfl (Jvm.hb hby at_53) rfl ?_
    refine XS.istore X0.here hx rfl (Jvm.hb hby at_54) rfl (l' := #[.val (.int pp), .val (.int aa), .val (.int bb), .val (.int cc), .val (.int nv), .val (.int t0), .val (.int t1), .val (.int t2), .val (.int ((t2 + (1 : Int32)) + ((XT.ushr bb (12 : Int32)) &&& (63 : Int32)))), .unset, .unset, .unset, .unset, .unset, .unset]) rfl ?_
    exact kt)
  obtain ⟨t3, e_t3⟩ : ∃ z : Int32, z = ((t2 + (1 : Int32)) + ((XT.ushr bb (12 : Int32)) &&& (63 : Int32))) := ⟨_, rfl⟩
  have pre869 : ∀ τ, Steps p.tables e below (s₁.setTop (mkF m 56 #[.val (.int pp), .val (.int aa), .val (.int bb), .val (.int cc), .val (.int nv), .val (.int t0), .val (.int t1), .val (.int t2), .val (.int t3), .unset, .unset, .unset, .unset, .unset, .unset] [])) τ → PS τ := by rw [e_t3]; exact pre868
  have hnv := own_rem5 pp
  rw [← e_nv] at hnv
  have r0 := own_t0 aa
  rw [← e_t0] at r0
  have r1 := own_tn (t := t0) (b := bb) (by omega) (by omega)
  rw [← e_t1] at r1
  have r2 := own_tn (t := t1) (b := (XT.ushr bb (6 : Int32))) (by omega) (by omega)
  rw [← e_t2] at r2
  have r3 := own_tn (t := t2) (b := (XT.ushr bb (12 : Int32))) (by omega) (by omega)
  rw [← e_t3] at r3
  obtain ⟨T870, h870, k870, X870, e870, E870, A870, st870⟩ := newP (aty := .int) X0 hx hZ (own_W3 hw) e0 (g := (mkF m 57 #[.val (.int pp), .val (.int aa), .val (.int bb), .val (.int cc), .val (.int nv), .val (.int t0), .val (.int t1), .val (.int t2), .val (.int t3), .unset, .unset, .unset, .unset, .unset, .unset] [(.int (4 : Int32))])) rfl (Jvm.hb hby at_57) rfl (by decide) (cap := 4) (by decide) (by decide) (by decide) (by decide)
  obtain ⟨tt, g870⟩ : ∃ z, z = h0.size := ⟨_, rfl⟩
  rw [← g870] at A870 st870
  have g_tt : n0 ≤ tt := Nat.le_trans (Nat.le_trans Z0 KK0.1) (Nat.le_of_eq g870.symm)
  have sz_tt : h0.size ≤ tt := Nat.le_trans KK0.1 (Nat.le_of_eq g870.symm)
  have K870 : Keep h0 h870 [] := KK0.ext E870
  have V_tt : Arv Z h870 tt k870 .int (4 : Int32) [(.int (0 : Int32)), (.int (0 : Int32)), (.int (0 : Int32)), (.int (0 : Int32))] (.int (0 : Int32)) := (Arv.new A870 (by decide)).pad (pad_rep [] (.int (0 : Int32)) 4)
  have pre871 := fun (τ : State) kt => pre869 τ (by
    show Steps p.tables e below (s₁.setTop (mkF m 56 #[.val (.int pp), .val (.int aa), .val (.int bb), .val (.int cc), .val (.int nv), .val (.int t0), .val (.int t1), .val (.int t2), .val (.int t3), .unset, .unset, .unset, .unset, .unset, .unset] [])) τ
    refine XS.iconst X0.here hx rfl (Jvm.hb hby at_56) ?_
    exact st870 τ kt)
  obtain ⟨cl872, Ar872, q872, S872, M872, H872, U872⟩ := id V_tt
  obtain ⟨T873, h873, X873, e873, W873, st873⟩ := stI X870 hx hZ e870 Ar872 (j := (0 : Int32)) (inb_of S872 ⟨by decide, by decide⟩) (g := (mkF m 63 #[.val (.int pp), .val (.int aa), .val (.int bb), .val (.int cc), .val (.int nv), .val (.int t0), .val (.int t1), .val (.int t2), .val (.int t3), .unset, .unset, .unset, .unset, .unset, .unset] [(.int t0), (.int (0 : Int32)), (.ref tt), (.ref tt)])) rfl rfl (Jvm.hb hby at_63)
  have V873 : Arv Z h873 tt k870 .int (4 : Int32) [(.int t0), (.int (0 : Int32)), (.int (0 : Int32)), (.int (0 : Int32))] (.int (0 : Int32)) := Arv.set Ar872 q872 S872 M872 H872 U872 rfl W873 0 rfl (Nat.le_of_ble_eq_true rfl)
  have N873 := Fr.snoc X873 N0 g_tt
  have K873 : Keep h0 h873 [] := K870.wr W873 (Or.inr sz_tt)
  have pre874 := fun (τ : State) kt => pre871 τ (by
    show Steps p.tables e below (T870.setTop (mkF m 59 #[.val (.int pp), .val (.int aa), .val (.int bb), .val (.int cc), .val (.int nv), .val (.int t0), .val (.int t1), .val (.int t2), .val (.int t3), .unset, .unset, .unset, .unset, .unset, .unset] [(.ref tt)])) τ
    refine XS.dup X870.here hx rfl (Jvm.hb hby at_59) rfl rfl ?_
    refine XS.iconst X870.here hx rfl (Jvm.hb hby at_60) ?_
    refine XS.iload X870.here hx rfl (Jvm.hb hby at_61) rfl ?_
    exact st873 τ kt)
  obtain ⟨cl875, Ar875, q875, S875, M875, H875, U875⟩ := id V873
  obtain ⟨T876, h876, X876, e876, W876, st876⟩ := stI X873 hx hZ e873 Ar875 (j := (1 : Int32)) (inb_of S875 ⟨by decide, by decide⟩) (g := (mkF m 68 #[.val (.int pp), .val (.int aa), .val (.int bb), .val (.int cc), .val (.int nv), .val (.int t0), .val (.int t1), .val (.int t2), .val (.int t3), .unset, .unset, .unset, .unset, .unset, .unset] [(.int t1), (.int (1 : Int32)), (.ref tt), (.ref tt)])) rfl rfl (Jvm.hb hby at_68)
  have V876 : Arv Z h876 tt k870 .int (4 : Int32) [(.int t0), (.int t1), (.int (0 : Int32)), (.int (0 : Int32))] (.int (0 : Int32)) := Arv.set Ar875 q875 S875 M875 H875 U875 rfl W876 1 rfl (Nat.le_of_ble_eq_true rfl)
  have N876 := Fr.snoc X876 N873 g_tt
  have K876 : Keep h0 h876 [] := K873.wr W876 (Or.inr sz_tt)
  have pre877 := fun (τ : State) kt => pre874 τ (by
    show Steps p.tables e below (T873.setTop (mkF m 64 #[.val (.int pp), .val (.int aa), .val (.int bb), .val (.int cc), .val (.int nv), .val (.int t0), .val (.int t1), .val (.int t2), .val (.int t3), .unset, .unset, .unset, .unset, .unset, .unset] [(.ref tt)])) τ
    refine XS.dup X873.here hx rfl (Jvm.hb hby at_64) rfl rfl ?_
    refine XS.iconst X873.here hx rfl (Jvm.hb hby at_65) ?_
    refine XS.iload X873.here hx rfl (Jvm.hb hby at_66) rfl ?_
    exact st876 τ kt)
  obtain ⟨cl878, Ar878, q878, S878, M878, H878, U878⟩ := id V876
  obtain ⟨T879, h879, X879, e879, W879, st879⟩ := stI X876 hx hZ e876 Ar878 (j := (2 : Int32)) (inb_of S878 ⟨by decide, by decide⟩) (g := (mkF m 73 #[.val (.int pp), .val (.int aa), .val (.int bb), .val (.int cc), .val (.int nv), .val (.int t0), .val (.int t1), .val (.int t2), .val (.int t3), .unset, .unset, .unset, .unset, .unset, .unset] [(.int t2), (.int (2 : Int32)), (.ref tt), (.ref tt)])) rfl rfl (Jvm.hb hby at_73)
  have V879 : Arv Z h879 tt k870 .int (4 : Int32) [(.int t0), (.int t1), (.int t2), (.int (0 : Int32))] (.int (0 : Int32)) := Arv.set Ar878 q878 S878 M878 H878 U878 rfl W879 2 rfl (Nat.le_of_ble_eq_true rfl)
  have N879 := Fr.snoc X879 N876 g_tt
  have K879 : Keep h0 h879 [] := K876.wr W879 (Or.inr sz_tt)
  have pre880 := fun (τ : State) kt => pre877 τ (by
    show Steps p.tables e below (T876.setTop (mkF m 69 #[.val (.int pp), .val (.int aa), .val (.int bb), .val (.int cc), .val (.int nv), .val (.int t0), .val (.int t1), .val (.int t2), .val (.int t3), .unset, .unset, .unset, .unset, .unset, .unset] [(.ref tt)])) τ
    refine XS.dup X876.here hx rfl (Jvm.hb hby at_69) rfl rfl ?_
    refine XS.iconst X876.here hx rfl (Jvm.hb hby at_70) ?_
    refine XS.iload X876.here hx rfl (Jvm.hb hby at_71) rfl ?_
    exact st879 τ kt)
  obtain ⟨cl881, Ar881, q881, S881, M881, H881, U881⟩ := id V879
  obtain ⟨T882, h882, X882, e882, W882, st882⟩ := stI X879 hx hZ e879 Ar881 (j := (3 : Int32)) (inb_of S881 ⟨by decide, by decide⟩) (g := (mkF m 78 #[.val (.int pp), .val (.int aa), .val (.int bb), .val (.int cc), .val (.int nv), .val (.int t0), .val (.int t1), .val (.int t2), .val (.int t3), .unset, .unset, .unset, .unset, .unset, .unset] [(.int t3), (.int (3 : Int32)), (.ref tt), (.ref tt)])) rfl rfl (Jvm.hb hby at_78)
  have V882 : Arv Z h882 tt k870 .int (4 : Int32) [(.int t0), (.int t1), (.int t2), (.int t3)] (.int (0 : Int32)) := Arv.set Ar881 q881 S881 M881 H881 U881 rfl W882 3 rfl (Nat.le_of_ble_eq_true rfl)
  have N882 := Fr.snoc X882 N879 g_tt
  have K882 : Keep h0 h882 [] := K879.wr W882 (Or.inr sz_tt)
  have pre883 := fun (τ : State) kt => pre880 τ (by
    show Steps p.tables e below (T879.setTop (mkF m 74 #[.val (.int pp), .val (.int aa), .val (.int bb), .val (.int cc), .val (.int nv), .val (.int t0), .val (.int t1), .val (.int t2), .val (.int t3), .unset, .unset, .unset, .unset, .unset, .unset] [(.ref tt)])) τ
    refine XS.dup X879.here hx rfl (Jvm.hb hby at_74) rfl rfl ?_
    refine XS.iconst X879.here hx rfl (Jvm.hb hby at_75) ?_
    refine XS.iload X879.here hx rfl (Jvm.hb hby at_76) rfl ?_
    exact st882 τ kt)
  have pre884 := fun (τ : State) kt => pre883 τ (by
    show Steps p.tables e below (T882.setTop (mkF m 79 #[.val (.int pp), .val (.int aa), .val (.int bb), .val (.int cc), .val (.int nv), .val (.int t0), .val (.int t1), .val (.int t2), .val (.int t3), .unset, .unset, .unset, .unset, .unset, .unset] [(.ref tt)])) τ
    refine XS.astore X882.here hx rfl (Jvm.hb hby at_79) rfl rfl (l' := #[.val (.int pp), .val (.int aa), .val (.int bb), .val (.int cc), .val (.int nv), .val (.int t0), .val (.int t1), .val (.int t2), .val (.int t3), .val (.ref tt), .unset, .unset, .unset, .unset, .unset]) rfl ?_
    refine XS.iloadN X882.here hx rfl (Jvm.hb hby at_81) rfl ?_
    refine XS.sipush X882.here hx rfl (Jvm.hb hby at_82) ?_
    refine XS.iand X882.here hx rfl (Jvm.hb hby at_85) rfl ?_
    exact kt)
  obtain ⟨iv, hj885, pre885⟩ : ∃ (iv : Int32), (True) ∧ ∀ τ, Steps p.tables e below (T882.setTop (mkF m 94 #[.val (.int pp), .val (.int aa), .val (.int bb), .val (.int cc), .val (.int nv), .val (.int t0), .val (.int t1), .val (.int t2), .val (.int t3), .val (.ref tt), .unset, .unset, .unset, .unset, .unset] [(.int iv)])) τ → PS τ := by
    by_cases q : (cc &&& (256 : Int32)) = (0 : Int32)
    · skip
      have pre886 := fun (τ : State) kt => pre884 τ (by
        show Steps p.tables e below (T882.setTop (mkF m 86 #[.val (.int pp), .val (.int aa), .val (.int bb), .val (.int cc), .val (.int nv), .val (.int t0), .val (.int t1), .val (.int t2), .val (.int t3), .val (.ref tt), .unset, .unset, .unset, .unset, .unset] [(.int (cc &&& (256 : Int32)))])) τ
        refine XS.ifYes X882.here hx rfl (pc0 := 86) (pc' := 93) rfl (Jvm.hb hby at_86) rfl ((if0 _ _).trans (teq q).1) (by decide) (by decide) ?_
        refine XS.iconst X882.here hx rfl (Jvm.hb hby at_93) ?_
        exact kt)
      exact ⟨(0 : Int32), trivial, pre886⟩
    · skip
      have pre887 := fun (τ : State) kt => pre884 τ (by
        show Steps p.tables e below (T882.setTop (mkF m 86 #[.val (.int pp), .val (.int aa), .val (.int bb), .val (.int cc), .val (.int nv), .val (.int t0), .val (.int t1), .val (.int t2), .val (.int t3), .val (.ref tt), .unset, .unset, .unset, .unset, .unset] [(.int (cc &&& (256 : Int32)))])) τ
        refine XS.ifNo X882.here hx rfl (Jvm.hb hby at_86) rfl ((if0 _ _).trans (feq q).1) ?_
        refine XS.iconst X882.here hx rfl (Jvm.hb hby at_89) ?_
        refine XS.goto X882.here hx rfl (pc0 := 90) (pc' := 94) rfl (Jvm.hb hby at_90) (by decide) (by decide) ?_
        exact kt)
      exact ⟨(1 : Int32), trivial, pre887⟩
  have pre888 := fun (τ : State) kt => pre885 τ (by
    show Steps p.tables e below (T882.setTop (mkF m 94 #[.val (.int pp), .val (.int aa), .val (.int bb), .val (.int cc), .val (.int nv), .val (.int t0), .val (.int t1), .val (.int t2), .val (.int t3), .val (.ref tt), .unset, .unset, .unset, .unset, .unset] [(.int iv)])) τ
    refine XS.istore X882.here hx rfl (Jvm.hb hby at_94) rfl (l' := #[.val (.int pp), .val (.int aa), .val (.int bb), .val (.int cc), .val (.int nv), .val (.int t0), .val (.int t1), .val (.int t2), .val (.int t3), .val (.ref tt), .val (.int iv), .unset, .unset, .unset, .unset]) rfl ?_
    refine XS.iloadN X882.here hx rfl (Jvm.hb hby at_96) rfl ?_
    refine XS.sipush X882.here hx rfl (Jvm.hb hby at_97) ?_
    refine XS.iand X882.here hx rfl (Jvm.hb hby at_100) rfl ?_
    refine XS.istore X882.here hx rfl (Jvm.hb hby at_101) rfl (l' := #[.val (.int pp), .val (.int aa), .val (.int bb), .val (.int cc), .val (.int nv), .val (.int t0), .val (.int t1), .val (.int t2), .val (.int t3), .val (.ref tt), .val (.int iv), .val (.int (cc &&& (255 : Int32))), .unset, .unset, .unset]) rfl ?_
    exact kt)
  obtain ⟨ev, e_ev⟩ : ∃ z : Int32, z = (cc &&& (255 : Int32)) := ⟨_, rfl⟩
  have pre889 : ∀ τ, Steps p.tables e below (T882.setTop (mkF m 103 #[.val (.int pp), .val (.int aa), .val (.int bb), .val (.int cc), .val (.int nv), .val (.int t0), .val (.int t1), .val (.int t2), .val (.int t3), .val (.ref tt), .val (.int iv), .val (.int ev), .unset, .unset, .unset] [])) τ → PS τ := by rw [e_ev]; exact pre888
  have hev := c_and cc 255 (by decide)
  rw [← e_ev, show (255 : Int32).toInt = 255 by decide] at hev
  rcases hnv with hn | hn | hn | hn | hn
  · skip
    have pre890 : ∀ τ, Steps p.tables e below (T882.setTop (mkF m 103 #[.val (.int pp), .val (.int aa), .val (.int bb), .val (.int cc), .val (.int (0 : Int32)), .val (.int t0), .val (.int t1), .val (.int t2), .val (.int t3), .val (.ref tt), .val (.int iv), .val (.int ev), .unset, .unset, .unset] [])) τ → PS τ := by have hq := pre889; rw [hn] at hq; exact hq
    obtain ⟨T891, h891, k891, X891, e891, E891, A891, st891⟩ := newP (aty := .double) X882 hx hZ (own_W4 hw) e882 (g := (mkF m 105 #[.val (.int pp), .val (.int aa), .val (.int bb), .val (.int cc), .val (.int (0 : Int32)), .val (.int t0), .val (.int t1), .val (.int t2), .val (.int t3), .val (.ref tt), .val (.int iv), .val (.int ev), .unset, .unset, .unset] [(.int (0 : Int32))])) rfl (Jvm.hb hby at_105) rfl (by decide) (cap := 0) (by decide) (by decide) (by decide) (by decide)
    obtain ⟨d, g891⟩ : ∃ z, z = h882.size := ⟨_, rfl⟩
    rw [← g891] at A891 st891
    have ne_tt_d : tt ≠ d := Nat.ne_of_lt (Nat.lt_of_lt_of_le V882.lt (Nat.le_of_eq g891.symm))
    have g_d : n0 ≤ d := Nat.le_trans (Nat.le_trans Z0 K882.1) (Nat.le_of_eq g891.symm)
    have sz_d : h0.size ≤ d := Nat.le_trans K882.1 (Nat.le_of_eq g891.symm)
    have K891 : Keep h0 h891 [] := K882.ext E891
    have V_d : Arv Z h891 d k891 .double (0 : Int32) [] (.double (0 : UInt64)) := (Arv.new A891 (by decide)).pad (pad_rep [] (.double (0 : UInt64)) 0)
    have pre892 := fun (τ : State) kt => pre890 τ (by
      show Steps p.tables e below (T882.setTop (mkF m 103 #[.val (.int pp), .val (.int aa), .val (.int bb), .val (.int cc), .val (.int (0 : Int32)), .val (.int t0), .val (.int t1), .val (.int t2), .val (.int t3), .val (.ref tt), .val (.int iv), .val (.int ev), .unset, .unset, .unset] [])) τ
      refine XS.iload X882.here hx rfl (Jvm.hb hby at_103) rfl ?_
      exact st891 τ kt)
    obtain ⟨T893, h893, X893, e893, E893, A893, D893, -, st893⟩ := newO X891 hx hZ hown (own_W5 hw) (own_W6 hw) (own_W7 hw) e891 (g := (mkF m 160 #[.val (.int pp), .val (.int aa), .val (.int bb), .val (.int cc), .val (.int (0 : Int32)), .val (.int t0), .val (.int t1), .val (.int t2), .val (.int t3), .val (.ref tt), .val (.int iv), .val (.int ev), .val (.ref d), .unset, .unset] [])) rfl (Jvm.hb hby at_160) (by decide) (by decide)
    obtain ⟨wi, g893⟩ : ∃ z, z = h891.size := ⟨_, rfl⟩
    rw [← g893] at A893 D893 st893
    have f894 := V882.ext E891
    have ne_tt_wi : tt ≠ wi := Nat.ne_of_lt (Nat.lt_of_lt_of_le f894.lt (Nat.le_of_eq g893.symm))
    have ne_d_wi : d ≠ wi := Nat.ne_of_lt (Nat.lt_of_lt_of_le V_d.lt (Nat.le_of_eq g893.symm))
    have g_wi : n0 ≤ wi := Nat.le_trans (Nat.le_trans Z0 K891.1) (Nat.le_of_eq g893.symm)
    have sz_wi : h0.size ≤ wi := Nat.le_trans K891.1 (Nat.le_of_eq g893.symm)
    have K893 : Keep h0 h893 [] := K891.ext E893
    have F_start_wi : Fld Z h893 wi "com/example/counterpath/counterpath/core/Window" "start" "D" (.double (0 : UInt64)) := D893 (Or.inr (own_W15 hw)) (ty := .double) (by decide)
    have F_end_wi : Fld Z h893 wi "com/example/counterpath/counterpath/core/Window" "end" "D" (.double (0 : UInt64)) := D893 (Or.inr (own_W17 hw)) (ty := .double) (by decide)
    have pre895 := fun (τ : State) kt => pre892 τ (by
      show Steps p.tables e below (T891.setTop (mkF m 107 #[.val (.int pp), .val (.int aa), .val (.int bb), .val (.int cc), .val (.int (0 : Int32)), .val (.int t0), .val (.int t1), .val (.int t2), .val (.int t3), .val (.ref tt), .val (.int iv), .val (.int ev), .unset, .unset, .unset] [(.ref d)])) τ
      refine XS.astore X891.here hx rfl (Jvm.hb hby at_107) rfl rfl (l' := #[.val (.int pp), .val (.int aa), .val (.int bb), .val (.int cc), .val (.int (0 : Int32)), .val (.int t0), .val (.int t1), .val (.int t2), .val (.int t3), .val (.ref tt), .val (.int iv), .val (.int ev), .val (.ref d), .unset, .unset]) rfl ?_
      refine XS.iload X891.here hx rfl (Jvm.hb hby at_109) rfl ?_
      refine XS.ifYes X891.here hx rfl (pc0 := 111) (pc' := 121) rfl (Jvm.hb hby at_111) rfl ((if0 _ _).trans (flt (by decide)).2.2.2) (by decide) (by decide) ?_
      refine XS.iload X891.here hx rfl (Jvm.hb hby at_121) rfl ?_
      refine XS.iconst X891.here hx rfl (Jvm.hb hby at_123) ?_
      refine XS.icmpYes X891.here hx rfl (pc0 := 124) (pc' := 134) rfl (Jvm.hb hby at_124) rfl (flt (by decide)).2.2.2 (by decide) (by decide) ?_
      refine XS.iload X891.here hx rfl (Jvm.hb hby at_134) rfl ?_
      refine XS.iconst X891.here hx rfl (Jvm.hb hby at_136) ?_
      refine XS.icmpYes X891.here hx rfl (pc0 := 137) (pc' := 147) rfl (Jvm.hb hby at_137) rfl (flt (by decide)).2.2.2 (by decide) (by decide) ?_
      refine XS.iload X891.here hx rfl (Jvm.hb hby at_147) rfl ?_
      refine XS.iconst X891.here hx rfl (Jvm.hb hby at_149) ?_
      refine XS.icmpYes X891.here hx rfl (pc0 := 150) (pc' := 160) rfl (Jvm.hb hby at_150) rfl (flt (by decide)).2.2.2 (by decide) (by decide) ?_
      exact st893 τ kt)
    have pre896 := fun (τ : State) kt => pre895 τ (by
      show Steps p.tables e below (T893.setTop (mkF m 163 #[.val (.int pp), .val (.int aa), .val (.int bb), .val (.int cc), .val (.int (0 : Int32)), .val (.int t0), .val (.int t1), .val (.int t2), .val (.int t3), .val (.ref tt), .val (.int iv), .val (.int ev), .val (.ref d), .unset, .unset] [(.ref wi)])) τ
      refine XS.dup X893.here hx rfl (Jvm.hb hby at_163) rfl rfl ?_
      refine own_dconst0 X893.here hx rfl (Jvm.hb hby at_164) ?_
      refine XS.iload X893.here hx rfl (Jvm.hb hby at_165) rfl ?_
      exact kt)
    obtain ⟨en, hj897, pre897⟩ : ∃ (en : UInt64), ((¬ iv = 0 ∧ en = own_inf) ∨ (iv = 0 ∧ en = FP.i2d ev)) ∧ ∀ τ, Steps p.tables e below (T893.setTop (mkF m 179 #[.val (.int pp), .val (.int aa), .val (.int bb), .val (.int cc), .val (.int (0 : Int32)), .val (.int t0), .val (.int t1), .val (.int t2), .val (.int t3), .val (.ref tt), .val (.int iv), .val (.int ev), .val (.ref d), .unset, .unset] [(.double en), (.double FP.dconst0), (.ref wi), (.ref wi)])) τ → PS τ := by
      by_cases q : iv = (0 : Int32)
      · skip
        have pre898 := fun (τ : State) kt => pre896 τ (by
          show Steps p.tables e below (T893.setTop (mkF m 167 #[.val (.int pp), .val (.int aa), .val (.int bb), .val (.int cc), .val (.int (0 : Int32)), .val (.int t0), .val (.int t1), .val (.int t2), .val (.int t3), .val (.ref tt), .val (.int iv), .val (.int ev), .val (.ref d), .unset, .unset] [(.int iv), (.double FP.dconst0), (.ref wi), (.ref wi)])) τ
          refine XS.ifYes X893.here hx rfl (pc0 := 167) (pc' := 176) rfl (Jvm.hb hby at_167) rfl ((if0 _ _).trans (teq q).1) (by decide) (by decide) ?_
          refine XS.iload X893.here hx rfl (Jvm.hb hby at_176) rfl ?_
          refine own_i2d X893.here hx rfl (Jvm.hb hby at_178) rfl ?_
          exact kt)
        exact ⟨(FP.i2d ev), Or.inr ⟨q, rfl⟩, pre898⟩
      · skip
        have pre899 := fun (τ : State) kt => pre896 τ (by
          show Steps p.tables e below (T893.setTop (mkF m 167 #[.val (.int pp), .val (.int aa), .val (.int bb), .val (.int cc), .val (.int (0 : Int32)), .val (.int t0), .val (.int t1), .val (.int t2), .val (.int t3), .val (.ref tt), .val (.int iv), .val (.int ev), .val (.ref d), .unset, .unset] [(.int iv), (.double FP.dconst0), (.ref wi), (.ref wi)])) τ
          refine XS.ifNo X893.here hx rfl (Jvm.hb hby at_167) rfl ((if0 _ _).trans (feq q).1) ?_
          refine X893.ldc2DoubleC hx hown (mvT hZ (own_W28 hw)) (g := (mkF m 170 #[.val (.int pp), .val (.int aa), .val (.int bb), .val (.int cc), .val (.int (0 : Int32)), .val (.int t0), .val (.int t1), .val (.int t2), .val (.int t3), .val (.ref tt), .val (.int iv), .val (.int ev), .val (.ref d), .unset, .unset] [(.double FP.dconst0), (.ref wi), (.ref wi)])) rfl (Jvm.hb hby at_170) _ ?_
          refine XS.goto X893.here hx rfl (pc0 := 173) (pc' := 179) rfl (Jvm.hb hby at_173) (by decide) (by decide) ?_
          exact kt)
        exact ⟨own_inf, Or.inl ⟨q, rfl⟩, pre899⟩
    obtain ⟨_, T900, L900, X900, ⟨rfl, Nq900, Kq900, z_end⟩, st900⟩ := own_spec (y := own_mn0) (b := wi) X893 hx hZ rfl hown (own_W8 hw) (own_W9 hw) (by decide) (rmWi l Z a0 hw [] wi FP.dconst0 en h893 n0 (Nat.le_trans Z0 K893.1) A893 F_start_wi F_end_wi g_wi) (own_W10 hw) (own_W7 hw) 1 (by decide) (by decide) e893 (mkF m 179 #[.val (.int pp), .val (.int aa), .val (.int bb), .val (.int cc), .val (.int (0 : Int32)), .val (.int t0), .val (.int t1), .val (.int t2), .val (.int t3), .val (.ref tt), .val (.int iv), .val (.int ev), .val (.ref d), .unset, .unset] [(.double en), (.double FP.dconst0), (.ref wi), (.ref wi)]) rfl (by rw [hml]; rfl) [(.double FP.dconst0), (.double en)] [(.ref wi)] rfl (lenOf own_pd__DD_V rfl) rfl (Nat.le_refl _) (Jvm.hb hby at_179) (by decide) (by decide)
    have N900 := Fr.app N882 Nq900
    have K900 : Keep h0 T900.heap [] := K893.trans Kq900 (allS (Or.inr sz_wi) (all0))
    have pre901 := fun (τ : State) kt => pre897 τ (st900 τ kt)
    have f902 := A893.keep Kq900
    have f903 := V_d.ext E893
    have f904 := f903.keep Kq900 (ninS ne_d_wi (nin0))
    obtain ⟨_, T905, L905, X905, ⟨ra, kr, rfl, Nq905, Kq905, g_ra, s_ra, v_ra⟩, st905⟩ := own_virt (y := own_mn1) (b := wi) X900 hx hZ hown (own_W18 hw) (own_W19 hw) (own_W21 hw) (own_W20 hw) (by decide) (rmL0 l Z a0 hw [] wi d k891 iv t0 t1 t2 t3 ev  en T900.heap n0 (Nat.le_trans Z0 K900.1) f902 z_end f904  ) (own_W22 hw) (own_W7 hw) 0 (by decide) (by decide) f902 rfl (mkF m 188 #[.val (.int pp), .val (.int aa), .val (.int bb), .val (.int cc), .val (.int (0 : Int32)), .val (.int t0), .val (.int t1), .val (.int t2), .val (.int t3), .val (.ref tt), .val (.int iv), .val (.int ev), .val (.ref d), .val (.ref wi), .unset] [(.ref d), (.ref wi)]) rfl (by rw [hml]; rfl) [(.ref d)] [] rfl (lenOf own_pd___D__I rfl) rfl (Nat.le_refl _) (Jvm.hb hby at_188) (by decide) (by decide)
    have N905 := Fr.app N900 Nq905
    have K905 : Keep h0 T905.heap [] := K900.trans Kq905 (all0)
    have pre906 := fun (τ : State) kt => pre901 τ (by
      show Steps p.tables e below (T900.setTop (mkF m 182 #[.val (.int pp), .val (.int aa), .val (.int bb), .val (.int cc), .val (.int (0 : Int32)), .val (.int t0), .val (.int t1), .val (.int t2), .val (.int t3), .val (.ref tt), .val (.int iv), .val (.int ev), .val (.ref d), .unset, .unset] [(.ref wi)])) τ
      refine XS.astore X900.here hx rfl (Jvm.hb hby at_182) rfl rfl (l' := #[.val (.int pp), .val (.int aa), .val (.int bb), .val (.int cc), .val (.int (0 : Int32)), .val (.int t0), .val (.int t1), .val (.int t2), .val (.int t3), .val (.ref tt), .val (.int iv), .val (.int ev), .val (.ref d), .val (.ref wi), .unset]) rfl ?_
      refine XS.aload X900.here hx rfl (Jvm.hb hby at_184) rfl rfl ?_
      refine XS.aload X900.here hx rfl (Jvm.hb hby at_186) rfl rfl ?_
      exact st905 τ kt)
    obtain ⟨cl907, Ar907, q907, S907, M907, H907, U907⟩ := id v_ra
    have pre908 := fun (τ : State) kt => pre906 τ (by
      show Steps p.tables e below (T905.setTop (mkF m 191 #[.val (.int pp), .val (.int aa), .val (.int bb), .val (.int cc), .val (.int (0 : Int32)), .val (.int t0), .val (.int t1), .val (.int t2), .val (.int t3), .val (.ref tt), .val (.int iv), .val (.int ev), .val (.ref d), .val (.ref wi), .unset] [(.ref ra)])) τ
      refine XS.astore X905.here hx rfl (Jvm.hb hby at_191) rfl rfl (l' := #[.val (.int pp), .val (.int aa), .val (.int bb), .val (.int cc), .val (.int (0 : Int32)), .val (.int t0), .val (.int t1), .val (.int t2), .val (.int t3), .val (.ref tt), .val (.int iv), .val (.int ev), .val (.ref d), .val (.ref wi), .val (.ref ra)]) rfl ?_
      refine XS.aload X905.here hx rfl (Jvm.hb hby at_193) rfl rfl ?_
      refine X905.arraylength hx ((congrArg (fun (HH : Heap) => HH[ra]?) (rfl : T905.heap = T905.heap)).trans Ar907.1) (State.isArrayOf_alike hZ.alike Ar907.2.1) (g := (mkF m 195 #[.val (.int pp), .val (.int aa), .val (.int bb), .val (.int cc), .val (.int (0 : Int32)), .val (.int t0), .val (.int t1), .val (.int t2), .val (.int t3), .val (.ref tt), .val (.int iv), .val (.int ev), .val (.ref d), .val (.ref wi), .val (.ref ra)] [(.ref ra)])) rfl rfl (Jvm.hb hby at_195) _ ?_
      exact kt)
    have pre909 : ∀ τ, Steps p.tables e below (T905.setTop (mkF m 196 #[.val (.int pp), .val (.int aa), .val (.int bb), .val (.int cc), .val (.int (0 : Int32)), .val (.int t0), .val (.int t1), .val (.int t2), .val (.int t3), .val (.ref tt), .val (.int iv), .val (.int ev), .val (.ref d), .val (.ref wi), .val (.ref ra)] [(.int (0 : Int32))])) τ → PS τ := by
      have hq := pre908
      rw [len_of S907 M907] at hq
      exact hq
    obtain ⟨_, T910, L910, X910, ⟨rfl, Nq910, eq910⟩, st910⟩ := own_stat (y := own_mn2) X905 hx hZ hown (own_W23 hw) (own_W24 hw) (by decide) (rmCo l Z a0 hw [] ra (0 : Int32) (0 : Int32) tt ev iv T905.heap n0 (Nat.le_trans Z0 K905.1) (by decide)) (own_W26 hw) (own_W25 hw) 0 (by decide) (by decide) rfl (mkF m 214 #[.val (.int pp), .val (.int aa), .val (.int bb), .val (.int cc), .val (.int (0 : Int32)), .val (.int t0), .val (.int t1), .val (.int t2), .val (.int t3), .val (.ref tt), .val (.int iv), .val (.int ev), .val (.ref d), .val (.ref wi), .val (.ref ra)] [(.int iv), (.int ev), (.ref tt), (.int (0 : Int32)), (.int (0 : Int32)), (.ref ra)]) rfl (by rw [hml]; rfl) [(.ref ra), (.int (0 : Int32)), (.int (0 : Int32)), (.ref tt), (.int ev), (.int iv)] [] rfl (lenOf own_pd___III_IIZ_Z rfl) rfl (Nat.le_refl _) (Jvm.hb hby at_214) (by decide) (by decide)
    have N910 := Fr.app N905 Nq910
    have pre911 := fun (τ : State) kt => pre909 τ (by
      show Steps p.tables e below (T905.setTop (mkF m 196 #[.val (.int pp), .val (.int aa), .val (.int bb), .val (.int cc), .val (.int (0 : Int32)), .val (.int t0), .val (.int t1), .val (.int t2), .val (.int t3), .val (.ref tt), .val (.int iv), .val (.int ev), .val (.ref d), .val (.ref wi), .val (.ref ra)] [(.int (0 : Int32))])) τ
      refine XS.iload X905.here hx rfl (Jvm.hb hby at_196) rfl ?_
      refine XS.icmpYes X905.here hx rfl (pc0 := 198) (pc' := 203) rfl (Jvm.hb hby at_198) rfl (teq rfl).1 (by decide) (by decide) ?_
      refine XS.aload X905.here hx rfl (Jvm.hb hby at_203) rfl rfl ?_
      refine XS.iconst X905.here hx rfl (Jvm.hb hby at_205) ?_
      refine XS.iload X905.here hx rfl (Jvm.hb hby at_206) rfl ?_
      refine XS.aload X905.here hx rfl (Jvm.hb hby at_208) rfl rfl ?_
      refine XS.iload X905.here hx rfl (Jvm.hb hby at_210) rfl ?_
      refine XS.iload X905.here hx rfl (Jvm.hb hby at_212) rfl ?_
      exact st910 τ kt)
    obtain ⟨_, T912, L912, X912, ⟨rfl, Nq912, eq912⟩, st912⟩ := own_stat (y := own_mn2) X910 hx hZ hown (own_W23 hw) (own_W24 hw) (by decide) (rmCo l Z a0 hw [] ra (1 : Int32) (0 : Int32) tt ev iv T905.heap n0 (Nat.le_trans Z0 K905.1) (by decide)) (own_W26 hw) (own_W25 hw) 0 (by decide) (by decide) eq910 (mkF m 231 #[.val (.int pp), .val (.int aa), .val (.int bb), .val (.int cc), .val (.int (0 : Int32)), .val (.int t0), .val (.int t1), .val (.int t2), .val (.int t3), .val (.ref tt), .val (.int iv), .val (.int ev), .val (.ref d), .val (.ref wi), .val (.ref ra)] [(.int iv), (.int ev), (.ref tt), (.int (0 : Int32)), (.int (1 : Int32)), (.ref ra)]) rfl (by rw [hml]; rfl) [(.ref ra), (.int (1 : Int32)), (.int (0 : Int32)), (.ref tt), (.int ev), (.int iv)] [] rfl (lenOf own_pd___III_IIZ_Z rfl) rfl (Nat.le_refl _) (Jvm.hb hby at_231) (by decide) (by decide)
    have N912 := Fr.app N910 Nq912
    have pre913 := fun (τ : State) kt => pre911 τ (by
      show Steps p.tables e below (T910.setTop (mkF m 217 #[.val (.int pp), .val (.int aa), .val (.int bb), .val (.int cc), .val (.int (0 : Int32)), .val (.int t0), .val (.int t1), .val (.int t2), .val (.int t3), .val (.ref tt), .val (.int iv), .val (.int ev), .val (.ref d), .val (.ref wi), .val (.ref ra)] [(.int (1 : Int32))])) τ
      refine XS.ifNo X910.here hx rfl (Jvm.hb hby at_217) rfl ((if0 _ _).trans (feq (by decide)).1) ?_
      refine XS.aload X910.here hx rfl (Jvm.hb hby at_220) rfl rfl ?_
      refine XS.iconst X910.here hx rfl (Jvm.hb hby at_222) ?_
      refine XS.iload X910.here hx rfl (Jvm.hb hby at_223) rfl ?_
      refine XS.aload X910.here hx rfl (Jvm.hb hby at_225) rfl rfl ?_
      refine XS.iload X910.here hx rfl (Jvm.hb hby at_227) rfl ?_
      refine XS.iload X910.here hx rfl (Jvm.hb hby at_229) rfl ?_
      exact st912 τ kt)
    obtain ⟨_, T914, L914, X914, ⟨rfl, Nq914, eq914⟩, st914⟩ := own_stat (y := own_mn2) X912 hx hZ hown (own_W23 hw) (own_W24 hw) (by decide) (rmCo l Z a0 hw [] ra (2 : Int32) (0 : Int32) tt ev iv T905.heap n0 (Nat.le_trans Z0 K905.1) (by decide)) (own_W26 hw) (own_W25 hw) 0 (by decide) (by decide) eq912 (mkF m 248 #[.val (.int pp), .val (.int aa), .val (.int bb), .val (.int cc), .val (.int (0 : Int32)), .val (.int t0), .val (.int t1), .val (.int t2), .val (.int t3), .val (.ref tt), .val (.int iv), .val (.int ev), .val (.ref d), .val (.ref wi), .val (.ref ra)] [(.int iv), (.int ev), (.ref tt), (.int (0 : Int32)), (.int (2 : Int32)), (.ref ra)]) rfl (by rw [hml]; rfl) [(.ref ra), (.int (2 : Int32)), (.int (0 : Int32)), (.ref tt), (.int ev), (.int iv)] [] rfl (lenOf own_pd___III_IIZ_Z rfl) rfl (Nat.le_refl _) (Jvm.hb hby at_248) (by decide) (by decide)
    have N914 := Fr.app N912 Nq914
    have pre915 := fun (τ : State) kt => pre913 τ (by
      show Steps p.tables e below (T912.setTop (mkF m 234 #[.val (.int pp), .val (.int aa), .val (.int bb), .val (.int cc), .val (.int (0 : Int32)), .val (.int t0), .val (.int t1), .val (.int t2), .val (.int t3), .val (.ref tt), .val (.int iv), .val (.int ev), .val (.ref d), .val (.ref wi), .val (.ref ra)] [(.int (1 : Int32))])) τ
      refine XS.ifNo X912.here hx rfl (Jvm.hb hby at_234) rfl ((if0 _ _).trans (feq (by decide)).1) ?_
      refine XS.aload X912.here hx rfl (Jvm.hb hby at_237) rfl rfl ?_
      refine XS.iconst X912.here hx rfl (Jvm.hb hby at_239) ?_
      refine XS.iload X912.here hx rfl (Jvm.hb hby at_240) rfl ?_
      refine XS.aload X912.here hx rfl (Jvm.hb hby at_242) rfl rfl ?_
      refine XS.iload X912.here hx rfl (Jvm.hb hby at_244) rfl ?_
      refine XS.iload X912.here hx rfl (Jvm.hb hby at_246) rfl ?_
      exact st914 τ kt)
    obtain ⟨_, T916, L916, X916, ⟨rfl, Nq916, eq916⟩, st916⟩ := own_stat (y := own_mn2) X914 hx hZ hown (own_W23 hw) (own_W24 hw) (by decide) (rmCo l Z a0 hw [] ra (3 : Int32) (0 : Int32) tt ev iv T905.heap n0 (Nat.le_trans Z0 K905.1) (by decide)) (own_W26 hw) (own_W25 hw) 0 (by decide) (by decide) eq914 (mkF m 265 #[.val (.int pp), .val (.int aa), .val (.int bb), .val (.int cc), .val (.int (0 : Int32)), .val (.int t0), .val (.int t1), .val (.int t2), .val (.int t3), .val (.ref tt), .val (.int iv), .val (.int ev), .val (.ref d), .val (.ref wi), .val (.ref ra)] [(.int iv), (.int ev), (.ref tt), (.int (0 : Int32)), (.int (3 : Int32)), (.ref ra)]) rfl (by rw [hml]; rfl) [(.ref ra), (.int (3 : Int32)), (.int (0 : Int32)), (.ref tt), (.int ev), (.int iv)] [] rfl (lenOf own_pd___III_IIZ_Z rfl) rfl (Nat.le_refl _) (Jvm.hb hby at_265) (by decide) (by decide)
    have N916 := Fr.app N914 Nq916
    have pre917 := fun (τ : State) kt => pre915 τ (by
      show Steps p.tables e below (T914.setTop (mkF m 251 #[.val (.int pp), .val (.int aa), .val (.int bb), .val (.int cc), .val (.int (0 : Int32)), .val (.int t0), .val (.int t1), .val (.int t2), .val (.int t3), .val (.ref tt), .val (.int iv), .val (.int ev), .val (.ref d), .val (.ref wi), .val (.ref ra)] [(.int (1 : Int32))])) τ
      refine XS.ifNo X914.here hx rfl (Jvm.hb hby at_251) rfl ((if0 _ _).trans (feq (by decide)).1) ?_
      refine XS.aload X914.here hx rfl (Jvm.hb hby at_254) rfl rfl ?_
      refine XS.iconst X914.here hx rfl (Jvm.hb hby at_256) ?_
      refine XS.iload X914.here hx rfl (Jvm.hb hby at_257) rfl ?_
      refine XS.aload X914.here hx rfl (Jvm.hb hby at_259) rfl rfl ?_
      refine XS.iload X914.here hx rfl (Jvm.hb hby at_261) rfl ?_
      refine XS.iload X914.here hx rfl (Jvm.hb hby at_263) rfl ?_
      exact st916 τ kt)
    have pre918 := fun (τ : State) kt => pre917 τ (by
      show Steps p.tables e below (T916.setTop (mkF m 268 #[.val (.int pp), .val (.int aa), .val (.int bb), .val (.int cc), .val (.int (0 : Int32)), .val (.int t0), .val (.int t1), .val (.int t2), .val (.int t3), .val (.ref tt), .val (.int iv), .val (.int ev), .val (.ref d), .val (.ref wi), .val (.ref ra)] [(.int (1 : Int32))])) τ
      refine XS.ifNo X916.here hx rfl (Jvm.hb hby at_268) rfl ((if0 _ _).trans (feq (by decide)).1) ?_
      refine XS.iconst X916.here hx rfl (Jvm.hb hby at_271) ?_
      refine XS.goto X916.here hx rfl (pc0 := 272) (pc' := 276) rfl (Jvm.hb hby at_272) (by decide) (by decide) ?_
      exact kt)
    obtain ⟨fs, hrL, hrun, hended, hW, hsame⟩ := X916.leave (v := some (.int (1 : Int32))) (fun h => by rw [Bd.returns] at h; cases h)
    refine ⟨_, _, cast (congrFun hPS _) (pre918 _ ?_), hrun, hended, _, _, rfl, ?_, ⟨_, rfl⟩, hW, hsame.mono (by decide) (by decide)⟩
    · show Steps p.tables e below (T916.setTop (mkF m 276 #[.val (.int pp), .val (.int aa), .val (.int bb), .val (.int cc), .val (.int (0 : Int32)), .val (.int t0), .val (.int t1), .val (.int t2), .val (.int t3), .val (.ref tt), .val (.int iv), .val (.int ev), .val (.ref d), .val (.ref wi), .val (.ref ra)] [(.int (1 : Int32))])) _
      exact retN X916 hx (t := .boolean) Bd.returns (by simp) (Jvm.hb hby at_276) hrL
    · show Q0 n0 _ T916.heap _
      exact ⟨rfl, N916⟩
  · skip
    have pre919 : ∀ τ, Steps p.tables e below (T882.setTop (mkF m 103 #[.val (.int pp), .val (.int aa), .val (.int bb), .val (.int cc), .val (.int (1 : Int32)), .val (.int t0), .val (.int t1), .val (.int t2), .val (.int t3), .val (.ref tt), .val (.int iv), .val (.int ev), .unset, .unset, .unset] [])) τ → PS τ := by have hq := pre889; rw [hn] at hq; exact hq
    obtain ⟨T920, h920, k920, X920, e920, E920, A920, st920⟩ := newP (aty := .double) X882 hx hZ (own_W4 hw) e882 (g := (mkF m 105 #[.val (.int pp), .val (.int aa), .val (.int bb), .val (.int cc), .val (.int (1 : Int32)), .val (.int t0), .val (.int t1), .val (.int t2), .val (.int t3), .val (.ref tt), .val (.int iv), .val (.int ev), .unset, .unset, .unset] [(.int (1 : Int32))])) rfl (Jvm.hb hby at_105) rfl (by decide) (cap := 1) (by decide) (by decide) (by decide) (by decide)
    obtain ⟨d, g920⟩ : ∃ z, z = h882.size := ⟨_, rfl⟩
    rw [← g920] at A920 st920
    have ne_tt_d : tt ≠ d := Nat.ne_of_lt (Nat.lt_of_lt_of_le V882.lt (Nat.le_of_eq g920.symm))
    have g_d : n0 ≤ d := Nat.le_trans (Nat.le_trans Z0 K882.1) (Nat.le_of_eq g920.symm)
    have sz_d : h0.size ≤ d := Nat.le_trans K882.1 (Nat.le_of_eq g920.symm)
    have K920 : Keep h0 h920 [] := K882.ext E920
    have V_d : Arv Z h920 d k920 .double (1 : Int32) [(.double (0 : UInt64))] (.double (0 : UInt64)) := (Arv.new A920 (by decide)).pad (pad_rep [] (.double (0 : UInt64)) 1)
    have pre921 := fun (τ : State) kt => pre919 τ (by
      show Steps p.tables e below (T882.setTop (mkF m 103 #[.val (.int pp), .val (.int aa), .val (.int bb), .val (.int cc), .val (.int (1 : Int32)), .val (.int t0), .val (.int t1), .val (.int t2), .val (.int t3), .val (.ref tt), .val (.int iv), .val (.int ev), .unset, .unset, .unset] [])) τ
      refine XS.iload X882.here hx rfl (Jvm.hb hby at_103) rfl ?_
      exact st920 τ kt)
    obtain ⟨cl922, Ar922, q922, S922, M922, H922, U922⟩ := id V_d
    obtain ⟨T923, h923, X923, e923, W923, st923⟩ := own_stD X920 hx hZ e920 Ar922 (j := (0 : Int32)) (inb_of S922 ⟨by decide, by decide⟩) (g := (mkF m 120 #[.val (.int pp), .val (.int aa), .val (.int bb), .val (.int cc), .val (.int (1 : Int32)), .val (.int t0), .val (.int t1), .val (.int t2), .val (.int t3), .val (.ref tt), .val (.int iv), .val (.int ev), .val (.ref d), .unset, .unset] [(.double (FP.i2d t0)), (.int (0 : Int32)), (.ref d)])) rfl rfl (Jvm.hb hby at_120)
    have V923 : Arv Z h923 d k920 .double (1 : Int32) [(.double (FP.i2d t0))] (.double (0 : UInt64)) := Arv.set Ar922 q922 S922 M922 H922 U922 rfl W923 0 rfl (Nat.le_of_ble_eq_true rfl)
    have N923 := Fr.snoc X923 N882 g_d
    have K923 : Keep h0 h923 [] := K920.wr W923 (Or.inr sz_d)
    have pre924 := fun (τ : State) kt => pre921 τ (by
      show Steps p.tables e below (T920.setTop (mkF m 107 #[.val (.int pp), .val (.int aa), .val (.int bb), .val (.int cc), .val (.int (1 : Int32)), .val (.int t0), .val (.int t1), .val (.int t2), .val (.int t3), .val (.ref tt), .val (.int iv), .val (.int ev), .unset, .unset, .unset] [(.ref d)])) τ
      refine XS.astore X920.here hx rfl (Jvm.hb hby at_107) rfl rfl (l' := #[.val (.int pp), .val (.int aa), .val (.int bb), .val (.int cc), .val (.int (1 : Int32)), .val (.int t0), .val (.int t1), .val (.int t2), .val (.int t3), .val (.ref tt), .val (.int iv), .val (.int ev), .val (.ref d), .unset, .unset]) rfl ?_
      refine XS.iload X920.here hx rfl (Jvm.hb hby at_109) rfl ?_
      refine XS.ifNo X920.here hx rfl (Jvm.hb hby at_111) rfl ((if0 _ _).trans (tlt (by decide)).2.2.2) ?_
      refine XS.aload X920.here hx rfl (Jvm.hb hby at_114) rfl rfl ?_
      refine XS.iconst X920.here hx rfl (Jvm.hb hby at_116) ?_
      refine XS.iload X920.here hx rfl (Jvm.hb hby at_117) rfl ?_
      refine own_i2d X920.here hx rfl (Jvm.hb hby at_119) rfl ?_
      exact st923 τ kt)
    obtain ⟨T925, h925, X925, e925, E925, A925, D925, -, st925⟩ := newO X923 hx hZ hown (own_W5 hw) (own_W6 hw) (own_W7 hw) e923 (g := (mkF m 160 #[.val (.int pp), .val (.int aa), .val (.int bb), .val (.int cc), .val (.int (1 : Int32)), .val (.int t0), .val (.int t1), .val (.int t2), .val (.int t3), .val (.ref tt), .val (.int iv), .val (.int ev), .val (.ref d), .unset, .unset] [])) rfl (Jvm.hb hby at_160) (by decide) (by decide)
    obtain ⟨wi, g925⟩ : ∃ z, z = h923.size := ⟨_, rfl⟩
    rw [← g925] at A925 D925 st925
    have f926 := V882.ext E920
    have f927 := f926.other W923 ne_tt_d
    have ne_tt_wi : tt ≠ wi := Nat.ne_of_lt (Nat.lt_of_lt_of_le f927.lt (Nat.le_of_eq g925.symm))
    have ne_d_wi : d ≠ wi := Nat.ne_of_lt (Nat.lt_of_lt_of_le V923.lt (Nat.le_of_eq g925.symm))
    have g_wi : n0 ≤ wi := Nat.le_trans (Nat.le_trans Z0 K923.1) (Nat.le_of_eq g925.symm)
    have sz_wi : h0.size ≤ wi := Nat.le_trans K923.1 (Nat.le_of_eq g925.symm)
    have K925 : Keep h0 h925 [] := K923.ext E925
    have F_start_wi : Fld Z h925 wi "com/example/counterpath/counterpath/core/Window" "start" "D" (.double (0 : UInt64)) := D925 (Or.inr (own_W15 hw)) (ty := .double) (by decide)
    have F_end_wi : Fld Z h925 wi "com/example/counterpath/counterpath/core/Window" "end" "D" (.double (0 : UInt64)) := D925 (Or.inr (own_W17 hw)) (ty := .double) (by decide)
    have pre928 := fun (τ : State) kt => pre924 τ (by
      show Steps p.tables e below (T923.setTop (mkF m 121 #[.val (.int pp), .val (.int aa), .val (.int bb), .val (.int cc), .val (.int (1 : Int32)), .val (.int t0), .val (.int t1), .val (.int t2), .val (.int t3), .val (.ref tt), .val (.int iv), .val (.int ev), .val (.ref d), .unset, .unset] [])) τ
      refine XS.iload X923.here hx rfl (Jvm.hb hby at_121) rfl ?_
      refine XS.iconst X923.here hx rfl (Jvm.hb hby at_123) ?_
      refine XS.icmpYes X923.here hx rfl (pc0 := 124) (pc' := 134) rfl (Jvm.hb hby at_124) rfl (flt (by decide)).2.2.2 (by decide) (by decide) ?_
      refine XS.iload X923.here hx rfl (Jvm.hb hby at_134) rfl ?_
      refine XS.iconst X923.here hx rfl (Jvm.hb hby at_136) ?_
      refine XS.icmpYes X923.here hx rfl (pc0 := 137) (pc' := 147) rfl (Jvm.hb hby at_137) rfl (flt (by decide)).2.2.2 (by decide) (by decide) ?_
      refine XS.iload X923.here hx rfl (Jvm.hb hby at_147) rfl ?_
      refine XS.iconst X923.here hx rfl (Jvm.hb hby at_149) ?_
      refine XS.icmpYes X923.here hx rfl (pc0 := 150) (pc' := 160) rfl (Jvm.hb hby at_150) rfl (flt (by decide)).2.2.2 (by decide) (by decide) ?_
      exact st925 τ kt)
    have pre929 := fun (τ : State) kt => pre928 τ (by
      show Steps p.tables e below (T925.setTop (mkF m 163 #[.val (.int pp), .val (.int aa), .val (.int bb), .val (.int cc), .val (.int (1 : Int32)), .val (.int t0), .val (.int t1), .val (.int t2), .val (.int t3), .val (.ref tt), .val (.int iv), .val (.int ev), .val (.ref d), .unset, .unset] [(.ref wi)])) τ
      refine XS.dup X925.here hx rfl (Jvm.hb hby at_163) rfl rfl ?_
      refine own_dconst0 X925.here hx rfl (Jvm.hb hby at_164) ?_
      refine XS.iload X925.here hx rfl (Jvm.hb hby at_165) rfl ?_
      exact kt)
    obtain ⟨en, hj930, pre930⟩ : ∃ (en : UInt64), ((¬ iv = 0 ∧ en = own_inf) ∨ (iv = 0 ∧ en = FP.i2d ev)) ∧ ∀ τ, Steps p.tables e below (T925.setTop (mkF m 179 #[.val (.int pp), .val (.int aa), .val (.int bb), .val (.int cc), .val (.int (1 : Int32)), .val (.int t0), .val (.int t1), .val (.int t2), .val (.int t3), .val (.ref tt), .val (.int iv), .val (.int ev), .val (.ref d), .unset, .unset] [(.double en), (.double FP.dconst0), (.ref wi), (.ref wi)])) τ → PS τ := by
      by_cases q : iv = (0 : Int32)
      · skip
        have pre931 := fun (τ : State) kt => pre929 τ (by
          show Steps p.tables e below (T925.setTop (mkF m 167 #[.val (.int pp), .val (.int aa), .val (.int bb), .val (.int cc), .val (.int (1 : Int32)), .val (.int t0), .val (.int t1), .val (.int t2), .val (.int t3), .val (.ref tt), .val (.int iv), .val (.int ev), .val (.ref d), .unset, .unset] [(.int iv), (.double FP.dconst0), (.ref wi), (.ref wi)])) τ
          refine XS.ifYes X925.here hx rfl (pc0 := 167) (pc' := 176) rfl (Jvm.hb hby at_167) rfl ((if0 _ _).trans (teq q).1) (by decide) (by decide) ?_
          refine XS.iload X925.here hx rfl (Jvm.hb hby at_176) rfl ?_
          refine own_i2d X925.here hx rfl (Jvm.hb hby at_178) rfl ?_
          exact kt)
        exact ⟨(FP.i2d ev), Or.inr ⟨q, rfl⟩, pre931⟩
      · skip
        have pre932 := fun (τ : State) kt => pre929 τ (by
          show Steps p.tables e below (T925.setTop (mkF m 167 #[.val (.int pp), .val (.int aa), .val (.int bb), .val (.int cc), .val (.int (1 : Int32)), .val (.int t0), .val (.int t1), .val (.int t2), .val (.int t3), .val (.ref tt), .val (.int iv), .val (.int ev), .val (.ref d), .unset, .unset] [(.int iv), (.double FP.dconst0), (.ref wi), (.ref wi)])) τ
          refine XS.ifNo X925.here hx rfl (Jvm.hb hby at_167) rfl ((if0 _ _).trans (feq q).1) ?_
          refine X925.ldc2DoubleC hx hown (mvT hZ (own_W28 hw)) (g := (mkF m 170 #[.val (.int pp), .val (.int aa), .val (.int bb), .val (.int cc), .val (.int (1 : Int32)), .val (.int t0), .val (.int t1), .val (.int t2), .val (.int t3), .val (.ref tt), .val (.int iv), .val (.int ev), .val (.ref d), .unset, .unset] [(.double FP.dconst0), (.ref wi), (.ref wi)])) rfl (Jvm.hb hby at_170) _ ?_
          refine XS.goto X925.here hx rfl (pc0 := 173) (pc' := 179) rfl (Jvm.hb hby at_173) (by decide) (by decide) ?_
          exact kt)
        exact ⟨own_inf, Or.inl ⟨q, rfl⟩, pre932⟩
    obtain ⟨_, T933, L933, X933, ⟨rfl, Nq933, Kq933, z_end⟩, st933⟩ := own_spec (y := own_mn0) (b := wi) X925 hx hZ rfl hown (own_W8 hw) (own_W9 hw) (by decide) (rmWi l Z a0 hw [] wi FP.dconst0 en h925 n0 (Nat.le_trans Z0 K925.1) A925 F_start_wi F_end_wi g_wi) (own_W10 hw) (own_W7 hw) 1 (by decide) (by decide) e925 (mkF m 179 #[.val (.int pp), .val (.int aa), .val (.int bb), .val (.int cc), .val (.int (1 : Int32)), .val (.int t0), .val (.int t1), .val (.int t2), .val (.int t3), .val (.ref tt), .val (.int iv), .val (.int ev), .val (.ref d), .unset, .unset] [(.double en), (.double FP.dconst0), (.ref wi), (.ref wi)]) rfl (by rw [hml]; rfl) [(.double FP.dconst0), (.double en)] [(.ref wi)] rfl (lenOf own_pd__DD_V rfl) rfl (Nat.le_refl _) (Jvm.hb hby at_179) (by decide) (by decide)
    have N933 := Fr.app N923 Nq933
    have K933 : Keep h0 T933.heap [] := K925.trans Kq933 (allS (Or.inr sz_wi) (all0))
    have pre934 := fun (τ : State) kt => pre930 τ (st933 τ kt)
    obtain ⟨lx0, w0⟩ := own_row_ex (n := 1) (ti := t0) (by decide) (by decide) r2.1 r3.1 (by omega) (by omega) hev.1 hev.2 hj930
    have f935 := A925.keep Kq933
    have f936 := V923.ext E925
    have f937 := f936.keep Kq933 (ninS ne_d_wi (nin0))
    obtain ⟨_, T938, L938, X938, ⟨ra, kr, rfl, Nq938, Kq938, g_ra, s_ra, v_ra⟩, st938⟩ := own_virt (y := own_mn1) (b := wi) X933 hx hZ hown (own_W18 hw) (own_W19 hw) (own_W21 hw) (own_W20 hw) (by decide) (rmL1 l Z a0 hw [] wi d k920 iv t0 t1 t2 t3 ev lx0 en T933.heap n0 (Nat.le_trans Z0 K933.1) f935 z_end f937 w0 ) (own_W22 hw) (own_W7 hw) 0 (by decide) (by decide) f935 rfl (mkF m 188 #[.val (.int pp), .val (.int aa), .val (.int bb), .val (.int cc), .val (.int (1 : Int32)), .val (.int t0), .val (.int t1), .val (.int t2), .val (.int t3), .val (.ref tt), .val (.int iv), .val (.int ev), .val (.ref d), .val (.ref wi), .unset] [(.ref d), (.ref wi)]) rfl (by rw [hml]; rfl) [(.ref d)] [] rfl (lenOf own_pd___D__I rfl) rfl (Nat.le_refl _) (Jvm.hb hby at_188) (by decide) (by decide)
    have N938 := Fr.app N933 Nq938
    have K938 : Keep h0 T938.heap [] := K933.trans Kq938 (all0)
    have pre939 := fun (τ : State) kt => pre934 τ (by
      show Steps p.tables e below (T933.setTop (mkF m 182 #[.val (.int pp), .val (.int aa), .val (.int bb), .val (.int cc), .val (.int (1 : Int32)), .val (.int t0), .val (.int t1), .val (.int t2), .val (.int t3), .val (.ref tt), .val (.int iv), .val (.int ev), .val (.ref d), .unset, .unset] [(.ref wi)])) τ
      refine XS.astore X933.here hx rfl (Jvm.hb hby at_182) rfl rfl (l' := #[.val (.int pp), .val (.int aa), .val (.int bb), .val (.int cc), .val (.int (1 : Int32)), .val (.int t0), .val (.int t1), .val (.int t2), .val (.int t3), .val (.ref tt), .val (.int iv), .val (.int ev), .val (.ref d), .val (.ref wi), .unset]) rfl ?_
      refine XS.aload X933.here hx rfl (Jvm.hb hby at_184) rfl rfl ?_
      refine XS.aload X933.here hx rfl (Jvm.hb hby at_186) rfl rfl ?_
      exact st938 τ kt)
    obtain ⟨cl940, Ar940, q940, S940, M940, H940, U940⟩ := id v_ra
    have pre941 := fun (τ : State) kt => pre939 τ (by
      show Steps p.tables e below (T938.setTop (mkF m 191 #[.val (.int pp), .val (.int aa), .val (.int bb), .val (.int cc), .val (.int (1 : Int32)), .val (.int t0), .val (.int t1), .val (.int t2), .val (.int t3), .val (.ref tt), .val (.int iv), .val (.int ev), .val (.ref d), .val (.ref wi), .unset] [(.ref ra)])) τ
      refine XS.astore X938.here hx rfl (Jvm.hb hby at_191) rfl rfl (l' := #[.val (.int pp), .val (.int aa), .val (.int bb), .val (.int cc), .val (.int (1 : Int32)), .val (.int t0), .val (.int t1), .val (.int t2), .val (.int t3), .val (.ref tt), .val (.int iv), .val (.int ev), .val (.ref d), .val (.ref wi), .val (.ref ra)]) rfl ?_
      refine XS.aload X938.here hx rfl (Jvm.hb hby at_193) rfl rfl ?_
      refine X938.arraylength hx ((congrArg (fun (HH : Heap) => HH[ra]?) (rfl : T938.heap = T938.heap)).trans Ar940.1) (State.isArrayOf_alike hZ.alike Ar940.2.1) (g := (mkF m 195 #[.val (.int pp), .val (.int aa), .val (.int bb), .val (.int cc), .val (.int (1 : Int32)), .val (.int t0), .val (.int t1), .val (.int t2), .val (.int t3), .val (.ref tt), .val (.int iv), .val (.int ev), .val (.ref d), .val (.ref wi), .val (.ref ra)] [(.ref ra)])) rfl rfl (Jvm.hb hby at_195) _ ?_
      exact kt)
    have pre942 : ∀ τ, Steps p.tables e below (T938.setTop (mkF m 196 #[.val (.int pp), .val (.int aa), .val (.int bb), .val (.int cc), .val (.int (1 : Int32)), .val (.int t0), .val (.int t1), .val (.int t2), .val (.int t3), .val (.ref tt), .val (.int iv), .val (.int ev), .val (.ref d), .val (.ref wi), .val (.ref ra)] [(.int (1 : Int32))])) τ → PS τ := by
      have hq := pre941
      rw [len_of S940 M940] at hq
      exact hq
    have f943 := f927.ext E925
    have f944 := f943.keep Kq933 (ninS ne_tt_wi (nin0))
    have f945 := f944.keep Kq938 (nin0)
    obtain ⟨_, T946, L946, X946, ⟨rfl, Nq946, eq946⟩, st946⟩ := own_stat (y := own_mn2) X938 hx hZ hown (own_W23 hw) (own_W24 hw) (by decide) (rmC0_1 l Z a0 hw [] ra (0 : Int32) (1 : Int32) tt ev iv kr k870 t0 t1 t2 t3 lx0 en T938.heap n0 (Nat.le_trans Z0 K938.1) rfl rfl v_ra f945 w0) (own_W26 hw) (own_W25 hw) 0 (by decide) (by decide) rfl (mkF m 214 #[.val (.int pp), .val (.int aa), .val (.int bb), .val (.int cc), .val (.int (1 : Int32)), .val (.int t0), .val (.int t1), .val (.int t2), .val (.int t3), .val (.ref tt), .val (.int iv), .val (.int ev), .val (.ref d), .val (.ref wi), .val (.ref ra)] [(.int iv), (.int ev), (.ref tt), (.int (1 : Int32)), (.int (0 : Int32)), (.ref ra)]) rfl (by rw [hml]; rfl) [(.ref ra), (.int (0 : Int32)), (.int (1 : Int32)), (.ref tt), (.int ev), (.int iv)] [] rfl (lenOf own_pd___III_IIZ_Z rfl) rfl (Nat.le_refl _) (Jvm.hb hby at_214) (by decide) (by decide)
    have N946 := Fr.app N938 Nq946
    have pre947 := fun (τ : State) kt => pre942 τ (by
      show Steps p.tables e below (T938.setTop (mkF m 196 #[.val (.int pp), .val (.int aa), .val (.int bb), .val (.int cc), .val (.int (1 : Int32)), .val (.int t0), .val (.int t1), .val (.int t2), .val (.int t3), .val (.ref tt), .val (.int iv), .val (.int ev), .val (.ref d), .val (.ref wi), .val (.ref ra)] [(.int (1 : Int32))])) τ
      refine XS.iload X938.here hx rfl (Jvm.hb hby at_196) rfl ?_
      refine XS.icmpYes X938.here hx rfl (pc0 := 198) (pc' := 203) rfl (Jvm.hb hby at_198) rfl (teq rfl).1 (by decide) (by decide) ?_
      refine XS.aload X938.here hx rfl (Jvm.hb hby at_203) rfl rfl ?_
      refine XS.iconst X938.here hx rfl (Jvm.hb hby at_205) ?_
      refine XS.iload X938.here hx rfl (Jvm.hb hby at_206) rfl ?_
      refine XS.aload X938.here hx rfl (Jvm.hb hby at_208) rfl rfl ?_
      refine XS.iload X938.here hx rfl (Jvm.hb hby at_210) rfl ?_
      refine XS.iload X938.here hx rfl (Jvm.hb hby at_212) rfl ?_
      exact st946 τ kt)
    obtain ⟨_, T948, L948, X948, ⟨rfl, Nq948, eq948⟩, st948⟩ := own_stat (y := own_mn2) X946 hx hZ hown (own_W23 hw) (own_W24 hw) (by decide) (rmCo l Z a0 hw [] ra (1 : Int32) (1 : Int32) tt ev iv T938.heap n0 (Nat.le_trans Z0 K938.1) (by decide)) (own_W26 hw) (own_W25 hw) 0 (by decide) (by decide) eq946 (mkF m 231 #[.val (.int pp), .val (.int aa), .val (.int bb), .val (.int cc), .val (.int (1 : Int32)), .val (.int t0), .val (.int t1), .val (.int t2), .val (.int t3), .val (.ref tt), .val (.int iv), .val (.int ev), .val (.ref d), .val (.ref wi), .val (.ref ra)] [(.int iv), (.int ev), (.ref tt), (.int (1 : Int32)), (.int (1 : Int32)), (.ref ra)]) rfl (by rw [hml]; rfl) [(.ref ra), (.int (1 : Int32)), (.int (1 : Int32)), (.ref tt), (.int ev), (.int iv)] [] rfl (lenOf own_pd___III_IIZ_Z rfl) rfl (Nat.le_refl _) (Jvm.hb hby at_231) (by decide) (by decide)
    have N948 := Fr.app N946 Nq948
    have pre949 := fun (τ : State) kt => pre947 τ (by
      show Steps p.tables e below (T946.setTop (mkF m 217 #[.val (.int pp), .val (.int aa), .val (.int bb), .val (.int cc), .val (.int (1 : Int32)), .val (.int t0), .val (.int t1), .val (.int t2), .val (.int t3), .val (.ref tt), .val (.int iv), .val (.int ev), .val (.ref d), .val (.ref wi), .val (.ref ra)] [(.int (1 : Int32))])) τ
      refine XS.ifNo X946.here hx rfl (Jvm.hb hby at_217) rfl ((if0 _ _).trans (feq (by decide)).1) ?_
      refine XS.aload X946.here hx rfl (Jvm.hb hby at_220) rfl rfl ?_
      refine XS.iconst X946.here hx rfl (Jvm.hb hby at_222) ?_
      refine XS.iload X946.here hx rfl (Jvm.hb hby at_223) rfl ?_
      refine XS.aload X946.here hx rfl (Jvm.hb hby at_225) rfl rfl ?_
      refine XS.iload X946.here hx rfl (Jvm.hb hby at_227) rfl ?_
      refine XS.iload X946.here hx rfl (Jvm.hb hby at_229) rfl ?_
      exact st948 τ kt)
    obtain ⟨_, T950, L950, X950, ⟨rfl, Nq950, eq950⟩, st950⟩ := own_stat (y := own_mn2) X948 hx hZ hown (own_W23 hw) (own_W24 hw) (by decide) (rmCo l Z a0 hw [] ra (2 : Int32) (1 : Int32) tt ev iv T938.heap n0 (Nat.le_trans Z0 K938.1) (by decide)) (own_W26 hw) (own_W25 hw) 0 (by decide) (by decide) eq948 (mkF m 248 #[.val (.int pp), .val (.int aa), .val (.int bb), .val (.int cc), .val (.int (1 : Int32)), .val (.int t0), .val (.int t1), .val (.int t2), .val (.int t3), .val (.ref tt), .val (.int iv), .val (.int ev), .val (.ref d), .val (.ref wi), .val (.ref ra)] [(.int iv), (.int ev), (.ref tt), (.int (1 : Int32)), (.int (2 : Int32)), (.ref ra)]) rfl (by rw [hml]; rfl) [(.ref ra), (.int (2 : Int32)), (.int (1 : Int32)), (.ref tt), (.int ev), (.int iv)] [] rfl (lenOf own_pd___III_IIZ_Z rfl) rfl (Nat.le_refl _) (Jvm.hb hby at_248) (by decide) (by decide)
    have N950 := Fr.app N948 Nq950
    have pre951 := fun (τ : State) kt => pre949 τ (by
      show Steps p.tables e below (T948.setTop (mkF m 234 #[.val (.int pp), .val (.int aa), .val (.int bb), .val (.int cc), .val (.int (1 : Int32)), .val (.int t0), .val (.int t1), .val (.int t2), .val (.int t3), .val (.ref tt), .val (.int iv), .val (.int ev), .val (.ref d), .val (.ref wi), .val (.ref ra)] [(.int (1 : Int32))])) τ
      refine XS.ifNo X948.here hx rfl (Jvm.hb hby at_234) rfl ((if0 _ _).trans (feq (by decide)).1) ?_
      refine XS.aload X948.here hx rfl (Jvm.hb hby at_237) rfl rfl ?_
      refine XS.iconst X948.here hx rfl (Jvm.hb hby at_239) ?_
      refine XS.iload X948.here hx rfl (Jvm.hb hby at_240) rfl ?_
      refine XS.aload X948.here hx rfl (Jvm.hb hby at_242) rfl rfl ?_
      refine XS.iload X948.here hx rfl (Jvm.hb hby at_244) rfl ?_
      refine XS.iload X948.here hx rfl (Jvm.hb hby at_246) rfl ?_
      exact st950 τ kt)
    obtain ⟨_, T952, L952, X952, ⟨rfl, Nq952, eq952⟩, st952⟩ := own_stat (y := own_mn2) X950 hx hZ hown (own_W23 hw) (own_W24 hw) (by decide) (rmCo l Z a0 hw [] ra (3 : Int32) (1 : Int32) tt ev iv T938.heap n0 (Nat.le_trans Z0 K938.1) (by decide)) (own_W26 hw) (own_W25 hw) 0 (by decide) (by decide) eq950 (mkF m 265 #[.val (.int pp), .val (.int aa), .val (.int bb), .val (.int cc), .val (.int (1 : Int32)), .val (.int t0), .val (.int t1), .val (.int t2), .val (.int t3), .val (.ref tt), .val (.int iv), .val (.int ev), .val (.ref d), .val (.ref wi), .val (.ref ra)] [(.int iv), (.int ev), (.ref tt), (.int (1 : Int32)), (.int (3 : Int32)), (.ref ra)]) rfl (by rw [hml]; rfl) [(.ref ra), (.int (3 : Int32)), (.int (1 : Int32)), (.ref tt), (.int ev), (.int iv)] [] rfl (lenOf own_pd___III_IIZ_Z rfl) rfl (Nat.le_refl _) (Jvm.hb hby at_265) (by decide) (by decide)
    have N952 := Fr.app N950 Nq952
    have pre953 := fun (τ : State) kt => pre951 τ (by
      show Steps p.tables e below (T950.setTop (mkF m 251 #[.val (.int pp), .val (.int aa), .val (.int bb), .val (.int cc), .val (.int (1 : Int32)), .val (.int t0), .val (.int t1), .val (.int t2), .val (.int t3), .val (.ref tt), .val (.int iv), .val (.int ev), .val (.ref d), .val (.ref wi), .val (.ref ra)] [(.int (1 : Int32))])) τ
      refine XS.ifNo X950.here hx rfl (Jvm.hb hby at_251) rfl ((if0 _ _).trans (feq (by decide)).1) ?_
      refine XS.aload X950.here hx rfl (Jvm.hb hby at_254) rfl rfl ?_
      refine XS.iconst X950.here hx rfl (Jvm.hb hby at_256) ?_
      refine XS.iload X950.here hx rfl (Jvm.hb hby at_257) rfl ?_
      refine XS.aload X950.here hx rfl (Jvm.hb hby at_259) rfl rfl ?_
      refine XS.iload X950.here hx rfl (Jvm.hb hby at_261) rfl ?_
      refine XS.iload X950.here hx rfl (Jvm.hb hby at_263) rfl ?_
      exact st952 τ kt)
    have pre954 := fun (τ : State) kt => pre953 τ (by
      show Steps p.tables e below (T952.setTop (mkF m 268 #[.val (.int pp), .val (.int aa), .val (.int bb), .val (.int cc), .val (.int (1 : Int32)), .val (.int t0), .val (.int t1), .val (.int t2), .val (.int t3), .val (.ref tt), .val (.int iv), .val (.int ev), .val (.ref d), .val (.ref wi), .val (.ref ra)] [(.int (1 : Int32))])) τ
      refine XS.ifNo X952.here hx rfl (Jvm.hb hby at_268) rfl ((if0 _ _).trans (feq (by decide)).1) ?_
      refine XS.iconst X952.here hx rfl (Jvm.hb hby at_271) ?_
      refine XS.goto X952.here hx rfl (pc0 := 272) (pc' := 276) rfl (Jvm.hb hby at_272) (by decide) (by decide) ?_
      exact kt)
    obtain ⟨fs, hrL, hrun, hended, hW, hsame⟩ := X952.leave (v := some (.int (1 : Int32))) (fun h => by rw [Bd.returns] at h; cases h)
    refine ⟨_, _, cast (congrFun hPS _) (pre954 _ ?_), hrun, hended, _, _, rfl, ?_, ⟨_, rfl⟩, hW, hsame.mono (by decide) (by decide)⟩
    · show Steps p.tables e below (T952.setTop (mkF m 276 #[.val (.int pp), .val (.int aa), .val (.int bb), .val (.int cc), .val (.int (1 : Int32)), .val (.int t0), .val (.int t1), .val (.int t2), .val (.int t3), .val (.ref tt), .val (.int iv), .val (.int ev), .val (.ref d), .val (.ref wi), .val (.ref ra)] [(.int (1 : Int32))])) _
      exact retN X952 hx (t := .boolean) Bd.returns (by simp) (Jvm.hb hby at_276) hrL
    · show Q0 n0 _ T952.heap _
      exact ⟨rfl, N952⟩
  · skip
    have pre955 : ∀ τ, Steps p.tables e below (T882.setTop (mkF m 103 #[.val (.int pp), .val (.int aa), .val (.int bb), .val (.int cc), .val (.int (2 : Int32)), .val (.int t0), .val (.int t1), .val (.int t2), .val (.int t3), .val (.ref tt), .val (.int iv), .val (.int ev), .unset, .unset, .unset] [])) τ → PS τ := by have hq := pre889; rw [hn] at hq; exact hq
    obtain ⟨T956, h956, k956, X956, e956, E956, A956, st956⟩ := newP (aty := .double) X882 hx hZ (own_W4 hw) e882 (g := (mkF m 105 #[.val (.int pp), .val (.int aa), .val (.int bb), .val (.int cc), .val (.int (2 : Int32)), .val (.int t0), .val (.int t1), .val (.int t2), .val (.int t3), .val (.ref tt), .val (.int iv), .val (.int ev), .unset, .unset, .unset] [(.int (2 : Int32))])) rfl (Jvm.hb hby at_105) rfl (by decide) (cap := 2) (by decide) (by decide) (by decide) (by decide)
    obtain ⟨d, g956⟩ : ∃ z, z = h882.size := ⟨_, rfl⟩
    rw [← g956] at A956 st956
    have ne_tt_d : tt ≠ d := Nat.ne_of_lt (Nat.lt_of_lt_of_le V882.lt (Nat.le_of_eq g956.symm))
    have g_d : n0 ≤ d := Nat.le_trans (Nat.le_trans Z0 K882.1) (Nat.le_of_eq g956.symm)
    have sz_d : h0.size ≤ d := Nat.le_trans K882.1 (Nat.le_of_eq g956.symm)
    have K956 : Keep h0 h956 [] := K882.ext E956
    have V_d : Arv Z h956 d k956 .double (2 : Int32) [(.double (0 : UInt64)), (.double (0 : UInt64))] (.double (0 : UInt64)) := (Arv.new A956 (by decide)).pad (pad_rep [] (.double (0 : UInt64)) 2)
    have pre957 := fun (τ : State) kt => pre955 τ (by
      show Steps p.tables e below (T882.setTop (mkF m 103 #[.val (.int pp), .val (.int aa), .val (.int bb), .val (.int cc), .val (.int (2 : Int32)), .val (.int t0), .val (.int t1), .val (.int t2), .val (.int t3), .val (.ref tt), .val (.int iv), .val (.int ev), .unset, .unset, .unset] [])) τ
      refine XS.iload X882.here hx rfl (Jvm.hb hby at_103) rfl ?_
      exact st956 τ kt)
    obtain ⟨cl958, Ar958, q958, S958, M958, H958, U958⟩ := id V_d
    obtain ⟨T959, h959, X959, e959, W959, st959⟩ := own_stD X956 hx hZ e956 Ar958 (j := (0 : Int32)) (inb_of S958 ⟨by decide, by decide⟩) (g := (mkF m 120 #[.val (.int pp), .val (.int aa), .val (.int bb), .val (.int cc), .val (.int (2 : Int32)), .val (.int t0), .val (.int t1), .val (.int t2), .val (.int t3), .val (.ref tt), .val (.int iv), .val (.int ev), .val (.ref d), .unset, .unset] [(.double (FP.i2d t0)), (.int (0 : Int32)), (.ref d)])) rfl rfl (Jvm.hb hby at_120)
    have V959 : Arv Z h959 d k956 .double (2 : Int32) [(.double (FP.i2d t0)), (.double (0 : UInt64))] (.double (0 : UInt64)) := Arv.set Ar958 q958 S958 M958 H958 U958 rfl W959 0 rfl (Nat.le_of_ble_eq_true rfl)
    have N959 := Fr.snoc X959 N882 g_d
    have K959 : Keep h0 h959 [] := K956.wr W959 (Or.inr sz_d)
    have pre960 := fun (τ : State) kt => pre957 τ (by
      show Steps p.tables e below (T956.setTop (mkF m 107 #[.val (.int pp), .val (.int aa), .val (.int bb), .val (.int cc), .val (.int (2 : Int32)), .val (.int t0), .val (.int t1), .val (.int t2), .val (.int t3), .val (.ref tt), .val (.int iv), .val (.int ev), .unset, .unset, .unset] [(.ref d)])) τ
      refine XS.astore X956.here hx rfl (Jvm.hb hby at_107) rfl rfl (l' := #[.val (.int pp), .val (.int aa), .val (.int bb), .val (.int cc), .val (.int (2 : Int32)), .val (.int t0), .val (.int t1), .val (.int t2), .val (.int t3), .val (.ref tt), .val (.int iv), .val (.int ev), .val (.ref d), .unset, .unset]) rfl ?_
      refine XS.iload X956.here hx rfl (Jvm.hb hby at_109) rfl ?_
      refine XS.ifNo X956.here hx rfl (Jvm.hb hby at_111) rfl ((if0 _ _).trans (tlt (by decide)).2.2.2) ?_
      refine XS.aload X956.here hx rfl (Jvm.hb hby at_114) rfl rfl ?_
      refine XS.iconst X956.here hx rfl (Jvm.hb hby at_116) ?_
      refine XS.iload X956.here hx rfl (Jvm.hb hby at_117) rfl ?_
      refine own_i2d X956.here hx rfl (Jvm.hb hby at_119) rfl ?_
      exact st959 τ kt)
    obtain ⟨cl961, Ar961, q961, S961, M961, H961, U961⟩ := id V959
    obtain ⟨T962, h962, X962, e962, W962, st962⟩ := own_stD X959 hx hZ e959 Ar961 (j := (1 : Int32)) (inb_of S961 ⟨by decide, by decide⟩) (g := (mkF m 133 #[.val (.int pp), .val (.int aa), .val (.int bb), .val (.int cc), .val (.int (2 : Int32)), .val (.int t0), .val (.int t1), .val (.int t2), .val (.int t3), .val (.ref tt), .val (.int iv), .val (.int ev), .val (.ref d), .unset, .unset] [(.double (FP.i2d t1)), (.int (1 : Int32)), (.ref d)])) rfl rfl (Jvm.hb hby at_133)
    have V962 : Arv Z h962 d k956 .double (2 : Int32) [(.double (FP.i2d t0)), (.double (FP.i2d t1))] (.double (0 : UInt64)) := Arv.set Ar961 q961 S961 M961 H961 U961 rfl W962 1 rfl (Nat.le_of_ble_eq_true rfl)
    have N962 := Fr.snoc X962 N959 g_d
    have K962 : Keep h0 h962 [] := K959.wr W962 (Or.inr sz_d)
    have pre963 := fun (τ : State) kt => pre960 τ (by
      show Steps p.tables e below (T959.setTop (mkF m 121 #[.val (.int pp), .val (.int aa), .val (.int bb), .val (.int cc), .val (.int (2 : Int32)), .val (.int t0), .val (.int t1), .val (.int t2), .val (.int t3), .val (.ref tt), .val (.int iv), .val (.int ev), .val (.ref d), .unset, .unset] [])) τ
      refine XS.iload X959.here hx rfl (Jvm.hb hby at_121) rfl ?_
      refine XS.iconst X959.here hx rfl (Jvm.hb hby at_123) ?_
      refine XS.icmpNo X959.here hx rfl (Jvm.hb hby at_124) rfl (tlt (by decide)).2.2.2 ?_
      refine XS.aload X959.here hx rfl (Jvm.hb hby at_127) rfl rfl ?_
      refine XS.iconst X959.here hx rfl (Jvm.hb hby at_129) ?_
      refine XS.iload X959.here hx rfl (Jvm.hb hby at_130) rfl ?_
      refine own_i2d X959.here hx rfl (Jvm.hb hby at_132) rfl ?_
      exact st962 τ kt)
    obtain ⟨T964, h964, X964, e964, E964, A964, D964, -, st964⟩ := newO X962 hx hZ hown (own_W5 hw) (own_W6 hw) (own_W7 hw) e962 (g := (mkF m 160 #[.val (.int pp), .val (.int aa), .val (.int bb), .val (.int cc), .val (.int (2 : Int32)), .val (.int t0), .val (.int t1), .val (.int t2), .val (.int t3), .val (.ref tt), .val (.int iv), .val (.int ev), .val (.ref d), .unset, .unset] [])) rfl (Jvm.hb hby at_160) (by decide) (by decide)
    obtain ⟨wi, g964⟩ : ∃ z, z = h962.size := ⟨_, rfl⟩
    rw [← g964] at A964 D964 st964
    have f965 := V882.ext E956
    have f966 := f965.other W959 ne_tt_d
    have f967 := f966.other W962 ne_tt_d
    have ne_tt_wi : tt ≠ wi := Nat.ne_of_lt (Nat.lt_of_lt_of_le f967.lt (Nat.le_of_eq g964.symm))
    have ne_d_wi : d ≠ wi := Nat.ne_of_lt (Nat.lt_of_lt_of_le V962.lt (Nat.le_of_eq g964.symm))
    have g_wi : n0 ≤ wi := Nat.le_trans (Nat.le_trans Z0 K962.1) (Nat.le_of_eq g964.symm)
    have sz_wi : h0.size ≤ wi := Nat.le_trans K962.1 (Nat.le_of_eq g964.symm)
    have K964 : Keep h0 h964 [] := K962.ext E964
    have F_start_wi : Fld Z h964 wi "com/example/counterpath/counterpath/core/Window" "start" "D" (.double (0 : UInt64)) := D964 (Or.inr (own_W15 hw)) (ty := .double) (by decide)
    have F_end_wi : Fld Z h964 wi "com/example/counterpath/counterpath/core/Window" "end" "D" (.double (0 : UInt64)) := D964 (Or.inr (own_W17 hw)) (ty := .double) (by decide)
    have pre968 := fun (τ : State) kt => pre963 τ (by
      show Steps p.tables e below (T962.setTop (mkF m 134 #[.val (.int pp), .val (.int aa), .val (.int bb), .val (.int cc), .val (.int (2 : Int32)), .val (.int t0), .val (.int t1), .val (.int t2), .val (.int t3), .val (.ref tt), .val (.int iv), .val (.int ev), .val (.ref d), .unset, .unset] [])) τ
      refine XS.iload X962.here hx rfl (Jvm.hb hby at_134) rfl ?_
      refine XS.iconst X962.here hx rfl (Jvm.hb hby at_136) ?_
      refine XS.icmpYes X962.here hx rfl (pc0 := 137) (pc' := 147) rfl (Jvm.hb hby at_137) rfl (flt (by decide)).2.2.2 (by decide) (by decide) ?_
      refine XS.iload X962.here hx rfl (Jvm.hb hby at_147) rfl ?_
      refine XS.iconst X962.here hx rfl (Jvm.hb hby at_149) ?_
      refine XS.icmpYes X962.here hx rfl (pc0 := 150) (pc' := 160) rfl (Jvm.hb hby at_150) rfl (flt (by decide)).2.2.2 (by decide) (by decide) ?_
      exact st964 τ kt)
    have pre969 := fun (τ : State) kt => pre968 τ (by
      show Steps p.tables e below (T964.setTop (mkF m 163 #[.val (.int pp), .val (.int aa), .val (.int bb), .val (.int cc), .val (.int (2 : Int32)), .val (.int t0), .val (.int t1), .val (.int t2), .val (.int t3), .val (.ref tt), .val (.int iv), .val (.int ev), .val (.ref d), .unset, .unset] [(.ref wi)])) τ
      refine XS.dup X964.here hx rfl (Jvm.hb hby at_163) rfl rfl ?_
      refine own_dconst0 X964.here hx rfl (Jvm.hb hby at_164) ?_
      refine XS.iload X964.here hx rfl (Jvm.hb hby at_165) rfl ?_
      exact kt)
    obtain ⟨en, hj970, pre970⟩ : ∃ (en : UInt64), ((¬ iv = 0 ∧ en = own_inf) ∨ (iv = 0 ∧ en = FP.i2d ev)) ∧ ∀ τ, Steps p.tables e below (T964.setTop (mkF m 179 #[.val (.int pp), .val (.int aa), .val (.int bb), .val (.int cc), .val (.int (2 : Int32)), .val (.int t0), .val (.int t1), .val (.int t2), .val (.int t3), .val (.ref tt), .val (.int iv), .val (.int ev), .val (.ref d), .unset, .unset] [(.double en), (.double FP.dconst0), (.ref wi), (.ref wi)])) τ → PS τ := by
      by_cases q : iv = (0 : Int32)
      · skip
        have pre971 := fun (τ : State) kt => pre969 τ (by
          show Steps p.tables e below (T964.setTop (mkF m 167 #[.val (.int pp), .val (.int aa), .val (.int bb), .val (.int cc), .val (.int (2 : Int32)), .val (.int t0), .val (.int t1), .val (.int t2), .val (.int t3), .val (.ref tt), .val (.int iv), .val (.int ev), .val (.ref d), .unset, .unset] [(.int iv), (.double FP.dconst0), (.ref wi), (.ref wi)])) τ
          refine XS.ifYes X964.here hx rfl (pc0 := 167) (pc' := 176) rfl (Jvm.hb hby at_167) rfl ((if0 _ _).trans (teq q).1) (by decide) (by decide) ?_
          refine XS.iload X964.here hx rfl (Jvm.hb hby at_176) rfl ?_
          refine own_i2d X964.here hx rfl (Jvm.hb hby at_178) rfl ?_
          exact kt)
        exact ⟨(FP.i2d ev), Or.inr ⟨q, rfl⟩, pre971⟩
      · skip
        have pre972 := fun (τ : State) kt => pre969 τ (by
          show Steps p.tables e below (T964.setTop (mkF m 167 #[.val (.int pp), .val (.int aa), .val (.int bb), .val (.int cc), .val (.int (2 : Int32)), .val (.int t0), .val (.int t1), .val (.int t2), .val (.int t3), .val (.ref tt), .val (.int iv), .val (.int ev), .val (.ref d), .unset, .unset] [(.int iv), (.double FP.dconst0), (.ref wi), (.ref wi)])) τ
          refine XS.ifNo X964.here hx rfl (Jvm.hb hby at_167) rfl ((if0 _ _).trans (feq q).1) ?_
          refine X964.ldc2DoubleC hx hown (mvT hZ (own_W28 hw)) (g := (mkF m 170 #[.val (.int pp), .val (.int aa), .val (.int bb), .val (.int cc), .val (.int (2 : Int32)), .val (.int t0), .val (.int t1), .val (.int t2), .val (.int t3), .val (.ref tt), .val (.int iv), .val (.int ev), .val (.ref d), .unset, .unset] [(.double FP.dconst0), (.ref wi), (.ref wi)])) rfl (Jvm.hb hby at_170) _ ?_
          refine XS.goto X964.here hx rfl (pc0 := 173) (pc' := 179) rfl (Jvm.hb hby at_173) (by decide) (by decide) ?_
          exact kt)
        exact ⟨own_inf, Or.inl ⟨q, rfl⟩, pre972⟩
    obtain ⟨_, T973, L973, X973, ⟨rfl, Nq973, Kq973, z_end⟩, st973⟩ := own_spec (y := own_mn0) (b := wi) X964 hx hZ rfl hown (own_W8 hw) (own_W9 hw) (by decide) (rmWi l Z a0 hw [] wi FP.dconst0 en h964 n0 (Nat.le_trans Z0 K964.1) A964 F_start_wi F_end_wi g_wi) (own_W10 hw) (own_W7 hw) 1 (by decide) (by decide) e964 (mkF m 179 #[.val (.int pp), .val (.int aa), .val (.int bb), .val (.int cc), .val (.int (2 : Int32)), .val (.int t0), .val (.int t1), .val (.int t2), .val (.int t3), .val (.ref tt), .val (.int iv), .val (.int ev), .val (.ref d), .unset, .unset] [(.double en), (.double FP.dconst0), (.ref wi), (.ref wi)]) rfl (by rw [hml]; rfl) [(.double FP.dconst0), (.double en)] [(.ref wi)] rfl (lenOf own_pd__DD_V rfl) rfl (Nat.le_refl _) (Jvm.hb hby at_179) (by decide) (by decide)
    have N973 := Fr.app N962 Nq973
    have K973 : Keep h0 T973.heap [] := K964.trans Kq973 (allS (Or.inr sz_wi) (all0))
    have pre974 := fun (τ : State) kt => pre970 τ (st973 τ kt)
    obtain ⟨lx0, w0⟩ := own_row_ex (n := 2) (ti := t0) (by decide) (by decide) r2.1 r3.1 (by omega) (by omega) hev.1 hev.2 hj970
    obtain ⟨lx1, w1⟩ := own_row_ex (n := 2) (ti := t1) (by decide) (by decide) r2.1 r3.1 (by omega) (by omega) hev.1 hev.2 hj970
    have m1 := own_row_mono w0 w1 (by omega) (by omega) (by omega) hev.1 hev.2 (by decide)
    have f975 := A964.keep Kq973
    have f976 := V962.ext E964
    have f977 := f976.keep Kq973 (ninS ne_d_wi (nin0))
    obtain ⟨_, T978, L978, X978, ⟨ra, kr, rfl, Nq978, Kq978, g_ra, s_ra, v_ra⟩, st978⟩ := own_virt (y := own_mn1) (b := wi) X973 hx hZ hown (own_W18 hw) (own_W19 hw) (own_W21 hw) (own_W20 hw) (by decide) (rmL2 l Z a0 hw [] wi d k956 iv t0 t1 t2 t3 ev lx0 lx1 en T973.heap n0 (Nat.le_trans Z0 K973.1) f975 z_end f977 w0 w1 m1) (own_W22 hw) (own_W7 hw) 0 (by decide) (by decide) f975 rfl (mkF m 188 #[.val (.int pp), .val (.int aa), .val (.int bb), .val (.int cc), .val (.int (2 : Int32)), .val (.int t0), .val (.int t1), .val (.int t2), .val (.int t3), .val (.ref tt), .val (.int iv), .val (.int ev), .val (.ref d), .val (.ref wi), .unset] [(.ref d), (.ref wi)]) rfl (by rw [hml]; rfl) [(.ref d)] [] rfl (lenOf own_pd___D__I rfl) rfl (Nat.le_refl _) (Jvm.hb hby at_188) (by decide) (by decide)
    have N978 := Fr.app N973 Nq978
    have K978 : Keep h0 T978.heap [] := K973.trans Kq978 (all0)
    have pre979 := fun (τ : State) kt => pre974 τ (by
      show Steps p.tables e below (T973.setTop (mkF m 182 #[.val (.int pp), .val (.int aa), .val (.int bb), .val (.int cc), .val (.int (2 : Int32)), .val (.int t0), .val (.int t1), .val (.int t2), .val (.int t3), .val (.ref tt), .val (.int iv), .val (.int ev), .val (.ref d), .unset, .unset] [(.ref wi)])) τ
      refine XS.astore X973.here hx rfl (Jvm.hb hby at_182) rfl rfl (l' := #[.val (.int pp), .val (.int aa), .val (.int bb), .val (.int cc), .val (.int (2 : Int32)), .val (.int t0), .val (.int t1), .val (.int t2), .val (.int t3), .val (.ref tt), .val (.int iv), .val (.int ev), .val (.ref d), .val (.ref wi), .unset]) rfl ?_
      refine XS.aload X973.here hx rfl (Jvm.hb hby at_184) rfl rfl ?_
      refine XS.aload X973.here hx rfl (Jvm.hb hby at_186) rfl rfl ?_
      exact st978 τ kt)
    obtain ⟨cl980, Ar980, q980, S980, M980, H980, U980⟩ := id v_ra
    have pre981 := fun (τ : State) kt => pre979 τ (by
      show Steps p.tables e below (T978.setTop (mkF m 191 #[.val (.int pp), .val (.int aa), .val (.int bb), .val (.int cc), .val (.int (2 : Int32)), .val (.int t0), .val (.int t1), .val (.int t2), .val (.int t3), .val (.ref tt), .val (.int iv), .val (.int ev), .val (.ref d), .val (.ref wi), .unset] [(.ref ra)])) τ
      refine XS.astore X978.here hx rfl (Jvm.hb hby at_191) rfl rfl (l' := #[.val (.int pp), .val (.int aa), .val (.int bb), .val (.int cc), .val (.int (2 : Int32)), .val (.int t0), .val (.int t1), .val (.int t2), .val (.int t3), .val (.ref tt), .val (.int iv), .val (.int ev), .val (.ref d), .val (.ref wi), .val (.ref ra)]) rfl ?_
      refine XS.aload X978.here hx rfl (Jvm.hb hby at_193) rfl rfl ?_
      refine X978.arraylength hx ((congrArg (fun (HH : Heap) => HH[ra]?) (rfl : T978.heap = T978.heap)).trans Ar980.1) (State.isArrayOf_alike hZ.alike Ar980.2.1) (g := (mkF m 195 #[.val (.int pp), .val (.int aa), .val (.int bb), .val (.int cc), .val (.int (2 : Int32)), .val (.int t0), .val (.int t1), .val (.int t2), .val (.int t3), .val (.ref tt), .val (.int iv), .val (.int ev), .val (.ref d), .val (.ref wi), .val (.ref ra)] [(.ref ra)])) rfl rfl (Jvm.hb hby at_195) _ ?_
      exact kt)
    have pre982 : ∀ τ, Steps p.tables e below (T978.setTop (mkF m 196 #[.val (.int pp), .val (.int aa), .val (.int bb), .val (.int cc), .val (.int (2 : Int32)), .val (.int t0), .val (.int t1), .val (.int t2), .val (.int t3), .val (.ref tt), .val (.int iv), .val (.int ev), .val (.ref d), .val (.ref wi), .val (.ref ra)] [(.int (2 : Int32))])) τ → PS τ := by
      have hq := pre981
      rw [len_of S980 M980] at hq
      exact hq
    have f983 := f967.ext E964
    have f984 := f983.keep Kq973 (ninS ne_tt_wi (nin0))
    have f985 := f984.keep Kq978 (nin0)
    obtain ⟨_, T986, L986, X986, ⟨rfl, Nq986, eq986⟩, st986⟩ := own_stat (y := own_mn2) X978 hx hZ hown (own_W23 hw) (own_W24 hw) (by decide) (rmC0_2 l Z a0 hw [] ra (0 : Int32) (2 : Int32) tt ev iv kr k870 t0 t1 t2 t3 lx0 lx1 en T978.heap n0 (Nat.le_trans Z0 K978.1) rfl rfl v_ra f985 w0) (own_W26 hw) (own_W25 hw) 0 (by decide) (by decide) rfl (mkF m 214 #[.val (.int pp), .val (.int aa), .val (.int bb), .val (.int cc), .val (.int (2 : Int32)), .val (.int t0), .val (.int t1), .val (.int t2), .val (.int t3), .val (.ref tt), .val (.int iv), .val (.int ev), .val (.ref d), .val (.ref wi), .val (.ref ra)] [(.int iv), (.int ev), (.ref tt), (.int (2 : Int32)), (.int (0 : Int32)), (.ref ra)]) rfl (by rw [hml]; rfl) [(.ref ra), (.int (0 : Int32)), (.int (2 : Int32)), (.ref tt), (.int ev), (.int iv)] [] rfl (lenOf own_pd___III_IIZ_Z rfl) rfl (Nat.le_refl _) (Jvm.hb hby at_214) (by decide) (by decide)
    have N986 := Fr.app N978 Nq986
    have pre987 := fun (τ : State) kt => pre982 τ (by
      show Steps p.tables e below (T978.setTop (mkF m 196 #[.val (.int pp), .val (.int aa), .val (.int bb), .val (.int cc), .val (.int (2 : Int32)), .val (.int t0), .val (.int t1), .val (.int t2), .val (.int t3), .val (.ref tt), .val (.int iv), .val (.int ev), .val (.ref d), .val (.ref wi), .val (.ref ra)] [(.int (2 : Int32))])) τ
      refine XS.iload X978.here hx rfl (Jvm.hb hby at_196) rfl ?_
      refine XS.icmpYes X978.here hx rfl (pc0 := 198) (pc' := 203) rfl (Jvm.hb hby at_198) rfl (teq rfl).1 (by decide) (by decide) ?_
      refine XS.aload X978.here hx rfl (Jvm.hb hby at_203) rfl rfl ?_
      refine XS.iconst X978.here hx rfl (Jvm.hb hby at_205) ?_
      refine XS.iload X978.here hx rfl (Jvm.hb hby at_206) rfl ?_
      refine XS.aload X978.here hx rfl (Jvm.hb hby at_208) rfl rfl ?_
      refine XS.iload X978.here hx rfl (Jvm.hb hby at_210) rfl ?_
      refine XS.iload X978.here hx rfl (Jvm.hb hby at_212) rfl ?_
      exact st986 τ kt)
    obtain ⟨_, T988, L988, X988, ⟨rfl, Nq988, eq988⟩, st988⟩ := own_stat (y := own_mn2) X986 hx hZ hown (own_W23 hw) (own_W24 hw) (by decide) (rmC1_2 l Z a0 hw [] ra (1 : Int32) (2 : Int32) tt ev iv kr k870 t0 t1 t2 t3 lx0 lx1 en T978.heap n0 (Nat.le_trans Z0 K978.1) rfl rfl v_ra f985 w1) (own_W26 hw) (own_W25 hw) 0 (by decide) (by decide) eq986 (mkF m 231 #[.val (.int pp), .val (.int aa), .val (.int bb), .val (.int cc), .val (.int (2 : Int32)), .val (.int t0), .val (.int t1), .val (.int t2), .val (.int t3), .val (.ref tt), .val (.int iv), .val (.int ev), .val (.ref d), .val (.ref wi), .val (.ref ra)] [(.int iv), (.int ev), (.ref tt), (.int (2 : Int32)), (.int (1 : Int32)), (.ref ra)]) rfl (by rw [hml]; rfl) [(.ref ra), (.int (1 : Int32)), (.int (2 : Int32)), (.ref tt), (.int ev), (.int iv)] [] rfl (lenOf own_pd___III_IIZ_Z rfl) rfl (Nat.le_refl _) (Jvm.hb hby at_231) (by decide) (by decide)
    have N988 := Fr.app N986 Nq988
    have pre989 := fun (τ : State) kt => pre987 τ (by
      show Steps p.tables e below (T986.setTop (mkF m 217 #[.val (.int pp), .val (.int aa), .val (.int bb), .val (.int cc), .val (.int (2 : Int32)), .val (.int t0), .val (.int t1), .val (.int t2), .val (.int t3), .val (.ref tt), .val (.int iv), .val (.int ev), .val (.ref d), .val (.ref wi), .val (.ref ra)] [(.int (1 : Int32))])) τ
      refine XS.ifNo X986.here hx rfl (Jvm.hb hby at_217) rfl ((if0 _ _).trans (feq (by decide)).1) ?_
      refine XS.aload X986.here hx rfl (Jvm.hb hby at_220) rfl rfl ?_
      refine XS.iconst X986.here hx rfl (Jvm.hb hby at_222) ?_
      refine XS.iload X986.here hx rfl (Jvm.hb hby at_223) rfl ?_
      refine XS.aload X986.here hx rfl (Jvm.hb hby at_225) rfl rfl ?_
      refine XS.iload X986.here hx rfl (Jvm.hb hby at_227) rfl ?_
      refine XS.iload X986.here hx rfl (Jvm.hb hby at_229) rfl ?_
      exact st988 τ kt)
    obtain ⟨_, T990, L990, X990, ⟨rfl, Nq990, eq990⟩, st990⟩ := own_stat (y := own_mn2) X988 hx hZ hown (own_W23 hw) (own_W24 hw) (by decide) (rmCo l Z a0 hw [] ra (2 : Int32) (2 : Int32) tt ev iv T978.heap n0 (Nat.le_trans Z0 K978.1) (by decide)) (own_W26 hw) (own_W25 hw) 0 (by decide) (by decide) eq988 (mkF m 248 #[.val (.int pp), .val (.int aa), .val (.int bb), .val (.int cc), .val (.int (2 : Int32)), .val (.int t0), .val (.int t1), .val (.int t2), .val (.int t3), .val (.ref tt), .val (.int iv), .val (.int ev), .val (.ref d), .val (.ref wi), .val (.ref ra)] [(.int iv), (.int ev), (.ref tt), (.int (2 : Int32)), (.int (2 : Int32)), (.ref ra)]) rfl (by rw [hml]; rfl) [(.ref ra), (.int (2 : Int32)), (.int (2 : Int32)), (.ref tt), (.int ev), (.int iv)] [] rfl (lenOf own_pd___III_IIZ_Z rfl) rfl (Nat.le_refl _) (Jvm.hb hby at_248) (by decide) (by decide)
    have N990 := Fr.app N988 Nq990
    have pre991 := fun (τ : State) kt => pre989 τ (by
      show Steps p.tables e below (T988.setTop (mkF m 234 #[.val (.int pp), .val (.int aa), .val (.int bb), .val (.int cc), .val (.int (2 : Int32)), .val (.int t0), .val (.int t1), .val (.int t2), .val (.int t3), .val (.ref tt), .val (.int iv), .val (.int ev), .val (.ref d), .val (.ref wi), .val (.ref ra)] [(.int (1 : Int32))])) τ
      refine XS.ifNo X988.here hx rfl (Jvm.hb hby at_234) rfl ((if0 _ _).trans (feq (by decide)).1) ?_
      refine XS.aload X988.here hx rfl (Jvm.hb hby at_237) rfl rfl ?_
      refine XS.iconst X988.here hx rfl (Jvm.hb hby at_239) ?_
      refine XS.iload X988.here hx rfl (Jvm.hb hby at_240) rfl ?_
      refine XS.aload X988.here hx rfl (Jvm.hb hby at_242) rfl rfl ?_
      refine XS.iload X988.here hx rfl (Jvm.hb hby at_244) rfl ?_
      refine XS.iload X988.here hx rfl (Jvm.hb hby at_246) rfl ?_
      exact st990 τ kt)
    obtain ⟨_, T992, L992, X992, ⟨rfl, Nq992, eq992⟩, st992⟩ := own_stat (y := own_mn2) X990 hx hZ hown (own_W23 hw) (own_W24 hw) (by decide) (rmCo l Z a0 hw [] ra (3 : Int32) (2 : Int32) tt ev iv T978.heap n0 (Nat.le_trans Z0 K978.1) (by decide)) (own_W26 hw) (own_W25 hw) 0 (by decide) (by decide) eq990 (mkF m 265 #[.val (.int pp), .val (.int aa), .val (.int bb), .val (.int cc), .val (.int (2 : Int32)), .val (.int t0), .val (.int t1), .val (.int t2), .val (.int t3), .val (.ref tt), .val (.int iv), .val (.int ev), .val (.ref d), .val (.ref wi), .val (.ref ra)] [(.int iv), (.int ev), (.ref tt), (.int (2 : Int32)), (.int (3 : Int32)), (.ref ra)]) rfl (by rw [hml]; rfl) [(.ref ra), (.int (3 : Int32)), (.int (2 : Int32)), (.ref tt), (.int ev), (.int iv)] [] rfl (lenOf own_pd___III_IIZ_Z rfl) rfl (Nat.le_refl _) (Jvm.hb hby at_265) (by decide) (by decide)
    have N992 := Fr.app N990 Nq992
    have pre993 := fun (τ : State) kt => pre991 τ (by
      show Steps p.tables e below (T990.setTop (mkF m 251 #[.val (.int pp), .val (.int aa), .val (.int bb), .val (.int cc), .val (.int (2 : Int32)), .val (.int t0), .val (.int t1), .val (.int t2), .val (.int t3), .val (.ref tt), .val (.int iv), .val (.int ev), .val (.ref d), .val (.ref wi), .val (.ref ra)] [(.int (1 : Int32))])) τ
      refine XS.ifNo X990.here hx rfl (Jvm.hb hby at_251) rfl ((if0 _ _).trans (feq (by decide)).1) ?_
      refine XS.aload X990.here hx rfl (Jvm.hb hby at_254) rfl rfl ?_
      refine XS.iconst X990.here hx rfl (Jvm.hb hby at_256) ?_
      refine XS.iload X990.here hx rfl (Jvm.hb hby at_257) rfl ?_
      refine XS.aload X990.here hx rfl (Jvm.hb hby at_259) rfl rfl ?_
      refine XS.iload X990.here hx rfl (Jvm.hb hby at_261) rfl ?_
      refine XS.iload X990.here hx rfl (Jvm.hb hby at_263) rfl ?_
      exact st992 τ kt)
    have pre994 := fun (τ : State) kt => pre993 τ (by
      show Steps p.tables e below (T992.setTop (mkF m 268 #[.val (.int pp), .val (.int aa), .val (.int bb), .val (.int cc), .val (.int (2 : Int32)), .val (.int t0), .val (.int t1), .val (.int t2), .val (.int t3), .val (.ref tt), .val (.int iv), .val (.int ev), .val (.ref d), .val (.ref wi), .val (.ref ra)] [(.int (1 : Int32))])) τ
      refine XS.ifNo X992.here hx rfl (Jvm.hb hby at_268) rfl ((if0 _ _).trans (feq (by decide)).1) ?_
      refine XS.iconst X992.here hx rfl (Jvm.hb hby at_271) ?_
      refine XS.goto X992.here hx rfl (pc0 := 272) (pc' := 276) rfl (Jvm.hb hby at_272) (by decide) (by decide) ?_
      exact kt)
    obtain ⟨fs, hrL, hrun, hended, hW, hsame⟩ := X992.leave (v := some (.int (1 : Int32))) (fun h => by rw [Bd.returns] at h; cases h)
    refine ⟨_, _, cast (congrFun hPS _) (pre994 _ ?_), hrun, hended, _, _, rfl, ?_, ⟨_, rfl⟩, hW, hsame.mono (by decide) (by decide)⟩
    · show Steps p.tables e below (T992.setTop (mkF m 276 #[.val (.int pp), .val (.int aa), .val (.int bb), .val (.int cc), .val (.int (2 : Int32)), .val (.int t0), .val (.int t1), .val (.int t2), .val (.int t3), .val (.ref tt), .val (.int iv), .val (.int ev), .val (.ref d), .val (.ref wi), .val (.ref ra)] [(.int (1 : Int32))])) _
      exact retN X992 hx (t := .boolean) Bd.returns (by simp) (Jvm.hb hby at_276) hrL
    · show Q0 n0 _ T992.heap _
      exact ⟨rfl, N992⟩
  · skip
    have pre995 : ∀ τ, Steps p.tables e below (T882.setTop (mkF m 103 #[.val (.int pp), .val (.int aa), .val (.int bb), .val (.int cc), .val (.int (3 : Int32)), .val (.int t0), .val (.int t1), .val (.int t2), .val (.int t3), .val (.ref tt), .val (.int iv), .val (.int ev), .unset, .unset, .unset] [])) τ → PS τ := by have hq := pre889; rw [hn] at hq; exact hq
    obtain ⟨T996, h996, k996, X996, e996, E996, A996, st996⟩ := newP (aty := .double) X882 hx hZ (own_W4 hw) e882 (g := (mkF m 105 #[.val (.int pp), .val (.int aa), .val (.int bb), .val (.int cc), .val (.int (3 : Int32)), .val (.int t0), .val (.int t1), .val (.int t2), .val (.int t3), .val (.ref tt), .val (.int iv), .val (.int ev), .unset, .unset, .unset] [(.int (3 : Int32))])) rfl (Jvm.hb hby at_105) rfl (by decide) (cap := 3) (by decide) (by decide) (by decide) (by decide)
    obtain ⟨d, g996⟩ : ∃ z, z = h882.size := ⟨_, rfl⟩
    rw [← g996] at A996 st996
    have ne_tt_d : tt ≠ d := Nat.ne_of_lt (Nat.lt_of_lt_of_le V882.lt (Nat.le_of_eq g996.symm))
    have g_d : n0 ≤ d := Nat.le_trans (Nat.le_trans Z0 K882.1) (Nat.le_of_eq g996.symm)
    have sz_d : h0.size ≤ d := Nat.le_trans K882.1 (Nat.le_of_eq g996.symm)
    have K996 : Keep h0 h996 [] := K882.ext E996
    have V_d : Arv Z h996 d k996 .double (3 : Int32) [(.double (0 : UInt64)), (.double (0 : UInt64)), (.double (0 : UInt64))] (.double (0 : UInt64)) := (Arv.new A996 (by decide)).pad (pad_rep [] (.double (0 : UInt64)) 3)
    have pre997 := fun (τ : State) kt => pre995 τ (by
      show Steps p.tables e below (T882.setTop (mkF m 103 #[.val (.int pp), .val (.int aa), .val (.int bb), .val (.int cc), .val (.int (3 : Int32)), .val (.int t0), .val (.int t1), .val (.int t2), .val (.int t3), .val (.ref tt), .val (.int iv), .val (.int ev), .unset, .unset, .unset] [])) τ
      refine XS.iload X882.here hx rfl (Jvm.hb hby at_103) rfl ?_
      exact st996 τ kt)
    obtain ⟨cl998, Ar998, q998, S998, M998, H998, U998⟩ := id V_d
    obtain ⟨T999, h999, X999, e999, W999, st999⟩ := own_stD X996 hx hZ e996 Ar998 (j := (0 : Int32)) (inb_of S998 ⟨by decide, by decide⟩) (g := (mkF m 120 #[.val (.int pp), .val (.int aa), .val (.int bb), .val (.int cc), .val (.int (3 : Int32)), .val (.int t0), .val (.int t1), .val (.int t2), .val (.int t3), .val (.ref tt), .val (.int iv), .val (.int ev), .val (.ref d), .unset, .unset] [(.double (FP.i2d t0)), (.int (0 : Int32)), (.ref d)])) rfl rfl (Jvm.hb hby at_120)
    have V999 : Arv Z h999 d k996 .double (3 : Int32) [(.double (FP.i2d t0)), (.double (0 : UInt64)), (.double (0 : UInt64))] (.double (0 : UInt64)) := Arv.set Ar998 q998 S998 M998 H998 U998 rfl W999 0 rfl (Nat.le_of_ble_eq_true rfl)
    have N999 := Fr.snoc X999 N882 g_d
    have K999 : Keep h0 h999 [] := K996.wr W999 (Or.inr sz_d)
    have pre1000 := fun (τ : State) kt => pre997 τ (by
      show Steps p.tables e below (T996.setTop (mkF m 107 #[.val (.int pp), .val (.int aa), .val (.int bb), .val (.int cc), .val (.int (3 : Int32)), .val (.int t0), .val (.int t1), .val (.int t2), .val (.int t3), .val (.ref tt), .val (.int iv), .val (.int ev), .unset, .unset, .unset] [(.ref d)])) τ
      refine XS.astore X996.here hx rfl (Jvm.hb hby at_107) rfl rfl (l' := #[.val (.int pp), .val (.int aa), .val (.int bb), .val (.int cc), .val (.int (3 : Int32)), .val (.int t0), .val (.int t1), .val (.int t2), .val (.int t3), .val (.ref tt), .val (.int iv), .val (.int ev), .val (.ref d), .unset, .unset]) rfl ?_
      refine XS.iload X996.here hx rfl (Jvm.hb hby at_109) rfl ?_
      refine XS.ifNo X996.here hx rfl (Jvm.hb hby at_111) rfl ((if0 _ _).trans (tlt (by decide)).2.2.2) ?_
      refine XS.aload X996.here hx rfl (Jvm.hb hby at_114) rfl rfl ?_
      refine XS.iconst X996.here hx rfl (Jvm.hb hby at_116) ?_
      refine XS.iload X996.here hx rfl (Jvm.hb hby at_117) rfl ?_
      refine own_i2d X996.here hx rfl (Jvm.hb hby at_119) rfl ?_
      exact st999 τ kt)
    obtain ⟨cl1001, Ar1001, q1001, S1001, M1001, H1001, U1001⟩ := id V999
    obtain ⟨T1002, h1002, X1002, e1002, W1002, st1002⟩ := own_stD X999 hx hZ e999 Ar1001 (j := (1 : Int32)) (inb_of S1001 ⟨by decide, by decide⟩) (g := (mkF m 133 #[.val (.int pp), .val (.int aa), .val (.int bb), .val (.int cc), .val (.int (3 : Int32)), .val (.int t0), .val (.int t1), .val (.int t2), .val (.int t3), .val (.ref tt), .val (.int iv), .val (.int ev), .val (.ref d), .unset, .unset] [(.double (FP.i2d t1)), (.int (1 : Int32)), (.ref d)])) rfl rfl (Jvm.hb hby at_133)
    have V1002 : Arv Z h1002 d k996 .double (3 : Int32) [(.double (FP.i2d t0)), (.double (FP.i2d t1)), (.double (0 : UInt64))] (.double (0 : UInt64)) := Arv.set Ar1001 q1001 S1001 M1001 H1001 U1001 rfl W1002 1 rfl (Nat.le_of_ble_eq_true rfl)
    have N1002 := Fr.snoc X1002 N999 g_d
    have K1002 : Keep h0 h1002 [] := K999.wr W1002 (Or.inr sz_d)
    have pre1003 := fun (τ : State) kt => pre1000 τ (by
      show Steps p.tables e below (T999.setTop (mkF m 121 #[.val (.int pp), .val (.int aa), .val (.int bb), .val (.int cc), .val (.int (3 : Int32)), .val (.int t0), .val (.int t1), .val (.int t2), .val (.int t3), .val (.ref tt), .val (.int iv), .val (.int ev), .val (.ref d), .unset, .unset] [])) τ
      refine XS.iload X999.here hx rfl (Jvm.hb hby at_121) rfl ?_
      refine XS.iconst X999.here hx rfl (Jvm.hb hby at_123) ?_
      refine XS.icmpNo X999.here hx rfl (Jvm.hb hby at_124) rfl (tlt (by decide)).2.2.2 ?_
      refine XS.aload X999.here hx rfl (Jvm.hb hby at_127) rfl rfl ?_
      refine XS.iconst X999.here hx rfl (Jvm.hb hby at_129) ?_
      refine XS.iload X999.here hx rfl (Jvm.hb hby at_130) rfl ?_
      refine own_i2d X999.here hx rfl (Jvm.hb hby at_132) rfl ?_
      exact st1002 τ kt)
    obtain ⟨cl1004, Ar1004, q1004, S1004, M1004, H1004, U1004⟩ := id V1002
    obtain ⟨T1005, h1005, X1005, e1005, W1005, st1005⟩ := own_stD X1002 hx hZ e1002 Ar1004 (j := (2 : Int32)) (inb_of S1004 ⟨by decide, by decide⟩) (g := (mkF m 146 #[.val (.int pp), .val (.int aa), .val (.int bb), .val (.int cc), .val (.int (3 : Int32)), .val (.int t0), .val (.int t1), .val (.int t2), .val (.int t3), .val (.ref tt), .val (.int iv), .val (.int ev), .val (.ref d), .unset, .unset] [(.double (FP.i2d t2)), (.int (2 : Int32)), (.ref d)])) rfl rfl (Jvm.hb hby at_146)
    have V1005 : Arv Z h1005 d k996 .double (3 : Int32) [(.double (FP.i2d t0)), (.double (FP.i2d t1)), (.double (FP.i2d t2))] (.double (0 : UInt64)) := Arv.set Ar1004 q1004 S1004 M1004 H1004 U1004 rfl W1005 2 rfl (Nat.le_of_ble_eq_true rfl)
    have N1005 := Fr.snoc X1005 N1002 g_d
    have K1005 : Keep h0 h1005 [] := K1002.wr W1005 (Or.inr sz_d)
    have pre1006 := fun (τ : State) kt => pre1003 τ (by
      show Steps p.tables e below (T1002.setTop (mkF m 134 #[.val (.int pp), .val (.int aa), .val (.int bb), .val (.int cc), .val (.int (3 : Int32)), .val (.int t0), .val (.int t1), .val (.int t2), .val (.int t3), .val (.ref tt), .val (.int iv), .val (.int ev), .val (.ref d), .unset, .unset] [])) τ
      refine XS.iload X1002.here hx rfl (Jvm.hb hby at_134) rfl ?_
      refine XS.iconst X1002.here hx rfl (Jvm.hb hby at_136) ?_
      refine XS.icmpNo X1002.here hx rfl (Jvm.hb hby at_137) rfl (tlt (by decide)).2.2.2 ?_
      refine XS.aload X1002.here hx rfl (Jvm.hb hby at_140) rfl rfl ?_
      refine XS.iconst X1002.here hx rfl (Jvm.hb hby at_142) ?_
      refine XS.iload X1002.here hx rfl (Jvm.hb hby at_143) rfl ?_
      refine own_i2d X1002.here hx rfl (Jvm.hb hby at_145) rfl ?_
      exact st1005 τ kt)
    obtain ⟨T1007, h1007, X1007, e1007, E1007, A1007, D1007, -, st1007⟩ := newO X1005 hx hZ hown (own_W5 hw) (own_W6 hw) (own_W7 hw) e1005 (g := (mkF m 160 #[.val (.int pp), .val (.int aa), .val (.int bb), .val (.int cc), .val (.int (3 : Int32)), .val (.int t0), .val (.int t1), .val (.int t2), .val (.int t3), .val (.ref tt), .val (.int iv), .val (.int ev), .val (.ref d), .unset, .unset] [])) rfl (Jvm.hb hby at_160) (by decide) (by decide)
    obtain ⟨wi, g1007⟩ : ∃ z, z = h1005.size := ⟨_, rfl⟩
    rw [← g1007] at A1007 D1007 st1007
    have f1008 := V882.ext E996
    have f1009 := f1008.other W999 ne_tt_d
    have f1010 := f1009.other W1002 ne_tt_d
    have f1011 := f1010.other W1005 ne_tt_d
    have ne_tt_wi : tt ≠ wi := Nat.ne_of_lt (Nat.lt_of_lt_of_le f1011.lt (Nat.le_of_eq g1007.symm))
    have ne_d_wi : d ≠ wi := Nat.ne_of_lt (Nat.lt_of_lt_of_le V1005.lt (Nat.le_of_eq g1007.symm))
    have g_wi : n0 ≤ wi := Nat.le_trans (Nat.le_trans Z0 K1005.1) (Nat.le_of_eq g1007.symm)
    have sz_wi : h0.size ≤ wi := Nat.le_trans K1005.1 (Nat.le_of_eq g1007.symm)
    have K1007 : Keep h0 h1007 [] := K1005.ext E1007
    have F_start_wi : Fld Z h1007 wi "com/example/counterpath/counterpath/core/Window" "start" "D" (.double (0 : UInt64)) := D1007 (Or.inr (own_W15 hw)) (ty := .double) (by decide)
    have F_end_wi : Fld Z h1007 wi "com/example/counterpath/counterpath/core/Window" "end" "D" (.double (0 : UInt64)) := D1007 (Or.inr (own_W17 hw)) (ty := .double) (by decide)
    have pre1012 := fun (τ : State) kt => pre1006 τ (by
      show Steps p.tables e below (T1005.setTop (mkF m 147 #[.val (.int pp), .val (.int aa), .val (.int bb), .val (.int cc), .val (.int (3 : Int32)), .val (.int t0), .val (.int t1), .val (.int t2), .val (.int t3), .val (.ref tt), .val (.int iv), .val (.int ev), .val (.ref d), .unset, .unset] [])) τ
      refine XS.iload X1005.here hx rfl (Jvm.hb hby at_147) rfl ?_
      refine XS.iconst X1005.here hx rfl (Jvm.hb hby at_149) ?_
      refine XS.icmpYes X1005.here hx rfl (pc0 := 150) (pc' := 160) rfl (Jvm.hb hby at_150) rfl (flt (by decide)).2.2.2 (by decide) (by decide) ?_
      exact st1007 τ kt)
    have pre1013 := fun (τ : State) kt => pre1012 τ (by
      show Steps p.tables e below (T1007.setTop (mkF m 163 #[.val (.int pp), .val (.int aa), .val (.int bb), .val (.int cc), .val (.int (3 : Int32)), .val (.int t0), .val (.int t1), .val (.int t2), .val (.int t3), .val (.ref tt), .val (.int iv), .val (.int ev), .val (.ref d), .unset, .unset] [(.ref wi)])) τ
      refine XS.dup X1007.here hx rfl (Jvm.hb hby at_163) rfl rfl ?_
      refine own_dconst0 X1007.here hx rfl (Jvm.hb hby at_164) ?_
      refine XS.iload X1007.here hx rfl (Jvm.hb hby at_165) rfl ?_
      exact kt)
    obtain ⟨en, hj1014, pre1014⟩ : ∃ (en : UInt64), ((¬ iv = 0 ∧ en = own_inf) ∨ (iv = 0 ∧ en = FP.i2d ev)) ∧ ∀ τ, Steps p.tables e below (T1007.setTop (mkF m 179 #[.val (.int pp), .val (.int aa), .val (.int bb), .val (.int cc), .val (.int (3 : Int32)), .val (.int t0), .val (.int t1), .val (.int t2), .val (.int t3), .val (.ref tt), .val (.int iv), .val (.int ev), .val (.ref d), .unset, .unset] [(.double en), (.double FP.dconst0), (.ref wi), (.ref wi)])) τ → PS τ := by
      by_cases q : iv = (0 : Int32)
      · skip
        have pre1015 := fun (τ : State) kt => pre1013 τ (by
          show Steps p.tables e below (T1007.setTop (mkF m 167 #[.val (.int pp), .val (.int aa), .val (.int bb), .val (.int cc), .val (.int (3 : Int32)), .val (.int t0), .val (.int t1), .val (.int t2), .val (.int t3), .val (.ref tt), .val (.int iv), .val (.int ev), .val (.ref d), .unset, .unset] [(.int iv), (.double FP.dconst0), (.ref wi), (.ref wi)])) τ
          refine XS.ifYes X1007.here hx rfl (pc0 := 167) (pc' := 176) rfl (Jvm.hb hby at_167) rfl ((if0 _ _).trans (teq q).1) (by decide) (by decide) ?_
          refine XS.iload X1007.here hx rfl (Jvm.hb hby at_176) rfl ?_
          refine own_i2d X1007.here hx rfl (Jvm.hb hby at_178) rfl ?_
          exact kt)
        exact ⟨(FP.i2d ev), Or.inr ⟨q, rfl⟩, pre1015⟩
      · skip
        have pre1016 := fun (τ : State) kt => pre1013 τ (by
          show Steps p.tables e below (T1007.setTop (mkF m 167 #[.val (.int pp), .val (.int aa), .val (.int bb), .val (.int cc), .val (.int (3 : Int32)), .val (.int t0), .val (.int t1), .val (.int t2), .val (.int t3), .val (.ref tt), .val (.int iv), .val (.int ev), .val (.ref d), .unset, .unset] [(.int iv), (.double FP.dconst0), (.ref wi), (.ref wi)])) τ
          refine XS.ifNo X1007.here hx rfl (Jvm.hb hby at_167) rfl ((if0 _ _).trans (feq q).1) ?_
          refine X1007.ldc2DoubleC hx hown (mvT hZ (own_W28 hw)) (g := (mkF m 170 #[.val (.int pp), .val (.int aa), .val (.int bb), .val (.int cc), .val (.int (3 : Int32)), .val (.int t0), .val (.int t1), .val (.int t2), .val (.int t3), .val (.ref tt), .val (.int iv), .val (.int ev), .val (.ref d), .unset, .unset] [(.double FP.dconst0), (.ref wi), (.ref wi)])) rfl (Jvm.hb hby at_170) _ ?_
          refine XS.goto X1007.here hx rfl (pc0 := 173) (pc' := 179) rfl (Jvm.hb hby at_173) (by decide) (by decide) ?_
          exact kt)
        exact ⟨own_inf, Or.inl ⟨q, rfl⟩, pre1016⟩
    obtain ⟨_, T1017, L1017, X1017, ⟨rfl, Nq1017, Kq1017, z_end⟩, st1017⟩ := own_spec (y := own_mn0) (b := wi) X1007 hx hZ rfl hown (own_W8 hw) (own_W9 hw) (by decide) (rmWi l Z a0 hw [] wi FP.dconst0 en h1007 n0 (Nat.le_trans Z0 K1007.1) A1007 F_start_wi F_end_wi g_wi) (own_W10 hw) (own_W7 hw) 1 (by decide) (by decide) e1007 (mkF m 179 #[.val (.int pp), .val (.int aa), .val (.int bb), .val (.int cc), .val (.int (3 : Int32)), .val (.int t0), .val (.int t1), .val (.int t2), .val (.int t3), .val (.ref tt), .val (.int iv), .val (.int ev), .val (.ref d), .unset, .unset] [(.double en), (.double FP.dconst0), (.ref wi), (.ref wi)]) rfl (by rw [hml]; rfl) [(.double FP.dconst0), (.double en)] [(.ref wi)] rfl (lenOf own_pd__DD_V rfl) rfl (Nat.le_refl _) (Jvm.hb hby at_179) (by decide) (by decide)
    have N1017 := Fr.app N1005 Nq1017
    have K1017 : Keep h0 T1017.heap [] := K1007.trans Kq1017 (allS (Or.inr sz_wi) (all0))
    have pre1018 := fun (τ : State) kt => pre1014 τ (st1017 τ kt)
    obtain ⟨lx0, w0⟩ := own_row_ex (n := 3) (ti := t0) (by decide) (by decide) r2.1 r3.1 (by omega) (by omega) hev.1 hev.2 hj1014
    obtain ⟨lx1, w1⟩ := own_row_ex (n := 3) (ti := t1) (by decide) (by decide) r2.1 r3.1 (by omega) (by omega) hev.1 hev.2 hj1014
    obtain ⟨lx2, w2⟩ := own_row_ex (n := 3) (ti := t2) (by decide) (by decide) r2.1 r3.1 (by omega) (by omega) hev.1 hev.2 hj1014
    have m1 := own_row_mono w0 w1 (by omega) (by omega) (by omega) hev.1 hev.2 (by decide)
    have m2 := own_row_mono w1 w2 (by omega) (by omega) (by omega) hev.1 hev.2 (by decide)
    have f1019 := A1007.keep Kq1017
    have f1020 := V1005.ext E1007
    have f1021 := f1020.keep Kq1017 (ninS ne_d_wi (nin0))
    obtain ⟨_, T1022, L1022, X1022, ⟨ra, kr, rfl, Nq1022, Kq1022, g_ra, s_ra, v_ra⟩, st1022⟩ := own_virt (y := own_mn1) (b := wi) X1017 hx hZ hown (own_W18 hw) (own_W19 hw) (own_W21 hw) (own_W20 hw) (by decide) (rmL3 l Z a0 hw [] wi d k996 iv t0 t1 t2 t3 ev lx0 lx1 lx2 en T1017.heap n0 (Nat.le_trans Z0 K1017.1) f1019 z_end f1021 w0 w1 w2 m1 m2) (own_W22 hw) (own_W7 hw) 0 (by decide) (by decide) f1019 rfl (mkF m 188 #[.val (.int pp), .val (.int aa), .val (.int bb), .val (.int cc), .val (.int (3 : Int32)), .val (.int t0), .val (.int t1), .val (.int t2), .val (.int t3), .val (.ref tt), .val (.int iv), .val (.int ev), .val (.ref d), .val (.ref wi), .unset] [(.ref d), (.ref wi)]) rfl (by rw [hml]; rfl) [(.ref d)] [] rfl (lenOf own_pd___D__I rfl) rfl (Nat.le_refl _) (Jvm.hb hby at_188) (by decide) (by decide)
    have N1022 := Fr.app N1017 Nq1022
    have K1022 : Keep h0 T1022.heap [] := K1017.trans Kq1022 (all0)
    have pre1023 := fun (τ : State) kt => pre1018 τ (by
      show Steps p.tables e below (T1017.setTop (mkF m 182 #[.val (.int pp), .val (.int aa), .val (.int bb), .val (.int cc), .val (.int (3 : Int32)), .val (.int t0), .val (.int t1), .val (.int t2), .val (.int t3), .val (.ref tt), .val (.int iv), .val (.int ev), .val (.ref d), .unset, .unset] [(.ref wi)])) τ
      refine XS.astore X1017.here hx rfl (Jvm.hb hby at_182) rfl rfl (l' := #[.val (.int pp), .val (.int aa), .val (.int bb), .val (.int cc), .val (.int (3 : Int32)), .val (.int t0), .val (.int t1), .val (.int t2), .val (.int t3), .val (.ref tt), .val (.int iv), .val (.int ev), .val (.ref d), .val (.ref wi), .unset]) rfl ?_
      refine XS.aload X1017.here hx rfl (Jvm.hb hby at_184) rfl rfl ?_
      refine XS.aload X1017.here hx rfl (Jvm.hb hby at_186) rfl rfl ?_
      exact st1022 τ kt)
    obtain ⟨cl1024, Ar1024, q1024, S1024, M1024, H1024, U1024⟩ := id v_ra
    have pre1025 := fun (τ : State) kt => pre1023 τ (by
      show Steps p.tables e below (T1022.setTop (mkF m 191 #[.val (.int pp), .val (.int aa), .val (.int bb), .val (.int cc), .val (.int (3 : Int32)), .val (.int t0), .val (.int t1), .val (.int t2), .val (.int t3), .val (.ref tt), .val (.int iv), .val (.int ev), .val (.ref d), .val (.ref wi), .unset] [(.ref ra)])) τ
      refine XS.astore X1022.here hx rfl (Jvm.hb hby at_191) rfl rfl (l' := #[.val (.int pp), .val (.int aa), .val (.int bb), .val (.int cc), .val (.int (3 : Int32)), .val (.int t0), .val (.int t1), .val (.int t2), .val (.int t3), .val (.ref tt), .val (.int iv), .val (.int ev), .val (.ref d), .val (.ref wi), .val (.ref ra)]) rfl ?_
      refine XS.aload X1022.here hx rfl (Jvm.hb hby at_193) rfl rfl ?_
      refine X1022.arraylength hx ((congrArg (fun (HH : Heap) => HH[ra]?) (rfl : T1022.heap = T1022.heap)).trans Ar1024.1) (State.isArrayOf_alike hZ.alike Ar1024.2.1) (g := (mkF m 195 #[.val (.int pp), .val (.int aa), .val (.int bb), .val (.int cc), .val (.int (3 : Int32)), .val (.int t0), .val (.int t1), .val (.int t2), .val (.int t3), .val (.ref tt), .val (.int iv), .val (.int ev), .val (.ref d), .val (.ref wi), .val (.ref ra)] [(.ref ra)])) rfl rfl (Jvm.hb hby at_195) _ ?_
      exact kt)
    have pre1026 : ∀ τ, Steps p.tables e below (T1022.setTop (mkF m 196 #[.val (.int pp), .val (.int aa), .val (.int bb), .val (.int cc), .val (.int (3 : Int32)), .val (.int t0), .val (.int t1), .val (.int t2), .val (.int t3), .val (.ref tt), .val (.int iv), .val (.int ev), .val (.ref d), .val (.ref wi), .val (.ref ra)] [(.int (3 : Int32))])) τ → PS τ := by
      have hq := pre1025
      rw [len_of S1024 M1024] at hq
      exact hq
    have f1027 := f1011.ext E1007
    have f1028 := f1027.keep Kq1017 (ninS ne_tt_wi (nin0))
    have f1029 := f1028.keep Kq1022 (nin0)
    obtain ⟨_, T1030, L1030, X1030, ⟨rfl, Nq1030, eq1030⟩, st1030⟩ := own_stat (y := own_mn2) X1022 hx hZ hown (own_W23 hw) (own_W24 hw) (by decide) (rmC0_3 l Z a0 hw [] ra (0 : Int32) (3 : Int32) tt ev iv kr k870 t0 t1 t2 t3 lx0 lx1 lx2 en T1022.heap n0 (Nat.le_trans Z0 K1022.1) rfl rfl v_ra f1029 w0) (own_W26 hw) (own_W25 hw) 0 (by decide) (by decide) rfl (mkF m 214 #[.val (.int pp), .val (.int aa), .val (.int bb), .val (.int cc), .val (.int (3 : Int32)), .val (.int t0), .val (.int t1), .val (.int t2), .val (.int t3), .val (.ref tt), .val (.int iv), .val (.int ev), .val (.ref d), .val (.ref wi), .val (.ref ra)] [(.int iv), (.int ev), (.ref tt), (.int (3 : Int32)), (.int (0 : Int32)), (.ref ra)]) rfl (by rw [hml]; rfl) [(.ref ra), (.int (0 : Int32)), (.int (3 : Int32)), (.ref tt), (.int ev), (.int iv)] [] rfl (lenOf own_pd___III_IIZ_Z rfl) rfl (Nat.le_refl _) (Jvm.hb hby at_214) (by decide) (by decide)
    have N1030 := Fr.app N1022 Nq1030
    have pre1031 := fun (τ : State) kt => pre1026 τ (by
      show Steps p.tables e below (T1022.setTop (mkF m 196 #[.val (.int pp), .val (.int aa), .val (.int bb), .val (.int cc), .val (.int (3 : Int32)), .val (.int t0), .val (.int t1), .val (.int t2), .val (.int t3), .val (.ref tt), .val (.int iv), .val (.int ev), .val (.ref d), .val (.ref wi), .val (.ref ra)] [(.int (3 : Int32))])) τ
      refine XS.iload X1022.here hx rfl (Jvm.hb hby at_196) rfl ?_
      refine XS.icmpYes X1022.here hx rfl (pc0 := 198) (pc' := 203) rfl (Jvm.hb hby at_198) rfl (teq rfl).1 (by decide) (by decide) ?_
      refine XS.aload X1022.here hx rfl (Jvm.hb hby at_203) rfl rfl ?_
      refine XS.iconst X1022.here hx rfl (Jvm.hb hby at_205) ?_
      refine XS.iload X1022.here hx rfl (Jvm.hb hby at_206) rfl ?_
      refine XS.aload X1022.here hx rfl (Jvm.hb hby at_208) rfl rfl ?_
      refine XS.iload X1022.here hx rfl (Jvm.hb hby at_210) rfl ?_
      refine XS.iload X1022.here hx rfl (Jvm.hb hby at_212) rfl ?_
      exact st1030 τ kt)
    obtain ⟨_, T1032, L1032, X1032, ⟨rfl, Nq1032, eq1032⟩, st1032⟩ := own_stat (y := own_mn2) X1030 hx hZ hown (own_W23 hw) (own_W24 hw) (by decide) (rmC1_3 l Z a0 hw [] ra (1 : Int32) (3 : Int32) tt ev iv kr k870 t0 t1 t2 t3 lx0 lx1 lx2 en T1022.heap n0 (Nat.le_trans Z0 K1022.1) rfl rfl v_ra f1029 w1) (own_W26 hw) (own_W25 hw) 0 (by decide) (by decide) eq1030 (mkF m 231 #[.val (.int pp), .val (.int aa), .val (.int bb), .val (.int cc), .val (.int (3 : Int32)), .val (.int t0), .val (.int t1), .val (.int t2), .val (.int t3), .val (.ref tt), .val (.int iv), .val (.int ev), .val (.ref d), .val (.ref wi), .val (.ref ra)] [(.int iv), (.int ev), (.ref tt), (.int (3 : Int32)), (.int (1 : Int32)), (.ref ra)]) rfl (by rw [hml]; rfl) [(.ref ra), (.int (1 : Int32)), (.int (3 : Int32)), (.ref tt), (.int ev), (.int iv)] [] rfl (lenOf own_pd___III_IIZ_Z rfl) rfl (Nat.le_refl _) (Jvm.hb hby at_231) (by decide) (by decide)
    have N1032 := Fr.app N1030 Nq1032
    have pre1033 := fun (τ : State) kt => pre1031 τ (by
      show Steps p.tables e below (T1030.setTop (mkF m 217 #[.val (.int pp), .val (.int aa), .val (.int bb), .val (.int cc), .val (.int (3 : Int32)), .val (.int t0), .val (.int t1), .val (.int t2), .val (.int t3), .val (.ref tt), .val (.int iv), .val (.int ev), .val (.ref d), .val (.ref wi), .val (.ref ra)] [(.int (1 : Int32))])) τ
      refine XS.ifNo X1030.here hx rfl (Jvm.hb hby at_217) rfl ((if0 _ _).trans (feq (by decide)).1) ?_
      refine XS.aload X1030.here hx rfl (Jvm.hb hby at_220) rfl rfl ?_
      refine XS.iconst X1030.here hx rfl (Jvm.hb hby at_222) ?_
      refine XS.iload X1030.here hx rfl (Jvm.hb hby at_223) rfl ?_
      refine XS.aload X1030.here hx rfl (Jvm.hb hby at_225) rfl rfl ?_
      refine XS.iload X1030.here hx rfl (Jvm.hb hby at_227) rfl ?_
      refine XS.iload X1030.here hx rfl (Jvm.hb hby at_229) rfl ?_
      exact st1032 τ kt)
    obtain ⟨_, T1034, L1034, X1034, ⟨rfl, Nq1034, eq1034⟩, st1034⟩ := own_stat (y := own_mn2) X1032 hx hZ hown (own_W23 hw) (own_W24 hw) (by decide) (rmC2_3 l Z a0 hw [] ra (2 : Int32) (3 : Int32) tt ev iv kr k870 t0 t1 t2 t3 lx0 lx1 lx2 en T1022.heap n0 (Nat.le_trans Z0 K1022.1) rfl rfl v_ra f1029 w2) (own_W26 hw) (own_W25 hw) 0 (by decide) (by decide) eq1032 (mkF m 248 #[.val (.int pp), .val (.int aa), .val (.int bb), .val (.int cc), .val (.int (3 : Int32)), .val (.int t0), .val (.int t1), .val (.int t2), .val (.int t3), .val (.ref tt), .val (.int iv), .val (.int ev), .val (.ref d), .val (.ref wi), .val (.ref ra)] [(.int iv), (.int ev), (.ref tt), (.int (3 : Int32)), (.int (2 : Int32)), (.ref ra)]) rfl (by rw [hml]; rfl) [(.ref ra), (.int (2 : Int32)), (.int (3 : Int32)), (.ref tt), (.int ev), (.int iv)] [] rfl (lenOf own_pd___III_IIZ_Z rfl) rfl (Nat.le_refl _) (Jvm.hb hby at_248) (by decide) (by decide)
    have N1034 := Fr.app N1032 Nq1034
    have pre1035 := fun (τ : State) kt => pre1033 τ (by
      show Steps p.tables e below (T1032.setTop (mkF m 234 #[.val (.int pp), .val (.int aa), .val (.int bb), .val (.int cc), .val (.int (3 : Int32)), .val (.int t0), .val (.int t1), .val (.int t2), .val (.int t3), .val (.ref tt), .val (.int iv), .val (.int ev), .val (.ref d), .val (.ref wi), .val (.ref ra)] [(.int (1 : Int32))])) τ
      refine XS.ifNo X1032.here hx rfl (Jvm.hb hby at_234) rfl ((if0 _ _).trans (feq (by decide)).1) ?_
      refine XS.aload X1032.here hx rfl (Jvm.hb hby at_237) rfl rfl ?_
      refine XS.iconst X1032.here hx rfl (Jvm.hb hby at_239) ?_
      refine XS.iload X1032.here hx rfl (Jvm.hb hby at_240) rfl ?_
      refine XS.aload X1032.here hx rfl (Jvm.hb hby at_242) rfl rfl ?_
      refine XS.iload X1032.here hx rfl (Jvm.hb hby at_244) rfl ?_
      refine XS.iload X1032.here hx rfl (Jvm.hb hby at_246) rfl ?_
      exact st1034 τ kt)
    obtain ⟨_, T1036, L1036, X1036, ⟨rfl, Nq1036, eq1036⟩, st1036⟩ := own_stat (y := own_mn2) X1034 hx hZ hown (own_W23 hw) (own_W24 hw) (by decide) (rmCo l Z a0 hw [] ra (3 : Int32) (3 : Int32) tt ev iv T1022.heap n0 (Nat.le_trans Z0 K1022.1) (by decide)) (own_W26 hw) (own_W25 hw) 0 (by decide) (by decide) eq1034 (mkF m 265 #[.val (.int pp), .val (.int aa), .val (.int bb), .val (.int cc), .val (.int (3 : Int32)), .val (.int t0), .val (.int t1), .val (.int t2), .val (.int t3), .val (.ref tt), .val (.int iv), .val (.int ev), .val (.ref d), .val (.ref wi), .val (.ref ra)] [(.int iv), (.int ev), (.ref tt), (.int (3 : Int32)), (.int (3 : Int32)), (.ref ra)]) rfl (by rw [hml]; rfl) [(.ref ra), (.int (3 : Int32)), (.int (3 : Int32)), (.ref tt), (.int ev), (.int iv)] [] rfl (lenOf own_pd___III_IIZ_Z rfl) rfl (Nat.le_refl _) (Jvm.hb hby at_265) (by decide) (by decide)
    have N1036 := Fr.app N1034 Nq1036
    have pre1037 := fun (τ : State) kt => pre1035 τ (by
      show Steps p.tables e below (T1034.setTop (mkF m 251 #[.val (.int pp), .val (.int aa), .val (.int bb), .val (.int cc), .val (.int (3 : Int32)), .val (.int t0), .val (.int t1), .val (.int t2), .val (.int t3), .val (.ref tt), .val (.int iv), .val (.int ev), .val (.ref d), .val (.ref wi), .val (.ref ra)] [(.int (1 : Int32))])) τ
      refine XS.ifNo X1034.here hx rfl (Jvm.hb hby at_251) rfl ((if0 _ _).trans (feq (by decide)).1) ?_
      refine XS.aload X1034.here hx rfl (Jvm.hb hby at_254) rfl rfl ?_
      refine XS.iconst X1034.here hx rfl (Jvm.hb hby at_256) ?_
      refine XS.iload X1034.here hx rfl (Jvm.hb hby at_257) rfl ?_
      refine XS.aload X1034.here hx rfl (Jvm.hb hby at_259) rfl rfl ?_
      refine XS.iload X1034.here hx rfl (Jvm.hb hby at_261) rfl ?_
      refine XS.iload X1034.here hx rfl (Jvm.hb hby at_263) rfl ?_
      exact st1036 τ kt)
    have pre1038 := fun (τ : State) kt => pre1037 τ (by
      show Steps p.tables e below (T1036.setTop (mkF m 268 #[.val (.int pp), .val (.int aa), .val (.int bb), .val (.int cc), .val (.int (3 : Int32)), .val (.int t0), .val (.int t1), .val (.int t2), .val (.int t3), .val (.ref tt), .val (.int iv), .val (.int ev), .val (.ref d), .val (.ref wi), .val (.ref ra)] [(.int (1 : Int32))])) τ
      refine XS.ifNo X1036.here hx rfl (Jvm.hb hby at_268) rfl ((if0 _ _).trans (feq (by decide)).1) ?_
      refine XS.iconst X1036.here hx rfl (Jvm.hb hby at_271) ?_
      refine XS.goto X1036.here hx rfl (pc0 := 272) (pc' := 276) rfl (Jvm.hb hby at_272) (by decide) (by decide) ?_
      exact kt)
    obtain ⟨fs, hrL, hrun, hended, hW, hsame⟩ := X1036.leave (v := some (.int (1 : Int32))) (fun h => by rw [Bd.returns] at h; cases h)
    refine ⟨_, _, cast (congrFun hPS _) (pre1038 _ ?_), hrun, hended, _, _, rfl, ?_, ⟨_, rfl⟩, hW, hsame.mono (by decide) (by decide)⟩
    · show Steps p.tables e below (T1036.setTop (mkF m 276 #[.val (.int pp), .val (.int aa), .val (.int bb), .val (.int cc), .val (.int (3 : Int32)), .val (.int t0), .val (.int t1), .val (.int t2), .val (.int t3), .val (.ref tt), .val (.int iv), .val (.int ev), .val (.ref d), .val (.ref wi), .val (.ref ra)] [(.int (1 : Int32))])) _
      exact retN X1036 hx (t := .boolean) Bd.returns (by simp) (Jvm.hb hby at_276) hrL
    · show Q0 n0 _ T1036.heap _
      exact ⟨rfl, N1036⟩
  · skip
    have pre1039 : ∀ τ, Steps p.tables e below (T882.setTop (mkF m 103 #[.val (.int pp), .val (.int aa), .val (.int bb), .val (.int cc), .val (.int (4 : Int32)), .val (.int t0), .val (.int t1), .val (.int t2), .val (.int t3), .val (.ref tt), .val (.int iv), .val (.int ev), .unset, .unset, .unset] [])) τ → PS τ := by have hq := pre889; rw [hn] at hq; exact hq
    obtain ⟨T1040, h1040, k1040, X1040, e1040, E1040, A1040, st1040⟩ := newP (aty := .double) X882 hx hZ (own_W4 hw) e882 (g := (mkF m 105 #[.val (.int pp), .val (.int aa), .val (.int bb), .val (.int cc), .val (.int (4 : Int32)), .val (.int t0), .val (.int t1), .val (.int t2), .val (.int t3), .val (.ref tt), .val (.int iv), .val (.int ev), .unset, .unset, .unset] [(.int (4 : Int32))])) rfl (Jvm.hb hby at_105) rfl (by decide) (cap := 4) (by decide) (by decide) (by decide) (by decide)
    obtain ⟨d, g1040⟩ : ∃ z, z = h882.size := ⟨_, rfl⟩
    rw [← g1040] at A1040 st1040
    have ne_tt_d : tt ≠ d := Nat.ne_of_lt (Nat.lt_of_lt_of_le V882.lt (Nat.le_of_eq g1040.symm))
    have g_d : n0 ≤ d := Nat.le_trans (Nat.le_trans Z0 K882.1) (Nat.le_of_eq g1040.symm)
    have sz_d : h0.size ≤ d := Nat.le_trans K882.1 (Nat.le_of_eq g1040.symm)
    have K1040 : Keep h0 h1040 [] := K882.ext E1040
    have V_d : Arv Z h1040 d k1040 .double (4 : Int32) [(.double (0 : UInt64)), (.double (0 : UInt64)), (.double (0 : UInt64)), (.double (0 : UInt64))] (.double (0 : UInt64)) := (Arv.new A1040 (by decide)).pad (pad_rep [] (.double (0 : UInt64)) 4)
    have pre1041 := fun (τ : State) kt => pre1039 τ (by
      show Steps p.tables e below (T882.setTop (mkF m 103 #[.val (.int pp), .val (.int aa), .val (.int bb), .val (.int cc), .val (.int (4 : Int32)), .val (.int t0), .val (.int t1), .val (.int t2), .val (.int t3), .val (.ref tt), .val (.int iv), .val (.int ev), .unset, .unset, .unset] [])) τ
      refine XS.iload X882.here hx rfl (Jvm.hb hby at_103) rfl ?_
      exact st1040 τ kt)
    obtain ⟨cl1042, Ar1042, q1042, S1042, M1042, H1042, U1042⟩ := id V_d
    obtain ⟨T1043, h1043, X1043, e1043, W1043, st1043⟩ := own_stD X1040 hx hZ e1040 Ar1042 (j := (0 : Int32)) (inb_of S1042 ⟨by decide, by decide⟩) (g := (mkF m 120 #[.val (.int pp), .val (.int aa), .val (.int bb), .val (.int cc), .val (.int (4 : Int32)), .val (.int t0), .val (.int t1), .val (.int t2), .val (.int t3), .val (.ref tt), .val (.int iv), .val (.int ev), .val (.ref d), .unset, .unset] [(.double (FP.i2d t0)), (.int (0 : Int32)), (.ref d)])) rfl rfl (Jvm.hb hby at_120)
    have V1043 : Arv Z h1043 d k1040 .double (4 : Int32) [(.double (FP.i2d t0)), (.double (0 : UInt64)), (.double (0 : UInt64)), (.double (0 : UInt64))] (.double (0 : UInt64)) := Arv.set Ar1042 q1042 S1042 M1042 H1042 U1042 rfl W1043 0 rfl (Nat.le_of_ble_eq_true rfl)
    have N1043 := Fr.snoc X1043 N882 g_d
    have K1043 : Keep h0 h1043 [] := K1040.wr W1043 (Or.inr sz_d)
    have pre1044 := fun (τ : State) kt => pre1041 τ (by
      show Steps p.tables e below (T1040.setTop (mkF m 107 #[.val (.int pp), .val (.int aa), .val (.int bb), .val (.int cc), .val (.int (4 : Int32)), .val (.int t0), .val (.int t1), .val (.int t2), .val (.int t3), .val (.ref tt), .val (.int iv), .val (.int ev), .unset, .unset, .unset] [(.ref d)])) τ
      refine XS.astore X1040.here hx rfl (Jvm.hb hby at_107) rfl rfl (l' := #[.val (.int pp), .val (.int aa), .val (.int bb), .val (.int cc), .val (.int (4 : Int32)), .val (.int t0), .val (.int t1), .val (.int t2), .val (.int t3), .val (.ref tt), .val (.int iv), .val (.int ev), .val (.ref d), .unset, .unset]) rfl ?_
      refine XS.iload X1040.here hx rfl (Jvm.hb hby at_109) rfl ?_
      refine XS.ifNo X1040.here hx rfl (Jvm.hb hby at_111) rfl ((if0 _ _).trans (tlt (by decide)).2.2.2) ?_
      refine XS.aload X1040.here hx rfl (Jvm.hb hby at_114) rfl rfl ?_
      refine XS.iconst X1040.here hx rfl (Jvm.hb hby at_116) ?_
      refine XS.iload X1040.here hx rfl (Jvm.hb hby at_117) rfl ?_
      refine own_i2d X1040.here hx rfl (Jvm.hb hby at_119) rfl ?_
      exact st1043 τ kt)
    obtain ⟨cl1045, Ar1045, q1045, S1045, M1045, H1045, U1045⟩ := id V1043
    obtain ⟨T1046, h1046, X1046, e1046, W1046, st1046⟩ := own_stD X1043 hx hZ e1043 Ar1045 (j := (1 : Int32)) (inb_of S1045 ⟨by decide, by decide⟩) (g := (mkF m 133 #[.val (.int pp), .val (.int aa), .val (.int bb), .val (.int cc), .val (.int (4 : Int32)), .val (.int t0), .val (.int t1), .val (.int t2), .val (.int t3), .val (.ref tt), .val (.int iv), .val (.int ev), .val (.ref d), .unset, .unset] [(.double (FP.i2d t1)), (.int (1 : Int32)), (.ref d)])) rfl rfl (Jvm.hb hby at_133)
    have V1046 : Arv Z h1046 d k1040 .double (4 : Int32) [(.double (FP.i2d t0)), (.double (FP.i2d t1)), (.double (0 : UInt64)), (.double (0 : UInt64))] (.double (0 : UInt64)) := Arv.set Ar1045 q1045 S1045 M1045 H1045 U1045 rfl W1046 1 rfl (Nat.le_of_ble_eq_true rfl)
    have N1046 := Fr.snoc X1046 N1043 g_d
    have K1046 : Keep h0 h1046 [] := K1043.wr W1046 (Or.inr sz_d)
    have pre1047 := fun (τ : State) kt => pre1044 τ (by
      show Steps p.tables e below (T1043.setTop (mkF m 121 #[.val (.int pp), .val (.int aa), .val (.int bb), .val (.int cc), .val (.int (4 : Int32)), .val (.int t0), .val (.int t1), .val (.int t2), .val (.int t3), .val (.ref tt), .val (.int iv), .val (.int ev), .val (.ref d), .unset, .unset] [])) τ
      refine XS.iload X1043.here hx rfl (Jvm.hb hby at_121) rfl ?_
      refine XS.iconst X1043.here hx rfl (Jvm.hb hby at_123) ?_
      refine XS.icmpNo X1043.here hx rfl (Jvm.hb hby at_124) rfl (tlt (by decide)).2.2.2 ?_
      refine XS.aload X1043.here hx rfl (Jvm.hb hby at_127) rfl rfl ?_
      refine XS.iconst X1043.here hx rfl (Jvm.hb hby at_129) ?_
      refine XS.iload X1043.here hx rfl (Jvm.hb hby at_130) rfl ?_
      refine own_i2d X1043.here hx rfl (Jvm.hb hby at_132) rfl ?_
      exact st1046 τ kt)
    obtain ⟨cl1048, Ar1048, q1048, S1048, M1048, H1048, U1048⟩ := id V1046
    obtain ⟨T1049, h1049, X1049, e1049, W1049, st1049⟩ := own_stD X1046 hx hZ e1046 Ar1048 (j := (2 : Int32)) (inb_of S1048 ⟨by decide, by decide⟩) (g := (mkF m 146 #[.val (.int pp), .val (.int aa), .val (.int bb), .val (.int cc), .val (.int (4 : Int32)), .val (.int t0), .val (.int t1), .val (.int t2), .val (.int t3), .val (.ref tt), .val (.int iv), .val (.int ev), .val (.ref d), .unset, .unset] [(.double (FP.i2d t2)), (.int (2 : Int32)), (.ref d)])) rfl rfl (Jvm.hb hby at_146)
    have V1049 : Arv Z h1049 d k1040 .double (4 : Int32) [(.double (FP.i2d t0)), (.double (FP.i2d t1)), (.double (FP.i2d t2)), (.double (0 : UInt64))] (.double (0 : UInt64)) := Arv.set Ar1048 q1048 S1048 M1048 H1048 U1048 rfl W1049 2 rfl (Nat.le_of_ble_eq_true rfl)
    have N1049 := Fr.snoc X1049 N1046 g_d
    have K1049 : Keep h0 h1049 [] := K1046.wr W1049 (Or.inr sz_d)
    have pre1050 := fun (τ : State) kt => pre1047 τ (by
      show Steps p.tables e below (T1046.setTop (mkF m 134 #[.val (.int pp), .val (.int aa), .val (.int bb), .val (.int cc), .val (.int (4 : Int32)), .val (.int t0), .val (.int t1), .val (.int t2), .val (.int t3), .val (.ref tt), .val (.int iv), .val (.int ev), .val (.ref d), .unset, .unset] [])) τ
      refine XS.iload X1046.here hx rfl (Jvm.hb hby at_134) rfl ?_
      refine XS.iconst X1046.here hx rfl (Jvm.hb hby at_136) ?_
      refine XS.icmpNo X1046.here hx rfl (Jvm.hb hby at_137) rfl (tlt (by decide)).2.2.2 ?_
      refine XS.aload X1046.here hx rfl (Jvm.hb hby at_140) rfl rfl ?_
      refine XS.iconst X1046.here hx rfl (Jvm.hb hby at_142) ?_
      refine XS.iload X1046.here hx rfl (Jvm.hb hby at_143) rfl ?_
      refine own_i2d X1046.here hx rfl (Jvm.hb hby at_145) rfl ?_
      exact st1049 τ kt)
    obtain ⟨cl1051, Ar1051, q1051, S1051, M1051, H1051, U1051⟩ := id V1049
    obtain ⟨T1052, h1052, X1052, e1052, W1052, st1052⟩ := own_stD X1049 hx hZ e1049 Ar1051 (j := (3 : Int32)) (inb_of S1051 ⟨by decide, by decide⟩) (g := (mkF m 159 #[.val (.int pp), .val (.int aa), .val (.int bb), .val (.int cc), .val (.int (4 : Int32)), .val (.int t0), .val (.int t1), .val (.int t2), .val (.int t3), .val (.ref tt), .val (.int iv), .val (.int ev), .val (.ref d), .unset, .unset] [(.double (FP.i2d t3)), (.int (3 : Int32)), (.ref d)])) rfl rfl (Jvm.hb hby at_159)
    have V1052 : Arv Z h1052 d k1040 .double (4 : Int32) [(.double (FP.i2d t0)), (.double (FP.i2d t1)), (.double (FP.i2d t2)), (.double (FP.i2d t3))] (.double (0 : UInt64)) := Arv.set Ar1051 q1051 S1051 M1051 H1051 U1051 rfl W1052 3 rfl (Nat.le_of_ble_eq_true rfl)
    have N1052 := Fr.snoc X1052 N1049 g_d
    have K1052 : Keep h0 h1052 [] := K1049.wr W1052 (Or.inr sz_d)
    have pre1053 := fun (τ : State) kt => pre1050 τ (by
      show Steps p.tables e below (T1049.setTop (mkF m 147 #[.val (.int pp), .val (.int aa), .val (.int bb), .val (.int cc), .val (.int (4 : Int32)), .val (.int t0), .val (.int t1), .val (.int t2), .val (.int t3), .val (.ref tt), .val (.int iv), .val (.int ev), .val (.ref d), .unset, .unset] [])) τ
      refine XS.iload X1049.here hx rfl (Jvm.hb hby at_147) rfl ?_
      refine XS.iconst X1049.here hx rfl (Jvm.hb hby at_149) ?_
      refine XS.icmpNo X1049.here hx rfl (Jvm.hb hby at_150) rfl (tlt (by decide)).2.2.2 ?_
      refine XS.aload X1049.here hx rfl (Jvm.hb hby at_153) rfl rfl ?_
      refine XS.iconst X1049.here hx rfl (Jvm.hb hby at_155) ?_
      refine XS.iload X1049.here hx rfl (Jvm.hb hby at_156) rfl ?_
      refine own_i2d X1049.here hx rfl (Jvm.hb hby at_158) rfl ?_
      exact st1052 τ kt)
    obtain ⟨T1054, h1054, X1054, e1054, E1054, A1054, D1054, -, st1054⟩ := newO X1052 hx hZ hown (own_W5 hw) (own_W6 hw) (own_W7 hw) e1052 (g := (mkF m 160 #[.val (.int pp), .val (.int aa), .val (.int bb), .val (.int cc), .val (.int (4 : Int32)), .val (.int t0), .val (.int t1), .val (.int t2), .val (.int t3), .val (.ref tt), .val (.int iv), .val (.int ev), .val (.ref d), .unset, .unset] [])) rfl (Jvm.hb hby at_160) (by decide) (by decide)
    obtain ⟨wi, g1054⟩ : ∃ z, z = h1052.size := ⟨_, rfl⟩
    rw [← g1054] at A1054 D1054 st1054
    have f1055 := V882.ext E1040
    have f1056 := f1055.other W1043 ne_tt_d
    have f1057 := f1056.other W1046 ne_tt_d
    have f1058 := f1057.other W1049 ne_tt_d
    have f1059 := f1058.other W1052 ne_tt_d
    have ne_tt_wi : tt ≠ wi := Nat.ne_of_lt (Nat.lt_of_lt_of_le f1059.lt (Nat.le_of_eq g1054.symm))
    have ne_d_wi : d ≠ wi := Nat.ne_of_lt (Nat.lt_of_lt_of_le V1052.lt (Nat.le_of_eq g1054.symm))
    have g_wi : n0 ≤ wi := Nat.le_trans (Nat.le_trans Z0 K1052.1) (Nat.le_of_eq g1054.symm)
    have sz_wi : h0.size ≤ wi := Nat.le_trans K1052.1 (Nat.le_of_eq g1054.symm)
    have K1054 : Keep h0 h1054 [] := K1052.ext E1054
    have F_start_wi : Fld Z h1054 wi "com/example/counterpath/counterpath/core/Window" "start" "D" (.double (0 : UInt64)) := D1054 (Or.inr (own_W15 hw)) (ty := .double) (by decide)
    have F_end_wi : Fld Z h1054 wi "com/example/counterpath/counterpath/core/Window" "end" "D" (.double (0 : UInt64)) := D1054 (Or.inr (own_W17 hw)) (ty := .double) (by decide)
    have pre1060 := fun (τ : State) kt => pre1053 τ (st1054 τ kt)
    have pre1061 := fun (τ : State) kt => pre1060 τ (by
      show Steps p.tables e below (T1054.setTop (mkF m 163 #[.val (.int pp), .val (.int aa), .val (.int bb), .val (.int cc), .val (.int (4 : Int32)), .val (.int t0), .val (.int t1), .val (.int t2), .val (.int t3), .val (.ref tt), .val (.int iv), .val (.int ev), .val (.ref d), .unset, .unset] [(.ref wi)])) τ
      refine XS.dup X1054.here hx rfl (Jvm.hb hby at_163) rfl rfl ?_
      refine own_dconst0 X1054.here hx rfl (Jvm.hb hby at_164) ?_
      refine XS.iload X1054.here hx rfl (Jvm.hb hby at_165) rfl ?_
      exact kt)
    obtain ⟨en, hj1062, pre1062⟩ : ∃ (en : UInt64), ((¬ iv = 0 ∧ en = own_inf) ∨ (iv = 0 ∧ en = FP.i2d ev)) ∧ ∀ τ, Steps p.tables e below (T1054.setTop (mkF m 179 #[.val (.int pp), .val (.int aa), .val (.int bb), .val (.int cc), .val (.int (4 : Int32)), .val (.int t0), .val (.int t1), .val (.int t2), .val (.int t3), .val (.ref tt), .val (.int iv), .val (.int ev), .val (.ref d), .unset, .unset] [(.double en), (.double FP.dconst0), (.ref wi), (.ref wi)])) τ → PS τ := by
      by_cases q : iv = (0 : Int32)
      · skip
        have pre1063 := fun (τ : State) kt => pre1061 τ (by
          show Steps p.tables e below (T1054.setTop (mkF m 167 #[.val (.int pp), .val (.int aa), .val (.int bb), .val (.int cc), .val (.int (4 : Int32)), .val (.int t0), .val (.int t1), .val (.int t2), .val (.int t3), .val (.ref tt), .val (.int iv), .val (.int ev), .val (.ref d), .unset, .unset] [(.int iv), (.double FP.dconst0), (.ref wi), (.ref wi)])) τ
          refine XS.ifYes X1054.here hx rfl (pc0 := 167) (pc' := 176) rfl (Jvm.hb hby at_167) rfl ((if0 _ _).trans (teq q).1) (by decide) (by decide) ?_
          refine XS.iload X1054.here hx rfl (Jvm.hb hby at_176) rfl ?_
          refine own_i2d X1054.here hx rfl (Jvm.hb hby at_178) rfl ?_
          exact kt)
        exact ⟨(FP.i2d ev), Or.inr ⟨q, rfl⟩, pre1063⟩
      · skip
        have pre1064 := fun (τ : State) kt => pre1061 τ (by
          show Steps p.tables e below (T1054.setTop (mkF m 167 #[.val (.int pp), .val (.int aa), .val (.int bb), .val (.int cc), .val (.int (4 : Int32)), .val (.int t0), .val (.int t1), .val (.int t2), .val (.int t3), .val (.ref tt), .val (.int iv), .val (.int ev), .val (.ref d), .unset, .unset] [(.int iv), (.double FP.dconst0), (.ref wi), (.ref wi)])) τ
          refine XS.ifNo X1054.here hx rfl (Jvm.hb hby at_167) rfl ((if0 _ _).trans (feq q).1) ?_
          refine X1054.ldc2DoubleC hx hown (mvT hZ (own_W28 hw)) (g := (mkF m 170 #[.val (.int pp), .val (.int aa), .val (.int bb), .val (.int cc), .val (.int (4 : Int32)), .val (.int t0), .val (.int t1), .val (.int t2), .val (.int t3), .val (.ref tt), .val (.int iv), .val (.int ev), .val (.ref d), .unset, .unset] [(.double FP.dconst0), (.ref wi), (.ref wi)])) rfl (Jvm.hb hby at_170) _ ?_
          refine XS.goto X1054.here hx rfl (pc0 := 173) (pc' := 179) rfl (Jvm.hb hby at_173) (by decide) (by decide) ?_
          exact kt)
        exact ⟨own_inf, Or.inl ⟨q, rfl⟩, pre1064⟩
    obtain ⟨_, T1065, L1065, X1065, ⟨rfl, Nq1065, Kq1065, z_end⟩, st1065⟩ := own_spec (y := own_mn0) (b := wi) X1054 hx hZ rfl hown (own_W8 hw) (own_W9 hw) (by decide) (rmWi l Z a0 hw [] wi FP.dconst0 en h1054 n0 (Nat.le_trans Z0 K1054.1) A1054 F_start_wi F_end_wi g_wi) (own_W10 hw) (own_W7 hw) 1 (by decide) (by decide) e1054 (mkF m 179 #[.val (.int pp), .val (.int aa), .val (.int bb), .val (.int cc), .val (.int (4 : Int32)), .val (.int t0), .val (.int t1), .val (.int t2), .val (.int t3), .val (.ref tt), .val (.int iv), .val (.int ev), .val (.ref d), .unset, .unset] [(.double en), (.double FP.dconst0), (.ref wi), (.ref wi)]) rfl (by rw [hml]; rfl) [(.double FP.dconst0), (.double en)] [(.ref wi)] rfl (lenOf own_pd__DD_V rfl) rfl (Nat.le_refl _) (Jvm.hb hby at_179) (by decide) (by decide)
    have N1065 := Fr.app N1052 Nq1065
    have K1065 : Keep h0 T1065.heap [] := K1054.trans Kq1065 (allS (Or.inr sz_wi) (all0))
    have pre1066 := fun (τ : State) kt => pre1062 τ (st1065 τ kt)
    obtain ⟨lx0, w0⟩ := own_row_ex (n := 4) (ti := t0) (by decide) (by decide) r2.1 r3.1 (by omega) (by omega) hev.1 hev.2 hj1062
    obtain ⟨lx1, w1⟩ := own_row_ex (n := 4) (ti := t1) (by decide) (by decide) r2.1 r3.1 (by omega) (by omega) hev.1 hev.2 hj1062
    obtain ⟨lx2, w2⟩ := own_row_ex (n := 4) (ti := t2) (by decide) (by decide) r2.1 r3.1 (by omega) (by omega) hev.1 hev.2 hj1062
    obtain ⟨lx3, w3⟩ := own_row_ex (n := 4) (ti := t3) (by decide) (by decide) r2.1 r3.1 (by omega) (by omega) hev.1 hev.2 hj1062
    have m1 := own_row_mono w0 w1 (by omega) (by omega) (by omega) hev.1 hev.2 (by decide)
    have m2 := own_row_mono w1 w2 (by omega) (by omega) (by omega) hev.1 hev.2 (by decide)
    have m3 := own_row_mono w2 w3 (by omega) (by omega) (by omega) hev.1 hev.2 (by decide)
    have f1067 := A1054.keep Kq1065
    have f1068 := V1052.ext E1054
    have f1069 := f1068.keep Kq1065 (ninS ne_d_wi (nin0))
    obtain ⟨_, T1070, L1070, X1070, ⟨ra, kr, rfl, Nq1070, Kq1070, g_ra, s_ra, v_ra⟩, st1070⟩ := own_virt (y := own_mn1) (b := wi) X1065 hx hZ hown (own_W18 hw) (own_W19 hw) (own_W21 hw) (own_W20 hw) (by decide) (rmL4 l Z a0 hw [] wi d k1040 iv t0 t1 t2 t3 ev lx0 lx1 lx2 lx3 en T1065.heap n0 (Nat.le_trans Z0 K1065.1) f1067 z_end f1069 w0 w1 w2 w3 m1 m2 m3) (own_W22 hw) (own_W7 hw) 0 (by decide) (by decide) f1067 rfl (mkF m 188 #[.val (.int pp), .val (.int aa), .val (.int bb), .val (.int cc), .val (.int (4 : Int32)), .val (.int t0), .val (.int t1), .val (.int t2), .val (.int t3), .val (.ref tt), .val (.int iv), .val (.int ev), .val (.ref d), .val (.ref wi), .unset] [(.ref d), (.ref wi)]) rfl (by rw [hml]; rfl) [(.ref d)] [] rfl (lenOf own_pd___D__I rfl) rfl (Nat.le_refl _) (Jvm.hb hby at_188) (by decide) (by decide)
    have N1070 := Fr.app N1065 Nq1070
    have K1070 : Keep h0 T1070.heap [] := K1065.trans Kq1070 (all0)
    have pre1071 := fun (τ : State) kt => pre1066 τ (by
      show Steps p.tables e below (T1065.setTop (mkF m 182 #[.val (.int pp), .val (.int aa), .val (.int bb), .val (.int cc), .val (.int (4 : Int32)), .val (.int t0), .val (.int t1), .val (.int t2), .val (.int t3), .val (.ref tt), .val (.int iv), .val (.int ev), .val (.ref d), .unset, .unset] [(.ref wi)])) τ
      refine XS.astore X1065.here hx rfl (Jvm.hb hby at_182) rfl rfl (l' := #[.val (.int pp), .val (.int aa), .val (.int bb), .val (.int cc), .val (.int (4 : Int32)), .val (.int t0), .val (.int t1), .val (.int t2), .val (.int t3), .val (.ref tt), .val (.int iv), .val (.int ev), .val (.ref d), .val (.ref wi), .unset]) rfl ?_
      refine XS.aload X1065.here hx rfl (Jvm.hb hby at_184) rfl rfl ?_
      refine XS.aload X1065.here hx rfl (Jvm.hb hby at_186) rfl rfl ?_
      exact st1070 τ kt)
    obtain ⟨cl1072, Ar1072, q1072, S1072, M1072, H1072, U1072⟩ := id v_ra
    have pre1073 := fun (τ : State) kt => pre1071 τ (by
      show Steps p.tables e below (T1070.setTop (mkF m 191 #[.val (.int pp), .val (.int aa), .val (.int bb), .val (.int cc), .val (.int (4 : Int32)), .val (.int t0), .val (.int t1), .val (.int t2), .val (.int t3), .val (.ref tt), .val (.int iv), .val (.int ev), .val (.ref d), .val (.ref wi), .unset] [(.ref ra)])) τ
      refine XS.astore X1070.here hx rfl (Jvm.hb hby at_191) rfl rfl (l' := #[.val (.int pp), .val (.int aa), .val (.int bb), .val (.int cc), .val (.int (4 : Int32)), .val (.int t0), .val (.int t1), .val (.int t2), .val (.int t3), .val (.ref tt), .val (.int iv), .val (.int ev), .val (.ref d), .val (.ref wi), .val (.ref ra)]) rfl ?_
      refine XS.aload X1070.here hx rfl (Jvm.hb hby at_193) rfl rfl ?_
      refine X1070.arraylength hx ((congrArg (fun (HH : Heap) => HH[ra]?) (rfl : T1070.heap = T1070.heap)).trans Ar1072.1) (State.isArrayOf_alike hZ.alike Ar1072.2.1) (g := (mkF m 195 #[.val (.int pp), .val (.int aa), .val (.int bb), .val (.int cc), .val (.int (4 : Int32)), .val (.int t0), .val (.int t1), .val (.int t2), .val (.int t3), .val (.ref tt), .val (.int iv), .val (.int ev), .val (.ref d), .val (.ref wi), .val (.ref ra)] [(.ref ra)])) rfl rfl (Jvm.hb hby at_195) _ ?_
      exact kt)
    have pre1074 : ∀ τ, Steps p.tables e below (T1070.setTop (mkF m 196 #[.val (.int pp), .val (.int aa), .val (.int bb), .val (.int cc), .val (.int (4 : Int32)), .val (.int t0), .val (.int t1), .val (.int t2), .val (.int t3), .val (.ref tt), .val (.int iv), .val (.int ev), .val (.ref d), .val (.ref wi), .val (.ref ra)] [(.int (4 : Int32))])) τ → PS τ := by
      have hq := pre1073
      rw [len_of S1072 M1072] at hq
      exact hq
    have f1075 := f1059.ext E1054
    have f1076 := f1075.keep Kq1065 (ninS ne_tt_wi (nin0))
    have f1077 := f1076.keep Kq1070 (nin0)
    obtain ⟨_, T1078, L1078, X1078, ⟨rfl, Nq1078, eq1078⟩, st1078⟩ := own_stat (y := own_mn2) X1070 hx hZ hown (own_W23 hw) (own_W24 hw) (by decide) (rmC0_4 l Z a0 hw [] ra (0 : Int32) (4 : Int32) tt ev iv kr k870 t0 t1 t2 t3 lx0 lx1 lx2 lx3 en T1070.heap n0 (Nat.le_trans Z0 K1070.1) rfl rfl v_ra f1077 w0) (own_W26 hw) (own_W25 hw) 0 (by decide) (by decide) rfl (mkF m 214 #[.val (.int pp), .val (.int aa), .val (.int bb), .val (.int cc), .val (.int (4 : Int32)), .val (.int t0), .val (.int t1), .val (.int t2), .val (.int t3), .val (.ref tt), .val (.int iv), .val (.int ev), .val (.ref d), .val (.ref wi), .val (.ref ra)] [(.int iv), (.int ev), (.ref tt), (.int (4 : Int32)), (.int (0 : Int32)), (.ref ra)]) rfl (by rw [hml]; rfl) [(.ref ra), (.int (0 : Int32)), (.int (4 : Int32)), (.ref tt), (.int ev), (.int iv)] [] rfl (lenOf own_pd___III_IIZ_Z rfl) rfl (Nat.le_refl _) (Jvm.hb hby at_214) (by decide) (by decide)
    have N1078 := Fr.app N1070 Nq1078
    have pre1079 := fun (τ : State) kt => pre1074 τ (by
      show Steps p.tables e below (T1070.setTop (mkF m 196 #[.val (.int pp), .val (.int aa), .val (.int bb), .val (.int cc), .val (.int (4 : Int32)), .val (.int t0), .val (.int t1), .val (.int t2), .val (.int t3), .val (.ref tt), .val (.int iv), .val (.int ev), .val (.ref d), .val (.ref wi), .val (.ref ra)] [(.int (4 : Int32))])) τ
      refine XS.iload X1070.here hx rfl (Jvm.hb hby at_196) rfl ?_
      refine XS.icmpYes X1070.here hx rfl (pc0 := 198) (pc' := 203) rfl (Jvm.hb hby at_198) rfl (teq rfl).1 (by decide) (by decide) ?_
      refine XS.aload X1070.here hx rfl (Jvm.hb hby at_203) rfl rfl ?_
      refine XS.iconst X1070.here hx rfl (Jvm.hb hby at_205) ?_
      refine XS.iload X1070.here hx rfl (Jvm.hb hby at_206) rfl ?_
      refine XS.aload X1070.here hx rfl (Jvm.hb hby at_208) rfl rfl ?_
      refine XS.iload X1070.here hx rfl (Jvm.hb hby at_210) rfl ?_
      refine XS.iload X1070.here hx rfl (Jvm.hb hby at_212) rfl ?_
      exact st1078 τ kt)
    obtain ⟨_, T1080, L1080, X1080, ⟨rfl, Nq1080, eq1080⟩, st1080⟩ := own_stat (y := own_mn2) X1078 hx hZ hown (own_W23 hw) (own_W24 hw) (by decide) (rmC1_4 l Z a0 hw [] ra (1 : Int32) (4 : Int32) tt ev iv kr k870 t0 t1 t2 t3 lx0 lx1 lx2 lx3 en T1070.heap n0 (Nat.le_trans Z0 K1070.1) rfl rfl v_ra f1077 w1) (own_W26 hw) (own_W25 hw) 0 (by decide) (by decide) eq1078 (mkF m 231 #[.val (.int pp), .val (.int aa), .val (.int bb), .val (.int cc), .val (.int (4 : Int32)), .val (.int t0), .val (.int t1), .val (.int t2), .val (.int t3), .val (.ref tt), .val (.int iv), .val (.int ev), .val (.ref d), .val (.ref wi), .val (.ref ra)] [(.int iv), (.int ev), (.ref tt), (.int (4 : Int32)), (.int (1 : Int32)), (.ref ra)]) rfl (by rw [hml]; rfl) [(.ref ra), (.int (1 : Int32)), (.int (4 : Int32)), (.ref tt), (.int ev), (.int iv)] [] rfl (lenOf own_pd___III_IIZ_Z rfl) rfl (Nat.le_refl _) (Jvm.hb hby at_231) (by decide) (by decide)
    have N1080 := Fr.app N1078 Nq1080
    have pre1081 := fun (τ : State) kt => pre1079 τ (by
      show Steps p.tables e below (T1078.setTop (mkF m 217 #[.val (.int pp), .val (.int aa), .val (.int bb), .val (.int cc), .val (.int (4 : Int32)), .val (.int t0), .val (.int t1), .val (.int t2), .val (.int t3), .val (.ref tt), .val (.int iv), .val (.int ev), .val (.ref d), .val (.ref wi), .val (.ref ra)] [(.int (1 : Int32))])) τ
      refine XS.ifNo X1078.here hx rfl (Jvm.hb hby at_217) rfl ((if0 _ _).trans (feq (by decide)).1) ?_
      refine XS.aload X1078.here hx rfl (Jvm.hb hby at_220) rfl rfl ?_
      refine XS.iconst X1078.here hx rfl (Jvm.hb hby at_222) ?_
      refine XS.iload X1078.here hx rfl (Jvm.hb hby at_223) rfl ?_
      refine XS.aload X1078.here hx rfl (Jvm.hb hby at_225) rfl rfl ?_
      refine XS.iload X1078.here hx rfl (Jvm.hb hby at_227) rfl ?_
      refine XS.iload X1078.here hx rfl (Jvm.hb hby at_229) rfl ?_
      exact st1080 τ kt)
    obtain ⟨_, T1082, L1082, X1082, ⟨rfl, Nq1082, eq1082⟩, st1082⟩ := own_stat (y := own_mn2) X1080 hx hZ hown (own_W23 hw) (own_W24 hw) (by decide) (rmC2_4 l Z a0 hw [] ra (2 : Int32) (4 : Int32) tt ev iv kr k870 t0 t1 t2 t3 lx0 lx1 lx2 lx3 en T1070.heap n0 (Nat.le_trans Z0 K1070.1) rfl rfl v_ra f1077 w2) (own_W26 hw) (own_W25 hw) 0 (by decide) (by decide) eq1080 (mkF m 248 #[.val (.int pp), .val (.int aa), .val (.int bb), .val (.int cc), .val (.int (4 : Int32)), .val (.int t0), .val (.int t1), .val (.int t2), .val (.int t3), .val (.ref tt), .val (.int iv), .val (.int ev), .val (.ref d), .val (.ref wi), .val (.ref ra)] [(.int iv), (.int ev), (.ref tt), (.int (4 : Int32)), (.int (2 : Int32)), (.ref ra)]) rfl (by rw [hml]; rfl) [(.ref ra), (.int (2 : Int32)), (.int (4 : Int32)), (.ref tt), (.int ev), (.int iv)] [] rfl (lenOf own_pd___III_IIZ_Z rfl) rfl (Nat.le_refl _) (Jvm.hb hby at_248) (by decide) (by decide)
    have N1082 := Fr.app N1080 Nq1082
    have pre1083 := fun (τ : State) kt => pre1081 τ (by
      show Steps p.tables e below (T1080.setTop (mkF m 234 #[.val (.int pp), .val (.int aa), .val (.int bb), .val (.int cc), .val (.int (4 : Int32)), .val (.int t0), .val (.int t1), .val (.int t2), .val (.int t3), .val (.ref tt), .val (.int iv), .val (.int ev), .val (.ref d), .val (.ref wi), .val (.ref ra)] [(.int (1 : Int32))])) τ
      refine XS.ifNo X1080.here hx rfl (Jvm.hb hby at_234) rfl ((if0 _ _).trans (feq (by decide)).1) ?_
      refine XS.aload X1080.here hx rfl (Jvm.hb hby at_237) rfl rfl ?_
      refine XS.iconst X1080.here hx rfl (Jvm.hb hby at_239) ?_
      refine XS.iload X1080.here hx rfl (Jvm.hb hby at_240) rfl ?_
      refine XS.aload X1080.here hx rfl (Jvm.hb hby at_242) rfl rfl ?_
      refine XS.iload X1080.here hx rfl (Jvm.hb hby at_244) rfl ?_
      refine XS.iload X1080.here hx rfl (Jvm.hb hby at_246) rfl ?_
      exact st1082 τ kt)
    obtain ⟨_, T1084, L1084, X1084, ⟨rfl, Nq1084, eq1084⟩, st1084⟩ := own_stat (y := own_mn2) X1082 hx hZ hown (own_W23 hw) (own_W24 hw) (by decide) (rmC3_4 l Z a0 hw [] ra (3 : Int32) (4 : Int32) tt ev iv kr k870 t0 t1 t2 t3 lx0 lx1 lx2 lx3 en T1070.heap n0 (Nat.le_trans Z0 K1070.1) rfl rfl v_ra f1077 w3) (own_W26 hw) (own_W25 hw) 0 (by decide) (by decide) eq1082 (mkF m 265 #[.val (.int pp), .val (.int aa), .val (.int bb), .val (.int cc), .val (.int (4 : Int32)), .val (.int t0), .val (.int t1), .val (.int t2), .val (.int t3), .val (.ref tt), .val (.int iv), .val (.int ev), .val (.ref d), .val (.ref wi), .val (.ref ra)] [(.int iv), (.int ev), (.ref tt), (.int (4 : Int32)), (.int (3 : Int32)), (.ref ra)]) rfl (by rw [hml]; rfl) [(.ref ra), (.int (3 : Int32)), (.int (4 : Int32)), (.ref tt), (.int ev), (.int iv)] [] rfl (lenOf own_pd___III_IIZ_Z rfl) rfl (Nat.le_refl _) (Jvm.hb hby at_265) (by decide) (by decide)
    have N1084 := Fr.app N1082 Nq1084
    have pre1085 := fun (τ : State) kt => pre1083 τ (by
      show Steps p.tables e below (T1082.setTop (mkF m 251 #[.val (.int pp), .val (.int aa), .val (.int bb), .val (.int cc), .val (.int (4 : Int32)), .val (.int t0), .val (.int t1), .val (.int t2), .val (.int t3), .val (.ref tt), .val (.int iv), .val (.int ev), .val (.ref d), .val (.ref wi), .val (.ref ra)] [(.int (1 : Int32))])) τ
      refine XS.ifNo X1082.here hx rfl (Jvm.hb hby at_251) rfl ((if0 _ _).trans (feq (by decide)).1) ?_
      refine XS.aload X1082.here hx rfl (Jvm.hb hby at_254) rfl rfl ?_
      refine XS.iconst X1082.here hx rfl (Jvm.hb hby at_256) ?_
      refine XS.iload X1082.here hx rfl (Jvm.hb hby at_257) rfl ?_
      refine XS.aload X1082.here hx rfl (Jvm.hb hby at_259) rfl rfl ?_
      refine XS.iload X1082.here hx rfl (Jvm.hb hby at_261) rfl ?_
      refine XS.iload X1082.here hx rfl (Jvm.hb hby at_263) rfl ?_
      exact st1084 τ kt)
    have pre1086 := fun (τ : State) kt => pre1085 τ (by
      show Steps p.tables e below (T1084.setTop (mkF m 268 #[.val (.int pp), .val (.int aa), .val (.int bb), .val (.int cc), .val (.int (4 : Int32)), .val (.int t0), .val (.int t1), .val (.int t2), .val (.int t3), .val (.ref tt), .val (.int iv), .val (.int ev), .val (.ref d), .val (.ref wi), .val (.ref ra)] [(.int (1 : Int32))])) τ
      refine XS.ifNo X1084.here hx rfl (Jvm.hb hby at_268) rfl ((if0 _ _).trans (feq (by decide)).1) ?_
      refine XS.iconst X1084.here hx rfl (Jvm.hb hby at_271) ?_
      refine XS.goto X1084.here hx rfl (pc0 := 272) (pc' := 276) rfl (Jvm.hb hby at_272) (by decide) (by decide) ?_
      exact kt)
    obtain ⟨fs, hrL, hrun, hended, hW, hsame⟩ := X1084.leave (v := some (.int (1 : Int32))) (fun h => by rw [Bd.returns] at h; cases h)
    refine ⟨_, _, cast (congrFun hPS _) (pre1086 _ ?_), hrun, hended, _, _, rfl, ?_, ⟨_, rfl⟩, hW, hsame.mono (by decide) (by decide)⟩
    · show Steps p.tables e below (T1084.setTop (mkF m 276 #[.val (.int pp), .val (.int aa), .val (.int bb), .val (.int cc), .val (.int (4 : Int32)), .val (.int t0), .val (.int t1), .val (.int t2), .val (.int t3), .val (.ref tt), .val (.int iv), .val (.int ev), .val (.ref d), .val (.ref wi), .val (.ref ra)] [(.int (1 : Int32))])) _
      exact retN X1084 hx (t := .boolean) Bd.returns (by simp) (Jvm.hb hby at_276) hrL
    · show Q0 n0 _ T1084.heap _
      exact ⟨rfl, N1084⟩
set_option maxRecDepth 65536 in
set_option maxHeartbeats 40000000 in
theorem comes_1 {Post : Tables → Env → Array Value → State → Outcome → State → Prop} (hpost : ∀ tb e args s v u, (limb_1_1.after args s (.returned v) u = true ∧ limb_1_2.after args s (.returned v) u = true ∧ True) → FrameEnd s (.returned v) u (Jvm.fieldLocs frame_1_writes args s ++ Jvm.arrayLocs frame_1_arrays args s ++ Jvm.staticLocs frame_1_statics s) 16 128 → Post tb e args s (.returned v) u) :
    ArmFor flags0 classFile x code maxLocals ret World_1 tables_1 room_1 Calls_1 rest_1 Pre_1 Post := by
  intro l hfl _ _ p e ha hc hk s m args below hf hA hF happ hP
  obtain ⟨hcalls, hrest, hpre⟩ := hP
  obtain ⟨-, -, -, hnamed, -, -, -, hat⟩ := (Spec.applies_iff hf).mp happ
  obtain ⟨hg, hn⟩ := and_e (Cond.before_iff.mp (show (Jvm.Cond.and given_1 narrow_1).before args s = true from hpre))
  obtain ⟨g1, g2⟩ := and_e hg
  obtain ⟨g3, g4⟩ := and_e g2
  obtain ⟨g5, g6⟩ := and_e g4
  obtain ⟨g7, g8⟩ := and_e g6
  obtain ⟨w0, w1, w2, w3, rfl⟩ : ∃ w0 w1 w2 w3 : Value, args = #[w0, w1, w2, w3] := by
    have hs : args.size = 4 := by simpa [Cond.value, given_1] using g1
    obtain ⟨L⟩ := args
    match L, hs with
    | [w0, w1, w2, w3], _ => exact ⟨w0, w1, w2, w3, rfl⟩
  have hw := fun d (hd : d ∈ tables_1) => atoms_spec (ws := Jvm.Cond.code x code maxLocals ret :: tables_1) hat d (List.mem_cons_of_mem _ hd)
  obtain ⟨i0, ei0⟩ := is_v g3
  obtain rfl : w0 = (.int i0) := Option.some.inj ei0
  obtain ⟨i1, ei1⟩ := is_v g5
  obtain rfl : w1 = (.int i1) := Option.some.inj ei1
  obtain ⟨i2, ei2⟩ := is_v g7
  obtain rfl : w2 = (.int i2) := Option.some.inj ei2
  obtain ⟨i3, ei3⟩ := is_v g8
  obtain rfl : w3 = (.int i3) := Option.some.inj ei3
  obtain ⟨n, o, h1, h2, h3, _, L, rfl, ⟨rfl, N⟩, hq⟩ := rm0 l s _ hw tables_1 i0 i1 i2 i3 s.heap s.heap.size (Nat.le_refl _) p e ha hc hk s m _ below hf ((Spec.applies_iff_loose hf).mp happ).1 ⟨rfl, State.Warmed39.refl s, rfl⟩ trivial
  refine ⟨n, _, h1, h2, h3, hpost _ _ _ _ _ _ ⟨Cond.after_iff.mpr rfl, Cond.after_iff.mpr (eq_i res_at (Term.int_eval (1)) rfl), trivial⟩ ⟨hq.1, hq.2.1, (hq.2.2.sift fun y hy => Or.inr (N y hy)).mono (by decide) (by decide)⟩⟩
theorem main_1_1 : Claimed_1_1 := comes_1 fun _ _ _ _ _ _ h hF => ⟨h.1, hF⟩
theorem main_1_2 : Claimed_1_2 := comes_1 fun _ _ _ _ _ _ h hF => ⟨h.2.1, hF⟩
end Jvm.Pilot.@@N@@
namespace Jvm.Pilot.@@N@@
open Jvm Jvm.ClassFile Sem Op Lib Jvm.Free Jvm.Stand Jvm.Pilot.@@N@@.Jvm.D
/-! MADE BY PROGRAM (witnessworld.py) out of the Statement's table words and the real class files: 11 classes; the members and pool entries that the words name. The judged class is class 1, her method 1. -/
namespace start1
open Jvm.ClassFile
def u (s : String) : CpInfo := .utf8 (stringToUtf16 s)
/-- a pool by its gaps: so many unusable entries, then the entry; so many at the end -/
def gap : Nat → List CpInfo → List CpInfo
  | 0, r => r
  | n + 1, r => .unusable :: gap n r
def poolList (es : List (Nat × CpInfo)) (last : Nat) : List CpInfo := es.foldr (fun e r => gap e.1 (e.2 :: r)) (gap last [])
def pool (es : List (Nat × CpInfo)) (last : Nat) : Array CpInfo := ⟨poolList es last⟩
def fileOf (pool : Array CpInfo) (this : Nat) (attrs : Array Attribute := #[]) (ms : Array MethodInfo := #[]) (fl : Nat := 33) (sup : Nat := 0) (ifs : Array Nat := #[]) (fds : Array FieldInfo := #[]) : ClassFile where
  minorVersion := 0
  majorVersion := 65
  constantPool := pool
  accessFlags := fl
  thisClass := this
  superClass := sup
  interfaces := ifs
  fields := fds
  methods := ms
  attributes := attrs
def plain (name : String) (sup : Option ClassId) : Class where
  name := name
  kind := .ordinary
  loader := none
  accessFlags := 33
  super := sup
  interfaces := #[]
  cf := none
  fields := #[]
  methods := #[]
  instanceTypes := #[]
  staticTypes := #[]
  resolved := #[]
  callSites := []
  init := .initialized
  statics := none
  mirror := none

def pool0 : Array CpInfo := pool [(5, u "<init>"), (0, u "()V"), (1, .class_ 10), (1, u "java/lang/Object")] 113

def k0c0 : Code := { maxStack := 0, maxLocals := 1, code := object_method_1_code, exceptionTable := #[], attributes := #[] }
def k0m0 : Method := { name := "<init>", desc := "()V", sig := { parameters := [], returnType := none }, accessFlags := 1, code := some k0c0 }
/-- java/lang/Object -/
def k0 : Class := { plain "java/lang/Object" none with
  accessFlags := 33
  interfaces := #[]
  cf := some (fileOf pool0 8 #[] #[{ accessFlags := 1, nameIndex := 5, descriptorIndex := 6, attributes := #[] }] 33 0 #[] #[])
  fields := #[]
  methods := #[k0m0]
  instanceTypes := #[]
  staticTypes := #[]
  resolved := Array.replicate 124 none
  statics := none }

def pool1 : Array CpInfo := pool [(2, .class_ 4), (1, u "java/lang/Object"), (0, u "<init>"), (0, u "()V"), (0, .integer 2147483647), (0, .integer 65535), (0, .integer 32768), (0, .class_ 11), (0, u "com/example/counterpath/counterpath/core/Window"), (2, .double 9218868437227405312), (1, .methodref 10 17), (0, .nameAndType 5 18), (0, u "(DD)V"), (0, .methodref 10 20), (0, .nameAndType 21 22), (0, u "lasts"), (0, u "([D)[I"), (0, .methodref 24 25), (0, .class_ 26), (0, .nameAndType 27 28), (0, u "com/example/counterpath/counterpath/core/WindowLastsPinLaw"), (0, u "check"), (0, u "([III[IIZ)Z"), (2, u "law"), (0, u "(IIII)Z")] 7

def k1m0 : Method := { name := "<init>", desc := "()V", sig := { parameters := [], returnType := none }, accessFlags := 1, code := none }
def k1c1 : Code := { maxStack := 6, maxLocals := 15, code := code, exceptionTable := #[], attributes := #[] }
def k1m1 : Method := { name := "law", desc := "(IIII)Z", sig := { parameters := [.int, .int, .int, .int], returnType := some .boolean }, accessFlags := 9, code := some k1c1 }
def k1c2 : Code := { maxStack := 2, maxLocals := 8, code := method_3_code, exceptionTable := #[], attributes := #[] }
def k1m2 : Method := { name := "check", desc := "([III[IIZ)Z", sig := { parameters := [(.array .int), .int, .int, (.array .int), .int, .boolean], returnType := some .boolean }, accessFlags := 10, code := some k1c2 }
/-- com/example/counterpath/counterpath/core/WindowLastsPinLaw -/
def k1 : Class := { plain "com/example/counterpath/counterpath/core/WindowLastsPinLaw" (some 0) with
  accessFlags := 49
  interfaces := #[]
  cf := some (fileOf pool1 24 #[] #[{ accessFlags := 1, nameIndex := 5, descriptorIndex := 6, attributes := #[] }, { accessFlags := 9, nameIndex := 31, descriptorIndex := 32, attributes := #[] }, { accessFlags := 10, nameIndex := 27, descriptorIndex := 28, attributes := #[] }] 49 2 #[] #[])
  fields := #[]
  methods := #[k1m0, k1m1, k1m2]
  instanceTypes := #[]
  staticTypes := #[]
  resolved := Array.replicate 40 none
  statics := none }

def pool2 : Array CpInfo := pool [(1, .methodref 2 3), (0, .class_ 4), (0, .nameAndType 5 6), (0, u "java/lang/Object"), (0, u "<init>"), (0, u "()V"), (0, .fieldref 8 9), (0, .class_ 10), (0, .nameAndType 11 12), (0, u "com/example/counterpath/counterpath/core/Window"), (0, u "start"), (0, u "D"), (0, .fieldref 8 14), (0, .nameAndType 15 12), (0, u "end"), (8, .double 4472406533629990549), (4, u "([D)[I"), (2, u "lasts"), (14, u "(DD)V"), (2, u "TO_END"), (0, u "Lcom/example/counterpath/counterpath/core/Window;")] 12

def k2c0 : Code := { maxStack := 3, maxLocals := 5, code := prog_33_method_1_code, exceptionTable := #[], attributes := #[] }
def k2m0 : Method := { name := "<init>", desc := "(DD)V", sig := { parameters := [.double, .double], returnType := none }, accessFlags := 0, code := some k2c0 }
def k2c1 : Code := { maxStack := 6, maxLocals := 5, code := prog_33_method_3_code, exceptionTable := #[], attributes := #[] }
def k2m1 : Method := { name := "lasts", desc := "([D)[I", sig := { parameters := [(.array .double)], returnType := some (.array .int) }, accessFlags := 0, code := some k2c1 }
/-- com/example/counterpath/counterpath/core/Window -/
def k2 : Class := { plain "com/example/counterpath/counterpath/core/Window" (some 0) with
  accessFlags := 48
  interfaces := #[]
  cf := some (fileOf pool2 8 #[] #[{ accessFlags := 0, nameIndex := 5, descriptorIndex := 47, attributes := #[] }, { accessFlags := 0, nameIndex := 32, descriptorIndex := 29, attributes := #[] }] 48 2 #[] #[{ accessFlags := 24, nameIndex := 50, descriptorIndex := 51, attributes := #[] }, { accessFlags := 18, nameIndex := 11, descriptorIndex := 12, attributes := #[] }, { accessFlags := 18, nameIndex := 15, descriptorIndex := 12, attributes := #[] }])
  fields := #[{ name := "TO_END", type := (.object "com/example/counterpath/counterpath/core/Window"), accessFlags := 24, slot := 0, constantValue := 0 }, { name := "start", type := .double, accessFlags := 18, slot := 0, constantValue := 0 }, { name := "end", type := .double, accessFlags := 18, slot := 1, constantValue := 0 }]
  methods := #[k2m0, k2m1]
  instanceTypes := #[.double, .double]
  staticTypes := #[(.object "com/example/counterpath/counterpath/core/Window")]
  resolved := Array.replicate 64 none
  statics := none }

def pool3 : Array CpInfo := pool [(1, u "java/lang/Cloneable"), (0, .class_ 1), (0, u "java/lang/Object"), (0, .class_ 3)] 3

/-- java/lang/Cloneable -/
def k3 : Class := { plain "java/lang/Cloneable" (some 0) with
  accessFlags := 1537
  interfaces := #[]
  cf := some (fileOf pool3 2 #[] #[] 1537 4 #[] #[])
  fields := #[]
  methods := #[]
  instanceTypes := #[]
  staticTypes := #[]
  resolved := Array.replicate 8 none
  statics := none }

def pool4 : Array CpInfo := pool [(1, u "java/io/Serializable"), (0, .class_ 1), (0, u "java/lang/Object"), (0, .class_ 3)] 3

/-- java/io/Serializable -/
def k4 : Class := { plain "java/io/Serializable" (some 0) with
  accessFlags := 1537
  interfaces := #[]
  cf := some (fileOf pool4 2 #[] #[] 1537 4 #[] #[])
  fields := #[]
  methods := #[]
  instanceTypes := #[]
  staticTypes := #[]
  resolved := Array.replicate 8 none
  statics := none }

/-- the primitive byte -/
def k5 : Class := { plain "byte" none with kind := .primitive 'B', accessFlags := 0x411 }
/-- [B -/
def k6 : Class := { plain "[B" (some 0) with kind := .array 5 .byte, interfaces := #[3, 4], accessFlags := 1041 }

/-- the primitive double -/
def k7 : Class := { plain "double" none with kind := .primitive 'D', accessFlags := 0x411 }
/-- [D -/
def k8 : Class := { plain "[D" (some 0) with kind := .array 7 .double, interfaces := #[3, 4], accessFlags := 1041 }

/-- the primitive int -/
def k9 : Class := { plain "int" none with kind := .primitive 'I', accessFlags := 0x411 }
/-- [I -/
def k10 : Class := { plain "[I" (some 0) with kind := .array 9 .int, interfaces := #[3, 4], accessFlags := 1041 }

def heap : Heap := #[]
def classes : Array Class := #[k0, k1, k2, k3, k4, k5, k6, k7, k8, k9, k10]
def interned : List (Array UInt16 × Addr) := []
def slotsUsed : Nat := 0
def theMethod : MethodId := ⟨1, 1⟩
def args0 : Array Value := #[.int 4, .int 7, .int 3, .int 2]
def aboutOver (below : List Frame) : State where
  vm := { classes := classes, interned := interned.toArray }
  heap := heap
  slotsUsed := slotsUsed
  threads := #[{ frames := .invoking theMethod args0 :: below }]
def below0 : List Frame := [.native { method := ⟨0, 0⟩, args := #[] }]
def about1 : State := aboutOver below0
def p0 : Program := .bare "" "" ""
def e0 : Env := launch0.env 0 0 0
theorem w_frames : about1.frames = Frame.invoking theMethod args0 :: below0 := rfl
set_option maxRecDepth 65536 in
theorem w_args : argsFit about1.vm theMethod args0 = true := by decide +kernel
set_option maxRecDepth 65536 in
theorem w_heap : heapFits about1 = true := by decide +kernel
set_option maxRecDepth 65536 in
theorem w_runnable : about1.curStatus? = some .runnable := by decide +kernel
set_option maxRecDepth 65536 in
theorem w_alone : about1.alone = true := by decide +kernel
set_option maxRecDepth 65536 in
theorem w_named : about1.methodNamed? x = some theMethod := by decide +kernel
set_option maxRecDepth 65536 in
theorem w_hears : about1.hears theMethod below0 = true := by decide +kernel
set_option maxRecDepth 65536 in
theorem w_ripe : about1.ripe theMethod args0 below0 = true := by decide +kernel
theorem w_running : about1.status = .running := rfl
set_option maxRecDepth 65536 in
theorem w_room : about1.hasRoom e0.platform room_1 = true :=
  launch0.hasRoom_least _ room_1 (by decide +kernel) (by decide +kernel) (by decide +kernel) (by decide +kernel) (by decide +kernel) (by decide +kernel)
theorem allAtoms_all (ts : List Jvm.Cond) (a : Array Jvm.Value) (st : Jvm.State) : (allAtoms ts).before a st = ts.all (fun c => c.before a st) := by
  induction ts with
  | nil => rfl
  | cons c t ih =>
    show (Jvm.Cond.and c (allAtoms t)).before a st = _
    rw [Jvm.Cond.before_and, ih, List.all_cons]
def words1 : List Jvm.Cond := Jvm.Cond.code x code maxLocals ret :: tables_1
/-- a 'code' word, met by the world's own term for the bytes: nothing is compared byte by byte -/
theorem code_word {y : MethodName} {bytes : ByteArray} {mx : Nat} {rt : Option FieldType} {a : Array Value} {s : State} {m : MethodId} {meth : Method} {c : Code} (h1 : s.methodNamed? y = some m) (h2 : s.vm.method? m = some meth) (h3 : meth.code = some c) (h4 : c.code = bytes)
    (h5 : (c.maxLocals == mx && c.exceptionTable.isEmpty && decide (c.maxStack ≤ mostOperands) && decide (meth.sig.returnType = rt) && !meth.locks && decide (parseMethodDescriptor y.desc = some meth.sig)) = true) : (Jvm.Cond.code y bytes mx rt).before a s = true := by
  simp only [Bool.and_eq_true, beq_iff_eq, Bool.not_eq_true', decide_eq_true_eq] at h5
  obtain ⟨⟨⟨⟨⟨g1, g2⟩, g3⟩, g4⟩, g5⟩, g6⟩ := h5
  simp [Cond.before, Cond.holds, Cond.value, h1, h2, h3, h4, g1, g2, g3, g4, g5, g6]
def isCode : Jvm.Cond → Bool
  | .code _ _ _ _ => true
  | _ => false
theorem all_split {L : List Jvm.Cond} {P : Jvm.Cond → Bool} (h1 : L.all (fun c => isCode c || P c) = true) (h2 : ∀ c ∈ L.filter isCode, P c = true) : L.all P = true := by
  refine List.all_eq_true.mpr fun c hc => ?_
  have h := List.all_eq_true.mp h1 c hc
  rcases Bool.eq_false_or_eq_true (isCode c) with hi | hi
  · exact h2 c (List.mem_filter.mpr ⟨hc, hi⟩)
  · simpa [hi] using h
set_option maxRecDepth 65536 in
theorem w_c0 : (Jvm.Cond.code x code maxLocals ret).before args0 about1 = true := code_word (m := ⟨1, 1⟩) (meth := k1m1) (c := k1c1) (by decide +kernel) rfl rfl rfl (by decide +kernel)
set_option maxRecDepth 65536 in
theorem w_c1 : (Jvm.Cond.code ({ cls := "com/example/counterpath/counterpath/core/Window", name := "<init>", desc := "(DD)V" } : Jvm.MethodName) prog_33_method_1_code (5 : Nat) (Option.none : Option Jvm.ClassFile.FieldType)).before args0 about1 = true := code_word (m := ⟨2, 0⟩) (meth := k2m0) (c := k2c0) (by decide +kernel) rfl rfl rfl (by decide +kernel)
set_option maxRecDepth 65536 in
theorem w_c2 : (Jvm.Cond.code ({ cls := "java/lang/Object", name := "<init>", desc := "()V" } : Jvm.MethodName) object_method_1_code (1 : Nat) (Option.none : Option Jvm.ClassFile.FieldType)).before args0 about1 = true := code_word (m := ⟨0, 0⟩) (meth := k0m0) (c := k0c0) (by decide +kernel) rfl rfl rfl (by decide +kernel)
set_option maxRecDepth 65536 in
theorem w_c3 : (Jvm.Cond.code ({ cls := "com/example/counterpath/counterpath/core/Window", name := "lasts", desc := "([D)[I" } : Jvm.MethodName) prog_33_method_3_code (5 : Nat) (Option.some (Jvm.ClassFile.FieldType.array Jvm.ClassFile.FieldType.int))).before args0 about1 = true := code_word (m := ⟨2, 1⟩) (meth := k2m1) (c := k2c1) (by decide +kernel) rfl rfl rfl (by decide +kernel)
set_option maxRecDepth 65536 in
theorem w_c4 : (Jvm.Cond.code ({ cls := "com/example/counterpath/counterpath/core/WindowLastsPinLaw", name := "check", desc := "([III[IIZ)Z" } : Jvm.MethodName) method_3_code (8 : Nat) (Option.some Jvm.ClassFile.FieldType.boolean)).before args0 about1 = true := code_word (m := ⟨1, 2⟩) (meth := k1m2) (c := k1c2) (by decide +kernel) rfl rfl rfl (by decide +kernel)
def codes1 : List Jvm.Cond := [Jvm.Cond.code x code maxLocals ret, Jvm.Cond.code ({ cls := "com/example/counterpath/counterpath/core/Window", name := "<init>", desc := "(DD)V" } : Jvm.MethodName) prog_33_method_1_code (5 : Nat) (Option.none : Option Jvm.ClassFile.FieldType), Jvm.Cond.code ({ cls := "java/lang/Object", name := "<init>", desc := "()V" } : Jvm.MethodName) object_method_1_code (1 : Nat) (Option.none : Option Jvm.ClassFile.FieldType), Jvm.Cond.code ({ cls := "com/example/counterpath/counterpath/core/Window", name := "lasts", desc := "([D)[I" } : Jvm.MethodName) prog_33_method_3_code (5 : Nat) (Option.some (Jvm.ClassFile.FieldType.array Jvm.ClassFile.FieldType.int)), Jvm.Cond.code ({ cls := "com/example/counterpath/counterpath/core/WindowLastsPinLaw", name := "check", desc := "([III[IIZ)Z" } : Jvm.MethodName) method_3_code (8 : Nat) (Option.some Jvm.ClassFile.FieldType.boolean)]
set_option maxRecDepth 65536 in
theorem codes_eq : words1.filter isCode = codes1 := rfl
theorem w_codes : ∀ c ∈ words1.filter isCode, c.before args0 about1 = true := by
  rw [codes_eq]
  intro c hc
  simp only [codes1, List.mem_cons, List.not_mem_nil, or_false] at hc
  rcases hc with rfl | rfl | rfl | rfl | rfl
  · exact w_c0
  · exact w_c1
  · exact w_c2
  · exact w_c3
  · exact w_c4
set_option maxRecDepth 65536 in
theorem w_t1 : (words1.take 24).all (fun c => isCode c || c.before args0 about1) = true := by decide +kernel
set_option maxRecDepth 65536 in
theorem w_t2 : (words1.drop 24).all (fun c => isCode c || c.before args0 about1) = true := by decide +kernel
theorem w_tables : (allAtoms (Jvm.Cond.code x code maxLocals ret :: tables_1)).before args0 about1 = true := by
  rw [allAtoms_all]
  show words1.all (fun c => c.before args0 about1) = true
  refine all_split ?_ w_codes
  rw [← List.take_append_drop 24 words1, List.all_append, w_t1, w_t2]
  rfl
set_option maxRecDepth 65536 in
theorem w_case : (Jvm.Cond.and given_1 narrow_1).before args0 about1 = true := by decide +kernel
theorem w_applies : (headSpec (Jvm.Cond.code x code maxLocals ret :: tables_1) room_1).applies x e0.platform about1 = true :=
  (Spec.applies_iff w_frames).mpr ⟨w_running, w_runnable, w_alone, w_named, w_hears, w_ripe, w_room, w_tables⟩
theorem atStart : AtStart classFile x code maxLocals ret World_1 tables_1 room_1 Calls_1 rest_1 Pre_1 launch0 p0 e0 about1 theMethod args0 below0 :=
  ⟨lists_1, trivial, launch0.admits_env _ _ _, launch0.least_env, fairChoices_fair.cas, fairChoices_fair.clock, w_frames, w_args, w_heap, w_applies, trivial, trivial, w_case⟩
end start1
theorem witness_1 : WitnessClaimed_1 := ⟨start1.p0, start1.e0, start1.about1, start1.theMethod, start1.args0, start1.below0, start1.atStart⟩
end Jvm.Pilot.@@N@@
