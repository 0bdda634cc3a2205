import JvmDerived
import JvmDerived.Pilot.@@N@@Statement
import JvmDerived.Pilot.@@N@@Code
set_option linter.unusedVariables false
set_option linter.unusedSimpArgs false
namespace Jvm.RoadKit
open Sem ClassFile Op Lib Jvm.Stand Jvm.Free Jvm.LawKit
section New
variable {p : Program} {l : Launch} {e : Env} {R : Room} {s : State} {m : MethodId} {args : Array Value} {below : List Frame} {meth : Method} {c : Code} {T : State} {locs : List Loc} {cells slots : Nat}
theorem retI (X : Stand p l e R s m args below meth c T locs cells slots) (hx : p.tables.exec = Jvm.exec) {pc : Nat} {Ls : Array Slot} {z : Int32} {rest : List Value} (hret : meth.sig.returnType = some .int) (hd : decode c.code pc = .ok (.ireturn, 1)) {fs : List Frame}
    (hl : ∀ (f : JFrame) (acts : List Action), f.method = m → f.locked = none → f.entered = [] → (doReturn e (T.setTop f) acts (some (.int z))).1 = T.setFrames fs) : Steps p.tables e below (T.setTop (mkF m pc Ls (.int z :: rest))) (T.setFrames fs) :=
  retOut X hx hret rfl (Or.inl ⟨rfl, Or.inl rfl, z, rfl⟩) hd hl
end New
end Jvm.RoadKit
namespace Jvm.Pilot.@@N@@
open Jvm Jvm.ClassFile Sem Op Lib Jvm.Free Jvm.Stand Jvm.LawKit Jvm.RoadKit Bundle Jvm.Pilot.@@N@@.Jvm.D
theorem own_dloadN {tb : Tables} [Ours tb] {e : Env} {below : List Frame} {T target : State} {m : MethodId} {c : Code} {g : JFrame} (h : At T m c below) (hx : tb.exec = Jvm.exec) (hg : g.method = m) {k : Fin 4} {v : UInt64} (hd : decode c.code g.pc = .ok (.dload_n k, 1)) (hl : g.locals[k.val]? = some (.val (.double v)))
    (hr : Steps tb e below (T.setTop { g with pc := g.pc + 1, stack := .double v :: g.stack }) target) : Steps tb e below (T.setTop g) target := by
  subst hg
  jvm_step h [h.top, hx, hd, hl]
  exact hr
theorem own_dload {tb : Tables} [Ours tb] {e : Env} {below : List Frame} {T target : State} {m : MethodId} {c : Code} {g : JFrame} (h : At T m c below) (hx : tb.exec = Jvm.exec) (hg : g.method = m) {k : Nat} {v : UInt64} (hd : decode c.code g.pc = .ok (.dload k, 2)) (hl : g.locals[k]? = some (.val (.double v)))
    (hr : Steps tb e below (T.setTop { g with pc := g.pc + 2, stack := .double v :: g.stack }) target) : Steps tb e below (T.setTop g) target := by
  subst hg
  jvm_step h [h.top, hx, hd, hl]
  exact hr
theorem own_dstoreN {tb : Tables} [Ours tb] {e : Env} {below : List Frame} {T target : State} {m : MethodId} {c : Code} {g : JFrame} (h : At T m c below) (hx : tb.exec = Jvm.exec) (hg : g.method = m) {k : Fin 4} {x : UInt64} {rest : List Value} {l' : Array Slot} (hd : decode c.code g.pc = .ok (.dstore_n k, 1)) (hs : g.stack = .double x :: rest) (hl : storeLocals g.locals k.val (.double x) = some l')
    (hr : Steps tb e below (T.setTop { g with pc := g.pc + 1, stack := rest, locals := l' }) target) : Steps tb e below (T.setTop g) target := by
  subst hg
  jvm_step h [h.top, hx, hd, hs, hl]
  exact hr
theorem own_dstore {tb : Tables} [Ours tb] {e : Env} {below : List Frame} {T target : State} {m : MethodId} {c : Code} {g : JFrame} (h : At T m c below) (hx : tb.exec = Jvm.exec) (hg : g.method = m) {k : Nat} {x : UInt64} {rest : List Value} {l' : Array Slot} (hd : decode c.code g.pc = .ok (.dstore k, 2)) (hs : g.stack = .double x :: rest) (hl : storeLocals g.locals k (.double x) = some l')
    (hr : Steps tb e below (T.setTop { g with pc := g.pc + 2, stack := rest, locals := l' }) target) : Steps tb e below (T.setTop g) target := by
  subst hg
  jvm_step h [h.top, hx, hd, hs, hl]
  exact hr
theorem own_dconst0 {tb : Tables} [Ours tb] {e : Env} {below : List Frame} {T target : State} {m : MethodId} {c : Code} {g : JFrame} (h : At T m c below) (hx : tb.exec = Jvm.exec) (hg : g.method = m) (hd : decode c.code g.pc = .ok (.dconst 0, 1))
    (hr : Steps tb e below (T.setTop { g with pc := g.pc + 1, stack := .double FP.dconst0 :: g.stack }) target) : Steps tb e below (T.setTop g) target := by
  subst hg
  jvm_step h [h.top, hx, hd]
  exact hr
theorem own_dconst1 {tb : Tables} [Ours tb] {e : Env} {below : List Frame} {T target : State} {m : MethodId} {c : Code} {g : JFrame} (h : At T m c below) (hx : tb.exec = Jvm.exec) (hg : g.method = m) (hd : decode c.code g.pc = .ok (.dconst 1, 1))
    (hr : Steps tb e below (T.setTop { g with pc := g.pc + 1, stack := .double FP.dconst1 :: g.stack }) target) : Steps tb e below (T.setTop g) target := by
  subst hg
  jvm_step h [h.top, hx, hd]
  exact hr
theorem own_i2d {tb : Tables} [Ours tb] {e : Env} {below : List Frame} {T target : State} {m : MethodId} {c : Code} {g : JFrame} (h : At T m c below) (hx : tb.exec = Jvm.exec) (hg : g.method = m) {x : Int32} {rest : List Value} (hd : decode c.code g.pc = .ok (.i2d, 1)) (hs : g.stack = .int x :: rest)
    (hr : Steps tb e below (T.setTop { g with pc := g.pc + 1, stack := .double (FP.i2d x) :: rest }) target) : Steps tb e below (T.setTop g) target := by
  subst hg
  jvm_step h [h.top, hx, hd, hs]
  exact hr
theorem own_l2d {tb : Tables} [Ours tb] {e : Env} {below : List Frame} {T target : State} {m : MethodId} {c : Code} {g : JFrame} (h : At T m c below) (hx : tb.exec = Jvm.exec) (hg : g.method = m) {x : Int64} {rest : List Value} (hd : decode c.code g.pc = .ok (.l2d, 1)) (hs : g.stack = .long x :: rest)
    (hr : Steps tb e below (T.setTop { g with pc := g.pc + 1, stack := .double (FP.l2d x) :: rest }) target) : Steps tb e below (T.setTop g) target := by
  subst hg
  jvm_step h [h.top, hx, hd, hs]
  exact hr
theorem own_d2l {tb : Tables} [Ours tb] {e : Env} {below : List Frame} {T target : State} {m : MethodId} {c : Code} {g : JFrame} (h : At T m c below) (hx : tb.exec = Jvm.exec) (hg : g.method = m) {x : UInt64} {rest : List Value} (hd : decode c.code g.pc = .ok (.d2l, 1)) (hs : g.stack = .double x :: rest)
    (hr : Steps tb e below (T.setTop { g with pc := g.pc + 1, stack := .long (FP.d2l x) :: rest }) target) : Steps tb e below (T.setTop g) target := by
  subst hg
  jvm_step h [h.top, hx, hd, hs]
  exact hr
theorem own_d2i {tb : Tables} [Ours tb] {e : Env} {below : List Frame} {T target : State} {m : MethodId} {c : Code} {g : JFrame} (h : At T m c below) (hx : tb.exec = Jvm.exec) (hg : g.method = m) {x : UInt64} {rest : List Value} (hd : decode c.code g.pc = .ok (.d2i, 1)) (hs : g.stack = .double x :: rest)
    (hr : Steps tb e below (T.setTop { g with pc := g.pc + 1, stack := .int (FP.d2i x) :: rest }) target) : Steps tb e below (T.setTop g) target := by
  subst hg
  jvm_step h [h.top, hx, hd, hs]
  exact hr
theorem own_dneg {tb : Tables} [Ours tb] {e : Env} {below : List Frame} {T target : State} {m : MethodId} {c : Code} {g : JFrame} (h : At T m c below) (hx : tb.exec = Jvm.exec) (hg : g.method = m) {x : UInt64} {rest : List Value} (hd : decode c.code g.pc = .ok (.dneg, 1)) (hs : g.stack = .double x :: rest)
    (hr : Steps tb e below (T.setTop { g with pc := g.pc + 1, stack := .double (FP.dneg x) :: rest }) target) : Steps tb e below (T.setTop g) target := by
  subst hg
  jvm_step h [h.top, hx, hd, hs]
  exact hr
theorem own_dcmp {tb : Tables} [Ours tb] {e : Env} {below : List Frame} {T target : State} {m : MethodId} {c : Code} {g : JFrame} (h : At T m c below) (hx : tb.exec = Jvm.exec) (hg : g.method = m) {op : CmpOp} {x y : UInt64} {rest : List Value} (hd : decode c.code g.pc = .ok (.dcmp op, 1)) (hs : g.stack = .double y :: .double x :: rest)
    (hr : Steps tb e below (T.setTop { g with pc := g.pc + 1, stack := .int (cmpValue (FP.dcmp x y) op) :: rest }) target) : Steps tb e below (T.setTop g) target := by
  subst hg
  jvm_step h [h.top, hx, hd, hs]
  exact hr
theorem own_dadd {tb : Tables} [Ours tb] {e : Env} {below : List Frame} {T target : State} {m : MethodId} {c : Code} {g : JFrame} (h : At T m c below) (hx : tb.exec = Jvm.exec) (hg : g.method = m) {x y : UInt64} {rest : List Value} (hd : decode c.code g.pc = .ok (.dadd, 1)) (hs : g.stack = .double y :: .double x :: rest) (hn : Jvm.Free.Fl.NoNaN64 (FP.dadd x y))
    (hr : Steps tb e below (T.setTop { g with pc := g.pc + 1, stack := .double (FP.dadd x y) :: rest }) target) : Steps tb e below (T.setTop g) target := by
  obtain ⟨gm, gpc, gl, gs, glk, gen, gmr⟩ := g
  subst hg
  dsimp only at hs
  subst hs
  jvm_step h [hx, hd, Op.dadd.at_number h.top hn]
  exact hr
theorem own_dsub {tb : Tables} [Ours tb] {e : Env} {below : List Frame} {T target : State} {m : MethodId} {c : Code} {g : JFrame} (h : At T m c below) (hx : tb.exec = Jvm.exec) (hg : g.method = m) {x y : UInt64} {rest : List Value} (hd : decode c.code g.pc = .ok (.dsub, 1)) (hs : g.stack = .double y :: .double x :: rest) (hn : Jvm.Free.Fl.NoNaN64 (FP.dsub x y))
    (hr : Steps tb e below (T.setTop { g with pc := g.pc + 1, stack := .double (FP.dsub x y) :: rest }) target) : Steps tb e below (T.setTop g) target := by
  obtain ⟨gm, gpc, gl, gs, glk, gen, gmr⟩ := g
  subst hg
  dsimp only at hs
  subst hs
  jvm_step h [hx, hd, Op.dsub.at_number h.top hn]
  exact hr
theorem own_dmul {tb : Tables} [Ours tb] {e : Env} {below : List Frame} {T target : State} {m : MethodId} {c : Code} {g : JFrame} (h : At T m c below) (hx : tb.exec = Jvm.exec) (hg : g.method = m) {x y : UInt64} {rest : List Value} (hd : decode c.code g.pc = .ok (.dmul, 1)) (hs : g.stack = .double y :: .double x :: rest) (hn : Jvm.Free.Fl.NoNaN64 (FP.dmul x y))
    (hr : Steps tb e below (T.setTop { g with pc := g.pc + 1, stack := .double (FP.dmul x y) :: rest }) target) : Steps tb e below (T.setTop g) target := by
  obtain ⟨gm, gpc, gl, gs, glk, gen, gmr⟩ := g
  subst hg
  dsimp only at hs
  subst hs
  jvm_step h [hx, hd, Op.dmul.at_number h.top hn]
  exact hr
theorem own_ddiv {tb : Tables} [Ours tb] {e : Env} {below : List Frame} {T target : State} {m : MethodId} {c : Code} {g : JFrame} (h : At T m c below) (hx : tb.exec = Jvm.exec) (hg : g.method = m) {x y : UInt64} {rest : List Value} (hd : decode c.code g.pc = .ok (.ddiv, 1)) (hs : g.stack = .double y :: .double x :: rest) (hn : Jvm.Free.Fl.NoNaN64 (FP.ddiv x y))
    (hr : Steps tb e below (T.setTop { g with pc := g.pc + 1, stack := .double (FP.ddiv x y) :: rest }) target) : Steps tb e below (T.setTop g) target := by
  obtain ⟨gm, gpc, gl, gs, glk, gen, gmr⟩ := g
  subst hg
  dsimp only at hs
  subst hs
  jvm_step h [hx, hd, Op.ddiv.at_number h.top hn]
  exact hr
theorem own_dup2D {tb : Tables} [Ours tb] {e : Env} {below : List Frame} {T target : State} {m : MethodId} {c : Code} {g : JFrame} (h : At T m c below) (hx : tb.exec = Jvm.exec) (hg : g.method = m) {x : UInt64} {rest : List Value} (hd : decode c.code g.pc = .ok (.dup2, 1)) (hs : g.stack = .double x :: rest)
    (hr : Steps tb e below (T.setTop { g with pc := g.pc + 1, stack := .double x :: .double x :: rest }) target) : Steps tb e below (T.setTop g) target := by
  subst hg
  jvm_step h [h.top, hx, hd, hs, Value.category]
  exact hr
theorem own_retD {p : Program} {l : Launch} {e : Env} {R : Room} {s : State} {m : MethodId} {args : Array Value} {below : List Frame} {meth : Method} {c : Code} {T : State} {locs : List Loc} {cells slots : Nat} (Y : Stand p l e R s m args below meth c T locs cells slots) (hexec : p.tables.exec = Jvm.exec) {pc : Nat} {Ls : Array Slot} {w : UInt64} {rest : List Value} (hret : meth.sig.returnType = some .double)
    (hdg : decode c.code pc = .ok (.dreturn, 1)) {fs : List Frame} (hleave : ∀ (f : JFrame) (acts : List Action), f.method = m → f.locked = none → f.entered = [] → (doReturn e (T.setTop f) acts (some (.double w))).1 = T.setFrames fs) :
    Steps p.tables e below (T.setTop (mkF m pc Ls (.double w :: rest))) (T.setFrames fs) :=
  retOut Y hexec hret rfl (Or.inr (Or.inr (Or.inl ⟨rfl, rfl, w, rfl⟩))) hdg hleave
theorem own_stD {p : Program} {l : Launch} {e : Env} {R : Room} {s : State} {m : MethodId} {args : Array Value} {below : List Frame} {meth : Method} {c : Code} {T : State} {locs : List Loc} {cells slots : Nat} {Z : State} {h : Heap}
    (X : Stand p l e R s m args below meth c T locs cells slots) (hx : p.tables.exec = Jvm.exec) (hZ : Z.Warmed39 s.vm) (eT : T.heap = h) {a : Addr} {cl : Cell} (A : Arr Z h a cl .double) {j : Int32} {x : UInt64} (hj : ¬ (j < 0 ∨ cl.slots.size ≤ j.toNatClampNeg)) {g : JFrame} (hg : g.method = m) {rest : List Value} (hs : g.stack = .double x :: .int j :: .ref a :: rest) (hd : decode c.code g.pc = .ok (.dastore, 1)) :
    ∃ T' h', Stand p l e R s m args below meth c T' (locs ++ [⟨a, j.toNatClampNeg⟩]) cells slots ∧ T'.heap = h' ∧ Wr h h' a j.toNatClampNeg (.double x) ∧ ∀ target, Steps p.tables e below (T'.setTop { g with pc := g.pc + 1, stack := rest }) target → Steps p.tables e below (T.setTop g) target := by
  obtain ⟨X', st⟩ := X.dastore hx (by rw [eT]; exact A.1) (State.isArrayOf_alike hZ.alike A.2.1) A.2.2 hj hg hs hd
  exact ⟨_, _, X', rfl, ⟨cl, A.1, A.plain, Nat.lt_of_not_le fun q => hj (Or.inr q), by rw [← eT]; rfl⟩, st⟩
section OwnCalls
variable {p : Program} {l : Launch} {e : Env} {R : Room} {s : State} {m : MethodId} {args : Array Value} {below : List Frame} {meth : Method} {c : Code} {T : State} {locs : List Loc} {cells slots : Nat} {Z : State} {a0 : Array Value} {h : Heap}
theorem own_virt (X : Stand p l e R s m args below meth c T locs cells slots) (hx : p.tables.exec = Jvm.exec) (hZ : Z.Warmed39 s.vm) {own C : String} {index : Nat} {y : MethodName} (hown : s.vm.findClass own = some m.cls)
    (w1 : (Jvm.Cond.methodLink own index y).before a0 Z = true) (w2 : (Jvm.Cond.declares y).before a0 Z = true) (w3 : (Jvm.Cond.selects C y y).before a0 Z = true) (w4 : (Jvm.Cond.instanceMethod y).before a0 Z = true)
    (hy : y.cls ≠ "java/lang/invoke/MethodHandle" ∧ y.cls ≠ "java/lang/invoke/VarHandle") {bytes : ByteArray} {maxL : Nat} {ret : Option FieldType} {rm : Room} {as' : Array Value} {Q : Option Value → Heap → List Loc → Prop}
    (hM : MetFree l y (head1 [Jvm.Cond.code y bytes maxL ret] rm) (fun α U => α = as' ∧ Z.Warmed39 U.vm ∧ U.heap = h) (fun _ _ _ _ _ => True) (fun _ U o U' => ∃ v L, o = .returned v ∧ Q v U'.heap L ∧ FrameEnd U o U' L rm.cells rm.slots))
    (wc : (Jvm.Cond.code y bytes maxL ret).before a0 Z = true) (wz : (Jvm.Cond.initialized y.cls).before a0 Z = true) (W : Nat) (hf : rm.frames + 1 ≤ R.frames) (hl : W + (maxL + 11) + rm.locals ≤ R.locals)
    {b : Addr} (E : Exa Z h b C) (eT : T.heap = h) (g : JFrame) (hg : g.method = m) (hsize : g.locals.size = c.maxLocals) (argsL rest : List Value) (has : (.ref b :: argsL).toArray = as')
    (hlen : ∀ sig, parseMethodDescriptor y.desc = some sig → argsL.length = sig.parameters.length) (hstack : g.stack = argsL.reverse ++ .ref b :: rest) (hW : 2 * g.monitorRoom + (rest.map fun v => v.category).sum ≤ W)
    (hdg : decode c.code g.pc = .ok (.invokevirtual index, 3)) (hc : cells + rm.cells ≤ R.cells) (hs : slots + rm.slots ≤ R.slots) :
    ∃ (v : Option Value) (T' : State) (L : List Loc), Stand p l e R s m args below meth c T' (locs ++ L) (cells + rm.cells) (slots + rm.slots) ∧ Q v T'.heap L ∧
      ∀ τ, Steps p.tables e below (T'.setTop { g with pc := g.pc + 3, stack := v.toList ++ rest }) τ → Steps p.tables e below (T.setTop g) τ := by
  obtain ⟨cq, kq, qa, qb, qc⟩ := isOf hZ eT E
  obtain ⟨v, _, ⟨T1, L1, k1, n1⟩, -, X1, ⟨Lc, hQ, l1, y1, z1⟩, st⟩ := X.virtualBack hx (y := y) (z := y) hown (mvT hZ w1) (mvT hZ w2) (notFace_of_selects (args := #[]) (mvT hZ w3)) (mvT hZ w3) (mvT hZ w4) hy (backOf (W := W) hM hZ wc wz hf hl) qa qc (g := g) hg hsize (Steps.refl _) (argsL := argsL) (rest := rest) hlen hstack hW hdg (fun _ _ => ⟨has, eT, hc, hs⟩)
  dsimp only [Pt.U, Pt.locs, Pt.cells, Pt.slots] at X1 l1 y1 z1 st hQ
  subst l1 y1 z1
  exact ⟨v, T1, Lc, X1, hQ, fun τ kt => st.trans kt⟩
theorem own_spec (X : Stand p l e R s m args below meth c T locs cells slots) (hx : p.tables.exec = Jvm.exec) (hZ : Z.Warmed39 s.vm) {own : String} {index : Nat} {y : MethodName} (hy1 : y.name = "<init>") (hown : s.vm.findClass own = some m.cls)
    (w1 : (Jvm.Cond.methodLink own index y).before a0 Z = true) (w4 : (Jvm.Cond.instanceMethod y).before a0 Z = true)
    (hy : y.cls ≠ "java/lang/invoke/MethodHandle" ∧ y.cls ≠ "java/lang/invoke/VarHandle") {bytes : ByteArray} {maxL : Nat} {rm : Room} {as' : Array Value} {Q : Option Value → Heap → List Loc → Prop}
    (hM : MetFree l y (head1 [Jvm.Cond.code y bytes maxL none] rm) (fun α U => α = as' ∧ Z.Warmed39 U.vm ∧ U.heap = h) (fun _ _ _ _ _ => True) (fun _ U o U' => ∃ v L, o = .returned v ∧ Q v U'.heap L ∧ FrameEnd U o U' L rm.cells rm.slots))
    (wc : (Jvm.Cond.code y bytes maxL none).before a0 Z = true) (wz : (Jvm.Cond.initialized y.cls).before a0 Z = true) (W : Nat) (hf : rm.frames + 1 ≤ R.frames) (hl : W + (maxL + 11) + rm.locals ≤ R.locals)
    {b : Addr} (eT : T.heap = h) (g : JFrame) (hg : g.method = m) (hsize : g.locals.size = c.maxLocals) (argsL rest : List Value) (has : (.ref b :: argsL).toArray = as')
    (hlen : ∀ sig, parseMethodDescriptor y.desc = some sig → argsL.length = sig.parameters.length) (hstack : g.stack = argsL.reverse ++ .ref b :: rest) (hW : 2 * g.monitorRoom + (rest.map fun v => v.category).sum ≤ W)
    (hdg : decode c.code g.pc = .ok (.invokespecial index, 3)) (hc : cells + rm.cells ≤ R.cells) (hs : slots + rm.slots ≤ R.slots) :
    ∃ (v : Option Value) (T' : State) (L : List Loc), Stand p l e R s m args below meth c T' (locs ++ L) (cells + rm.cells) (slots + rm.slots) ∧ Q v T'.heap L ∧
      ∀ τ, Steps p.tables e below (T'.setTop { g with pc := g.pc + 3, stack := v.toList ++ rest }) τ → Steps p.tables e below (T.setTop g) τ := by
  obtain ⟨v, _, ⟨T1, L1, k1, n1⟩, -, X1, ⟨Lc, hQ, l1, y1, z1⟩, st⟩ := X.specialBack hx (y := y) hy1 hown (mvT hZ w1) (mvT hZ w4) (mvT hZ wc) hy (backOf (W := W) hM hZ wc wz hf hl) (g := g) hg hsize (Steps.refl _) (a := b) (argsL := argsL) (rest := rest) hlen hstack hW hdg (fun _ _ => ⟨has, eT, hc, hs⟩)
  dsimp only [Pt.U, Pt.locs, Pt.cells, Pt.slots] at X1 l1 y1 z1 st hQ
  subst l1 y1 z1
  exact ⟨v, T1, Lc, X1, hQ, fun τ kt => st.trans kt⟩
theorem own_stat (X : Stand p l e R s m args below meth c T locs cells slots) (hx : p.tables.exec = Jvm.exec) (hZ : Z.Warmed39 s.vm) {own : String} {index : Nat} {y : MethodName} (hown : s.vm.findClass own = some m.cls)
    (w1 : (Jvm.Cond.methodLink own index y).before a0 Z = true) (w2 : (Jvm.Cond.static y).before a0 Z = true)
    (hy : y.cls ≠ "java/lang/invoke/MethodHandle" ∧ y.cls ≠ "java/lang/invoke/VarHandle") {bytes : ByteArray} {maxL : Nat} {ret : Option FieldType} {rm : Room} {as' : Array Value} {Q : Option Value → Heap → List Loc → Prop}
    (hM : MetFree l y (head1 [Jvm.Cond.code y bytes maxL ret] rm) (fun α U => α = as' ∧ Z.Warmed39 U.vm ∧ U.heap = h) (fun _ _ _ _ _ => True) (fun _ U o U' => ∃ v L, o = .returned v ∧ Q v U'.heap L ∧ FrameEnd U o U' L rm.cells rm.slots))
    (wc : (Jvm.Cond.code y bytes maxL ret).before a0 Z = true) (wz : (Jvm.Cond.initialized y.cls).before a0 Z = true) (W : Nat) (hf : rm.frames + 1 ≤ R.frames) (hl : W + (maxL + 11) + rm.locals ≤ R.locals)
    (eT : T.heap = h) (g : JFrame) (hg : g.method = m) (hsize : g.locals.size = c.maxLocals) (argsL rest : List Value) (has : argsL.toArray = as')
    (hlen : ∀ sig, parseMethodDescriptor y.desc = some sig → argsL.length = sig.parameters.length) (hstack : g.stack = argsL.reverse ++ rest) (hW : 2 * g.monitorRoom + (rest.map fun v => v.category).sum ≤ W)
    (hdg : decode c.code g.pc = .ok (.invokestatic index, 3)) (hc : cells + rm.cells ≤ R.cells) (hs : slots + rm.slots ≤ R.slots) :
    ∃ (v : Option Value) (T' : State) (L : List Loc), Stand p l e R s m args below meth c T' (locs ++ L) (cells + rm.cells) (slots + rm.slots) ∧ Q v T'.heap L ∧
      ∀ τ, Steps p.tables e below (T'.setTop { g with pc := g.pc + 3, stack := v.toList ++ rest }) τ → Steps p.tables e below (T.setTop g) τ := by
  obtain ⟨v, _, ⟨T1, L1, k1, n1⟩, -, X1, ⟨Lc, hQ, l1, y1, z1⟩, st⟩ := Jvm.LawKit.callS X hx (y := y) hown (mvT hZ w1) (mvT hZ w2) (mvT hZ wz) (mvT hZ wc) hy (backOf (W := W) hM hZ wc wz hf hl) (g := g) hg hsize (argsL := argsL) (rest := rest) hlen hstack hW hdg (fun _ _ => ⟨has, eT, hc, hs⟩)
  dsimp only [Pt.U, Pt.locs, Pt.cells, Pt.slots] at X1 l1 y1 z1 st hQ
  subst l1 y1 z1
  exact ⟨v, T1, Lc, X1, hQ, st⟩
end OwnCalls
section OwnDy
open Jvm.FP Jvm.FP.Core
/-- the datum's exponent moved by j -/
def own_sh (j : Int) : Datum → Datum
  | .fin s c q => .fin s c (q + j)
  | d => d
/-- the datum is n * 2^k -/
def own_Dy (n k : Int) (d : Datum) : Prop := Whole n (own_sh (-k) d)
theorem own_dy0 {n : Int} {d : Datum} : own_Dy n 0 d ↔ Whole n d := by
  cases d with
  | nan => exact Iff.rfl
  | inf => exact Iff.rfl
  | fin s c q =>
    show Whole n (.fin s c (q + -0)) ↔ _
    rw [show q + -0 = q by omega]
theorem own_sh_sum (j : Int) (x y : Datum) : exactSum (own_sh j x) (own_sh j y) = own_sh j (exactSum x y) := by
  cases x <;> cases y <;> try rfl
  · simp only [own_sh, exactSum]; split <;> rfl
  · rename_i s c q t d r
    have hm : min (q + j) (r + j) = min q r + j := by omega
    have hu : sumUnits s c (q + j) t d (r + j) (min q r + j) = sumUnits s c q t d r (min q r) := by
      unfold sumUnits inUnits
      rw [show q + j - (min q r + j) = q - min q r by omega, show r + j - (min q r + j) = r - min q r by omega]
    simp only [own_sh, exactSum, hm, hu]
theorem own_sh_prod (i j : Int) (x y : Datum) : exactProduct (own_sh i x) (own_sh j y) = own_sh (i + j) (exactProduct x y) := by
  cases x <;> cases y <;> try rfl
  · simp only [own_sh, exactProduct]; split <;> rfl
  · simp only [own_sh, exactProduct]; split <;> rfl
  · simp only [own_sh, exactProduct, Datum.fin.injEq, true_and]; omega
theorem own_sh_order (j : Int) (x y : Datum) : order (own_sh j x) (own_sh j y) = order x y := by
  cases x <;> cases y <;> try rfl
  rename_i s c q t d r
  simp only [own_sh, order]
  unfold inUnits
  rw [show q + j - min (q + j) (r + j) = q - min q r by omega, show r + j - min (q + j) (r + j) = r - min q r by omega]
theorem own_sh_neg (j : Int) (x : Datum) : negate (own_sh j x) = own_sh j (negate x) := by cases x <;> rfl
theorem own_dy_sum {n m k : Int} {x y : Datum} (hx : own_Dy n k x) (hy : own_Dy m k y) : own_Dy (n + m) k (exactSum x y) := by
  unfold own_Dy; rw [← own_sh_sum]; exact whole_sum hx hy
theorem own_dy_neg {n k : Int} {x : Datum} (hx : own_Dy n k x) : own_Dy (-n) k (negate x) := by
  unfold own_Dy; rw [← own_sh_neg]; exact whole_negate hx
theorem own_dy_prod {n m k l : Int} {x y : Datum} (hx : own_Dy n k x) (hy : own_Dy m l y) : own_Dy (n * m) (k + l) (exactProduct x y) := by
  unfold own_Dy; rw [show -(k + l) = -k + -l by omega, ← own_sh_prod]; exact whole_product hx hy
theorem own_dy_order {n m k : Int} {x y : Datum} (hx : own_Dy n k x) (hy : own_Dy m k y) : order x y = some (compare n m) := by
  rw [← own_sh_order (-k)]; exact order_whole hx hy
theorem own_dy_fin {n k : Int} {x : Datum} (h : own_Dy n k x) : ∃ s c q, x = .fin s c q := by
  cases x with
  | nan => exact h.elim
  | inf => exact h.elim
  | fin s c q => exact ⟨s, c, q, rfl⟩
theorem own_dy_abs {n k q : Int} {s : Bool} {c : Nat} (h : own_Dy n k (.fin s c q)) : c * 2 ^ (q - k).toNat = n.natAbs * 2 ^ (k - q).toNat := by
  have := whole_natAbs (q := q + -k) h
  rw [show q + -k = q - k by omega, show -(q - k) = k - q by omega] at this
  exact this
theorem own_dy_sign {n k q : Int} {s : Bool} {c : Nat} (h : own_Dy n k (.fin s c q)) (hn : n ≠ 0) : s = decide (n < 0) := whole_sign (q := q + -k) h hn
theorem own_dy_mk {n k q : Int} {s : Bool} {c : Nat} (h : c * 2 ^ (q - k).toNat = n.natAbs * 2 ^ (k - q).toNat) (hs : n ≠ 0 → s = decide (n < 0)) : own_Dy n k (.fin s c q) := by
  show signed s (c * 2 ^ (q + -k).toNat) = n * ((2 ^ (-(q + -k)).toNat : Nat) : Int)
  rw [show q + -k = q - k by omega, show -(q - k) = k - q by omega, h]
  by_cases h0 : n = 0
  · subst h0; simp [signed]
  · rw [hs h0, signed_mul]
    congr 1
    unfold signed
    by_cases h : n < 0 <;> simp [h] <;> omega
/-- the same number in smaller units -/
theorem own_dy_scale {n k : Int} {x : Datum} (h : own_Dy n k x) (j : Nat) : own_Dy (n * ((2 ^ j : Nat) : Int)) (k - j) x := by
  obtain ⟨s, c, q, rfl⟩ := own_dy_fin h
  have p : 0 < 2 ^ j := Nat.two_pow_pos j
  refine own_dy_mk ?_ fun hn => ?_
  · have ha := own_dy_abs h
    rw [Int.natAbs_mul, Int.natAbs_natCast]
    have e1 : (q - (k - (j : Int))).toNat + (k - q).toNat = (q - k).toNat + j + (k - (j : Int) - q).toNat := by omega
    refine Nat.eq_of_mul_eq_mul_right (Nat.two_pow_pos (k - q).toNat) ?_
    calc c * 2 ^ (q - (k - (j : Int))).toNat * 2 ^ (k - q).toNat = c * 2 ^ ((q - (k - (j : Int))).toNat + (k - q).toNat) := by rw [Nat.pow_add, Nat.mul_assoc]
      _ = (c * 2 ^ (q - k).toNat) * 2 ^ j * 2 ^ (k - (j : Int) - q).toNat := by rw [e1, Nat.pow_add, Nat.pow_add]; simp only [Nat.mul_assoc]
      _ = n.natAbs * 2 ^ j * 2 ^ (k - (j : Int) - q).toNat * 2 ^ (k - q).toNat := by rw [ha]; ac_rfl
  · have p' : (0 : Int) < ((2 ^ j : Nat) : Int) := by omega
    have h0 : n ≠ 0 := fun h => hn (by rw [h, Int.zero_mul])
    rw [own_dy_sign h h0, decide_eq_decide]
    constructor
    · intro hl; exact Int.mul_neg_of_neg_of_pos hl p'
    · intro hl; exact Int.lt_of_not_ge fun hg => by have := Int.mul_nonneg hg (Int.le_of_lt p'); omega
/-- whole multiples of 2^k of at most 53 digits are doubles -/
theorem own_fit {n : Nat} {k : Int} (s : Bool) (hn : n ≤ 2 ^ 53) (h1 : -1074 ≤ k) (h2 : k ≤ 971) (h3 : n = 2 ^ 53 → k ≤ 970) : ∃ c q, Core.fits b64 (.fin s c q) ∧ n * 2 ^ (k - q).toNat = c * 1 * 2 ^ (q - k).toNat := by
  have ht : b64.tails = 2 ^ 52 := by decide
  have hp : b64.p = 53 := rfl
  have hm : b64.qmin = -1074 := by decide
  have hM : b64.qmax = 971 := by decide
  by_cases h0 : n = 0
  · subst h0
    exact ⟨0, b64.qmin, zero_fits good_b64 s, by simp⟩
  by_cases hp2 : n = 2 ^ 53
  · have h3 := h3 hp2
    refine ⟨2 ^ 52, k + 1, ⟨by rw [hp]; decide, by omega, by omega, .inr (by omega)⟩, ?_⟩
    rw [hp2, show (k - (k + 1)).toNat = 0 by omega, show (k + 1 - k).toNat = 1 by omega]
  · have l1 : 2 ^ n.log2 ≤ n := Nat.log2_self_le h0
    have l2 : n < 2 ^ (n.log2 + 1) := Nat.lt_log2_self
    have l3 : n.log2 < 53 := (Nat.pow_lt_pow_iff_right (by decide : 1 < 2)).mp (Nat.lt_of_le_of_lt l1 (by omega))
    generalize n.log2 = L at l1 l2 l3
    have hq : ∃ q : Int, q = max (-1074) ((L : Int) + k - 52) := ⟨_, rfl⟩
    obtain ⟨q, hq⟩ := hq
    have q1 : q ≤ k := by omega
    refine ⟨n * 2 ^ (k - q).toNat, q, ⟨?_, by omega, by omega, ?_⟩, ?_⟩
    · rw [hp]
      calc n * 2 ^ (k - q).toNat < 2 ^ (L + 1) * 2 ^ (k - q).toNat := Nat.mul_lt_mul_of_pos_right l2 (Nat.two_pow_pos _)
        _ = 2 ^ (L + 1 + (k - q).toNat) := by rw [← Nat.pow_add]
        _ ≤ 2 ^ 53 := Nat.pow_le_pow_right (by decide) (by omega)
    · by_cases hm2 : q = -1074
      · left; rw [hm]; exact hm2
      · right
        rw [ht]
        calc 2 ^ 52 = 2 ^ L * 2 ^ (k - q).toNat := by rw [← Nat.pow_add]; congr 1; omega
          _ ≤ n * 2 ^ (k - q).toNat := Nat.mul_le_mul_right _ l1
    · rw [show (q - k).toNat = 0 by omega]; simp
theorem own_dy_roundRatio {n k e : Int} {A B : Nat} {s : Bool} (hB : 0 < B) (hn : n.natAbs ≤ 2 ^ 53) (h1 : -1074 ≤ k) (h2 : k ≤ 970) (hA : A * 2 ^ (e - k).toNat = n.natAbs * B * 2 ^ (k - e).toNat) (hs : n ≠ 0 → s = decide (n < 0)) : own_Dy n k (roundRatio b64 s A B e) := by
  obtain ⟨c, q, hf, hv⟩ := own_fit (n := n.natAbs) s hn h1 (by omega) (fun _ => h2)
  have : roundRatio b64 s A B e = .fin s c q := by
    rw [roundRatio_congr (A' := n.natAbs) (B' := 1) (e' := k) hB (by decide) (by rw [Nat.mul_one]; exact hA)]
    exact roundRatio_exact good_b64 (by decide) hf hv
  rw [this]
  refine own_dy_mk ?_ hs
  rw [Nat.mul_one] at hv
  exact hv.symm
theorem own_dy_round {n k : Int} {d : Datum} (hn : n.natAbs ≤ 2 ^ 53) (h1 : -1074 ≤ k) (h2 : k ≤ 970) (h : own_Dy n k d) : own_Dy n k (round b64 d) := by
  obtain ⟨s, c, q, rfl⟩ := own_dy_fin h
  refine own_dy_roundRatio (by decide) hn h1 h2 ?_ (own_dy_sign h)
  rw [Nat.mul_one]; exact own_dy_abs h
theorem own_pow_cancel {a b x y : Nat} {u : Int} (h : a * 2 ^ x = b * 2 ^ y) (hu : u = (x : Int) - y) : a * 2 ^ u.toNat = b * 2 ^ (-u).toNat := by
  have hx : x = u.toNat + min x y := by omega
  have hy : y = (-u).toNat + min x y := by omega
  generalize u.toNat = v at *
  generalize (-u).toNat = w at *
  generalize min x y = t at hx hy
  subst hx hy
  rw [Nat.pow_add, Nat.pow_add, ← Nat.mul_assoc, ← Nat.mul_assoc] at h
  exact Nat.eq_of_mul_eq_mul_right (Nat.two_pow_pos t) h
/-- an exact quotient -/
theorem own_dy_quot {r m k l : Int} {x y : Datum} (hm : m ≠ 0) (hn : r.natAbs ≤ 2 ^ 53) (h1 : -1074 ≤ k) (h2 : k ≤ 970) (hx : own_Dy (r * m) (k + l) x) (hy : own_Dy m l y) : own_Dy r k (quotient b64 x y) := by
  obtain ⟨s, c, q, rfl⟩ := own_dy_fin hx
  obtain ⟨t, d, q', rfl⟩ := own_dy_fin hy
  have ha := own_dy_abs hx
  have hb := own_dy_abs hy
  have hd : d ≠ 0 := by
    rintro rfl
    rw [Nat.zero_mul] at hb
    rcases Nat.mul_eq_zero.mp hb.symm with h | h
    · exact hm (Int.natAbs_eq_zero.mp h)
    · have := Nat.two_pow_pos (l - q').toNat; omega
  show own_Dy r k (if d = 0 then _ else _)
  rw [if_neg hd]
  refine own_dy_roundRatio (Nat.pos_of_ne_zero hd) hn h1 h2 ?_ fun h0 => ?_
  · rw [Int.natAbs_mul] at ha
    have e1 : (q - q' - k) = (((q - (k + l)).toNat + (l - q').toNat : Nat) : Int) - (((k + l - q).toNat + (q' - l).toNat : Nat) : Int) := by omega
    have e2 : k - (q - q') = -(q - q' - k) := by omega
    rw [e2]
    refine own_pow_cancel (x := (q - (k + l)).toNat + (l - q').toNat) (y := (k + l - q).toNat + (q' - l).toNat) ?_ e1
    calc c * 2 ^ ((q - (k + l)).toNat + (l - q').toNat) = (c * 2 ^ (q - (k + l)).toNat) * 2 ^ (l - q').toNat := by rw [Nat.pow_add, Nat.mul_assoc]
      _ = r.natAbs * (m.natAbs * 2 ^ (l - q').toNat) * 2 ^ (k + l - q).toNat := by rw [ha]; ac_rfl
      _ = r.natAbs * d * 2 ^ ((k + l - q).toNat + (q' - l).toNat) := by rw [← hb, Nat.pow_add]; ac_rfl
  · have h3 : r * m ≠ 0 := fun h => (Int.mul_eq_zero.mp h).elim h0 hm
    rw [own_dy_sign hx h3, own_dy_sign hy hm]
    rcases Int.lt_or_gt_of_ne h0 with a | a <;> rcases Int.lt_or_gt_of_ne hm with b | b
    · have := Int.mul_pos_of_neg_of_neg a b; simp [a, b]; omega
    · have := Int.mul_neg_of_neg_of_pos a b; simp [a, this]; omega
    · have := Int.mul_neg_of_pos_of_neg a b; simp [b, this]; omega
    · have := Int.mul_pos a b; simp [show ¬ r < 0 by omega, show ¬ m < 0 by omega]; omega
theorem own_dy_unscale {n k : Int} {x : Datum} (j : Nat) (h : own_Dy (n * ((2 ^ j : Nat) : Int)) k x) : own_Dy n (k + j) x := by
  obtain ⟨s, c, q, rfl⟩ := own_dy_fin h
  have p : 0 < 2 ^ j := Nat.two_pow_pos j
  have p' : (0 : Int) < ((2 ^ j : Nat) : Int) := by omega
  refine own_dy_mk ?_ fun h0 => ?_
  · have ha := own_dy_abs h
    rw [Int.natAbs_mul, Int.natAbs_natCast] at ha
    have e1 : (q - (k + (j : Int))) = (((q - k).toNat : Nat) : Int) - (((k - q).toNat + j : Nat) : Int) := by omega
    have e2 : k + (j : Int) - q = -(q - (k + (j : Int))) := by omega
    rw [e2]
    refine own_pow_cancel (x := (q - k).toNat) (y := (k - q).toNat + j) ?_ e1
    rw [ha, Nat.pow_add]; ac_rfl
  · have hn : n * ((2 ^ j : Nat) : Int) ≠ 0 := fun h => (Int.mul_eq_zero.mp h).elim h0 (by omega)
    rw [own_dy_sign h hn, decide_eq_decide]
    constructor
    · intro hl; exact Int.lt_of_not_ge fun hg => by have := Int.mul_nonneg hg (Int.le_of_lt p'); omega
    · intro hl; exact Int.mul_neg_of_neg_of_pos hl p'
/-- the number in units of 2^e -/
theorem own_dy_units {n k q e : Int} {s : Bool} {c : Nat} (h : own_Dy n k (.fin s c q)) (h1 : e ≤ k) (h2 : e ≤ q) : signed s (inUnits c q e) = n * ((2 ^ (k - e).toNat : Nat) : Int) := by
  have ha := own_dy_abs h
  have e1 : inUnits c q e = n.natAbs * 2 ^ (k - e).toNat := by
    unfold inUnits
    refine Nat.eq_of_mul_eq_mul_right (Nat.two_pow_pos (k - q).toNat) ?_
    calc c * 2 ^ (q - e).toNat * 2 ^ (k - q).toNat = (c * 2 ^ (q - k).toNat) * 2 ^ (k - e).toNat := by
          rw [Nat.mul_assoc, ← Nat.pow_add, Nat.mul_assoc, ← Nat.pow_add]; congr 2; omega
      _ = n.natAbs * 2 ^ (k - e).toNat * 2 ^ (k - q).toNat := by rw [ha]; ac_rfl
  rw [e1, signed_mul]
  congr 1
  by_cases h0 : n = 0
  · subst h0; simp [signed]
  · rw [own_dy_sign h h0]
    unfold signed
    by_cases hl : n < 0 <;> simp [hl] <;> omega
theorem own_pow_split (n : Int) {k e : Int} (h1 : -1074 ≤ k) (h2 : e ≤ -1074) : n * ((2 ^ (k - e).toNat : Nat) : Int) = n * ((2 ^ (k + 1074).toNat : Nat) : Int) * ((2 ^ (b64.qmin - e).toNat : Nat) : Int) := by
  have hm : b64.qmin = -1074 := by decide
  rw [hm, Int.mul_assoc, ← Int.natCast_mul, ← Nat.pow_add]
  congr 4
  omega
/-- rounding is monotone -/
theorem own_round_le {n k w : Int} {d V : Datum} (h : own_Dy n k d) (h1 : -1074 ≤ k) (hV : Core.fits b64 V) (hn : V ≠ .nan) (hz : zval b64 V = w) (hw : n * ((2 ^ (k + 1074).toNat : Nat) : Int) ≤ w) : zval b64 (round b64 d) ≤ w := by
  obtain ⟨s, c, q, rfl⟩ := own_dy_fin h
  have hm : b64.qmin = -1074 := by decide
  have p := Nat.two_pow_pos (b64.qmin - min (-1074) q).toNat
  rw [← hz]
  refine zval_round_le good_b64 hV hn (e0 := min (-1074) q) (by omega) (by omega) ?_
  rw [own_dy_units h (by omega) (by omega), own_pow_split n h1 (by omega), hz]
  exact Int.mul_le_mul_of_nonneg_right hw (by omega)
theorem own_round_ge {n k w : Int} {d V : Datum} (h : own_Dy n k d) (h1 : -1074 ≤ k) (hV : Core.fits b64 V) (hn : V ≠ .nan) (hz : zval b64 V = w) (hw : w ≤ n * ((2 ^ (k + 1074).toNat : Nat) : Int)) : w ≤ zval b64 (round b64 d) := by
  obtain ⟨s, c, q, rfl⟩ := own_dy_fin h
  have hm : b64.qmin = -1074 := by decide
  have p := Nat.two_pow_pos (b64.qmin - min (-1074) q).toNat
  rw [← hz]
  refine zval_round_ge good_b64 hV hn (e0 := min (-1074) q) (by omega) (by omega) ?_
  rw [own_dy_units h (by omega) (by omega), own_pow_split n h1 (by omega), hz]
  exact Int.mul_le_mul_of_nonneg_right hw (by omega)
/-! ### on doubles -/
def own_D (n k : Int) (a : UInt64) : Prop := own_Dy n k (val64 a)
theorem own_d_int {n : Int} {a : UInt64} : own_D n 0 a ↔ DInt n a := own_dy0
theorem own_d_ne {n k : Int} {a : UInt64} (h : own_D n k a) : val64 a ≠ .nan := by
  obtain ⟨s, c, q, e⟩ := own_dy_fin h; rw [e]; exact Datum.noConfusion
theorem own_d_no {n k : Int} {a : UInt64} (h : own_D n k a) : Jvm.Free.Fl.NoNaN64 a := Jvm.Free.Fl.val64_no.mpr (own_d_ne h)
theorem own_d_scale {n k : Int} {a : UInt64} (h : own_D n k a) (j : Nat) : own_D (n * ((2 ^ j : Nat) : Int)) (k - j) a := own_dy_scale h j
theorem own_d_add {n m k : Int} {a b : UInt64} (ha : own_D n k a) (hb : own_D m k b) (hn : (n + m).natAbs ≤ 2 ^ 53) (h1 : -1074 ≤ k) (h2 : k ≤ 970) : own_D (n + m) k (FP.dadd a b) := by
  unfold own_D; rw [show FP.dadd a b = Core.dadd a b from rfl, val64_dadd]; exact own_dy_round hn h1 h2 (own_dy_sum ha hb)
theorem own_d_sub {n m k : Int} {a b : UInt64} (ha : own_D n k a) (hb : own_D m k b) (hn : (n - m).natAbs ≤ 2 ^ 53) (h1 : -1074 ≤ k) (h2 : k ≤ 970) : own_D (n - m) k (FP.dsub a b) := by
  unfold own_D; rw [show FP.dsub a b = Core.dsub a b from rfl, val64_dsub]; exact own_dy_round hn h1 h2 (own_dy_sum ha (own_dy_neg hb))
theorem own_d_mul {n m k l : Int} {a b : UInt64} (ha : own_D n k a) (hb : own_D m l b) (hn : (n * m).natAbs ≤ 2 ^ 53) (h1 : -1074 ≤ k + l) (h2 : k + l ≤ 970) : own_D (n * m) (k + l) (FP.dmul a b) := by
  unfold own_D; rw [show FP.dmul a b = Core.dmul a b from rfl, val64_dmul]; exact own_dy_round hn h1 h2 (own_dy_prod ha hb)
theorem own_d_div {r m k l : Int} {a b : UInt64} (hm : m ≠ 0) (ha : own_D (r * m) (k + l) a) (hb : own_D m l b) (hn : r.natAbs ≤ 2 ^ 53) (h1 : -1074 ≤ k) (h2 : k ≤ 970) : own_D r k (FP.ddiv a b) := by
  unfold own_D; rw [show FP.ddiv a b = Core.ddiv a b from rfl, val64_ddiv]; exact own_dy_quot hm hn h1 h2 ha hb
theorem own_d_neg {n k : Int} {a : UInt64} (ha : own_D n k a) : own_D (-n) k (FP.dneg a) := by
  unfold own_D; rw [FP.val64_dneg]; exact own_dy_neg ha
theorem own_d_cmp {n m k : Int} {a b : UInt64} (ha : own_D n k a) (hb : own_D m k b) : FP.dcmp a b = some (compare n m) := own_dy_order ha hb
theorem own_d_i2d (x : Int32) : own_D x.toInt 0 (FP.i2d x) := own_d_int.mpr (i2d_int x)
theorem own_d_l2d {x : Int64} (h : x.toInt.natAbs ≤ 2 ^ 53) : own_D x.toInt 0 (FP.l2d x) := own_d_int.mpr (l2d_int h)
theorem own_d_unscale {n k : Int} {a : UInt64} (j : Nat) (h : own_D (n * ((2 ^ j : Nat) : Int)) k a) : own_D n (k + j) a := own_dy_unscale j h
theorem own_d_zv {n k : Int} {a : UInt64} (h : own_D n k a) (h1 : -1074 ≤ k) : zval b64 (val64 a) = n * ((2 ^ (k + 1074).toNat : Nat) : Int) := by
  obtain ⟨s, c, q, e⟩ := own_dy_fin h
  have hf := val64_fits a
  unfold own_D at h
  rw [e] at h hf ⊢
  have hm : b64.qmin = -1074 := by decide
  have := own_dy_units h (e := b64.qmin) (by omega) (by have := hf.2.1; omega)
  show signed s (inUnits c q b64.qmin) = _
  rw [this, hm]
  congr 4
theorem own_cmp_eq (n : Int) : compare n n = .eq := by simp [compare, compareOfLessAndEq]
theorem own_cmp0 {r : Option Ordering} {op : CmpOp} : cmpValue r op = 0 ↔ r = some .eq := by
  rcases r with _ | o
  · cases op <;> simp [cmpValue] <;> decide
  · cases o <;> simp [cmpValue]
theorem own_d_of {n k q : Int} {s : Bool} {c : Nat} {a : UInt64} (h : val64 a = .fin s c q) (h' : c * 2 ^ (q - k).toNat = n.natAbs * 2 ^ (k - q).toNat) (hs : n = 0 ∨ s = decide (n < 0)) : own_D n k a := by
  unfold own_D; rw [h]; exact own_dy_mk h' fun h0 => hs.resolve_left h0
theorem own_d_0 {k l : Int} {a : UInt64} (h : own_D 0 k a) : own_D 0 l a := by
  obtain ⟨s, c, q, e⟩ := own_dy_fin h
  unfold own_D at h ⊢
  rw [e] at h ⊢
  have := own_dy_abs h
  refine own_dy_mk ?_ fun h0 => absurd rfl h0
  have p := Nat.two_pow_pos (q - k).toNat
  rw [show (0 : Int).natAbs = 0 from rfl, Nat.zero_mul] at this
  rcases Nat.mul_eq_zero.mp this with h | h
  · rw [h]; simp
  · omega
theorem own_d_zero : own_D 0 0 FP.dconst0 := own_d_of (s := false) (c := 0) (q := -1074) (by decide +kernel) (by decide +kernel) (Or.inl rfl)
theorem own_d_one : own_D 1 0 FP.dconst1 := own_d_of (s := false) (c := 4503599627370496) (q := -52) (by decide +kernel) (by decide +kernel) (Or.inr rfl)
end OwnDy
section OwnZ
open Jvm.FP Jvm.FP.Core
/-- a double's value in units of 2^-1074 -/
def own_z (a : UInt64) : Int := zval b64 (val64 a)
/-- finite, sign plus -/
def own_F (a : UInt64) : Prop := ∃ c q, val64 a = .fin false c q
def own_P : Nat := 2 ^ 1074
theorem own_P_pos : 0 < own_P := Nat.two_pow_pos _
theorem own_qmin : b64.qmin = -1074 := by decide
theorem own_F_ne {a : UInt64} (h : own_F a) : val64 a ≠ .nan := by obtain ⟨c, q, e⟩ := h; rw [e]; exact Datum.noConfusion
theorem own_F_no {a : UInt64} (h : own_F a) : Jvm.Free.Fl.NoNaN64 a := Jvm.Free.Fl.val64_no.mpr (own_F_ne h)
theorem own_F_D {n k : Int} {a : UInt64} (h : own_D n k a) (hn : 0 < n) : own_F a := by
  obtain ⟨s, c, q, e⟩ := own_dy_fin h
  unfold own_D at h
  rw [e] at h
  have := own_dy_sign h (by omega)
  rw [show decide (n < 0) = false from decide_eq_false (by omega)] at this
  subst this
  exact ⟨c, q, e⟩
theorem own_qge {a : UInt64} {s : Bool} {c : Nat} {q : Int} (e : val64 a = .fin s c q) : -1074 ≤ q := by
  have h := val64_fits a
  rw [e] at h
  have := h.2.1
  rw [own_qmin] at this
  exact this
theorem own_z_cmp {a b : UInt64} (ha : val64 a ≠ .nan) (hb : val64 b ≠ .nan) : FP.dcmp a b = some (compare (own_z a) (own_z b)) := order_zval good_b64 (val64_fits a) (val64_fits b) ha hb
theorem own_z_int {n : Int} {a : UInt64} (h : own_D n 0 a) : own_z a = n * (own_P : Int) := by
  have q := own_d_zv h (by decide)
  rw [show ((0 : Int) + 1074).toNat = 1074 from rfl] at q
  exact q
theorem own_z_F {a : UInt64} {c : Nat} {q : Int} (e : val64 a = .fin false c q) : own_z a = ((zmag b64 (.fin false c q) : Nat) : Int) := by
  unfold own_z; rw [e]; rfl
theorem own_z_nonneg {a : UInt64} (h : own_F a) : 0 ≤ own_z a := by obtain ⟨c, q, e⟩ := h; rw [own_z_F e]; omega
theorem own_fin_of {r V : UInt64} (hn : val64 r ≠ .nan) (hs : sgn (val64 r) = false) (hV : own_F V) (h : own_z r ≤ own_z V) : own_F r := by
  obtain ⟨c, q, e⟩ := hV
  unfold own_F
  cases er : val64 r with
  | nan => exact absurd er hn
  | inf s =>
    rw [er] at hs
    have hs' : s = false := hs
    subst hs'
    have ht := zmag_lt_top good_b64 (e ▸ val64_fits V)
    unfold own_z at h
    rw [er, e] at h
    have h1 : zval b64 (.inf false) = ((b64.tails * 2 ^ (b64.exps - 2) : Nat) : Int) := rfl
    have h2 : zval b64 (.fin false c q) = ((inUnits c q b64.qmin : Nat) : Int) := rfl
    rw [h1, h2] at h
    omega
  | fin s c' q' =>
    rw [er] at hs
    have hs' : s = false := hs
    subst hs'
    exact ⟨c', q', rfl⟩
theorem own_z_rr {r : UInt64} {A B : Nat} {e : Int} (h : val64 r = roundRatio b64 false A B e) : own_z r = ((zmag b64 (roundRatio b64 false A B e) : Nat) : Int) := by
  unfold own_z zval; rw [h, sgn_roundRatio]; rfl
theorem own_mul_rr {x y : UInt64} {c d : Nat} {q r : Int} (ex : val64 x = .fin false c q) (ey : val64 y = .fin false d r) : val64 (FP.dmul x y) = roundRatio b64 false (c * d) 1 (q + r) := by
  rw [show FP.dmul x y = Core.dmul x y from rfl, val64_dmul, ex, ey]; rfl
theorem own_mul_hi {x y V : UInt64} (hx : own_F x) (hy : own_F y) (hV : own_F V) (h : own_z x * own_z y ≤ own_z V * (own_P : Int)) : own_F (FP.dmul x y) ∧ own_z (FP.dmul x y) ≤ own_z V := by
  obtain ⟨c, q, ex⟩ := hx
  obtain ⟨d, r, ey⟩ := hy
  obtain ⟨v, t, eV⟩ := id hV
  have e := own_mul_rr ex ey
  have hz : own_z (FP.dmul x y) ≤ own_z V := by
    rw [own_z_rr e, own_z_F eV]
    rw [own_z_F ex, own_z_F ey, own_z_F eV] at h
    obtain ⟨-, p2, p3⟩ := product_units (ex ▸ val64_fits x) (ey ▸ val64_fits y)
    refine Int.ofNat_le.mpr (zmag_roundRatio_le good_b64 (by decide) (eV ▸ val64_fits V) Datum.noConfusion (e0 := 2 * b64.qmin) (by rw [own_qmin]; decide) p2 ?_)
    rw [p3, Nat.mul_one, show (b64.qmin - 2 * b64.qmin).toNat = 1074 by rw [own_qmin]; decide]
    exact Int.ofNat_le.mp (by rw [Int.natCast_mul, Int.natCast_mul]; exact h)
  exact ⟨own_fin_of (by rw [e]; exact roundRatio_ne_nan _ _ _ _ _) (by rw [e]; exact sgn_roundRatio _ _ _ _ _) hV hz, hz⟩
theorem own_mul_lo {x y V : UInt64} (hx : own_F x) (hy : own_F y) (hV : own_F V) (h : own_z V * (own_P : Int) ≤ own_z x * own_z y) : own_z V ≤ own_z (FP.dmul x y) := by
  obtain ⟨c, q, ex⟩ := hx
  obtain ⟨d, r, ey⟩ := hy
  obtain ⟨v, t, eV⟩ := hV
  rw [own_z_rr (own_mul_rr ex ey), own_z_F eV]
  rw [own_z_F ex, own_z_F ey, own_z_F eV] at h
  obtain ⟨-, p2, p3⟩ := product_units (ex ▸ val64_fits x) (ey ▸ val64_fits y)
  refine Int.ofNat_le.mpr (zmag_roundRatio_ge good_b64 (by decide) (eV ▸ val64_fits V) (e0 := 2 * b64.qmin) (by rw [own_qmin]; decide) p2 ?_)
  rw [p3, Nat.mul_one, show (b64.qmin - 2 * b64.qmin).toNat = 1074 by rw [own_qmin]; decide]
  exact Int.ofNat_le.mp (by rw [Int.natCast_mul, Int.natCast_mul]; exact h)
theorem own_div_rr {x y : UInt64} {c d : Nat} {q r : Int} (ex : val64 x = .fin false c q) (ey : val64 y = .fin false d r) (h0 : 0 < own_z y) : 0 < d ∧ val64 (FP.ddiv x y) = roundRatio b64 false c d (q - r) := by
  have hd : d ≠ 0 := by
    rintro rfl
    rw [own_z_F ey] at h0
    have : zmag b64 (.fin false 0 r) = 0 := by show 0 * _ = 0; rw [Nat.zero_mul]
    omega
  refine ⟨Nat.pos_of_ne_zero hd, ?_⟩
  rw [show FP.ddiv x y = Core.ddiv x y from rfl, val64_ddiv, ex, ey]
  show (if d = 0 then _ else _) = _
  rw [if_neg hd]; rfl
theorem own_pow_le {A M : Nat} {u v w x : Nat} (h : A * 2 ^ u ≤ M * 2 ^ v) (e : u + w = v + x) : A * 2 ^ x ≤ M * 2 ^ w := by
  refine Nat.le_of_mul_le_mul_right ?_ (Nat.two_pow_pos v)
  calc A * 2 ^ x * 2 ^ v = A * 2 ^ u * 2 ^ w := by rw [Nat.mul_assoc, ← Nat.pow_add, Nat.mul_assoc, ← Nat.pow_add]; congr 2; omega
    _ ≤ M * 2 ^ v * 2 ^ w := Nat.mul_le_mul_right _ h
    _ = M * 2 ^ w * 2 ^ v := by ac_rfl
theorem own_div_units {c d M : Nat} {q r : Int} (hq : -1074 ≤ q) (hr : -1074 ≤ r) : (c * 2 ^ (q - b64.qmin).toNat * own_P ≤ M * (d * 2 ^ (r - b64.qmin).toNat) → inUnits c (q - r) (min (-1074) (q - r)) ≤ M * 2 ^ (b64.qmin - min (-1074) (q - r)).toNat * d) ∧ (M * (d * 2 ^ (r - b64.qmin).toNat) ≤ c * 2 ^ (q - b64.qmin).toNat * own_P → M * 2 ^ (b64.qmin - min (-1074) (q - r)).toNat * d ≤ inUnits c (q - r) (min (-1074) (q - r))) := by
  rw [own_qmin]
  unfold own_P inUnits
  have e1 : c * 2 ^ (q - -1074).toNat * 2 ^ 1074 = c * 2 ^ ((q - -1074).toNat + 1074) := by rw [Nat.mul_assoc, ← Nat.pow_add]
  have e2 : M * (d * 2 ^ (r - -1074).toNat) = M * d * 2 ^ (r - -1074).toNat := by rw [Nat.mul_assoc]
  have e3 : M * 2 ^ (-1074 - min (-1074) (q - r)).toNat * d = M * d * 2 ^ (-1074 - min (-1074) (q - r)).toNat := by ac_rfl
  rw [e1, e2, e3]
  exact ⟨fun h => own_pow_le h (by omega), fun h => own_pow_le h (by omega)⟩
theorem own_div_hi {x y V : UInt64} (hx : own_F x) (hy : own_F y) (hV : own_F V) (h0 : 0 < own_z y) (h : own_z x * (own_P : Int) ≤ own_z V * own_z y) : own_F (FP.ddiv x y) ∧ own_z (FP.ddiv x y) ≤ own_z V := by
  obtain ⟨c, q, ex⟩ := hx
  obtain ⟨d, r, ey⟩ := hy
  obtain ⟨v, t, eV⟩ := id hV
  obtain ⟨hd, e⟩ := own_div_rr ex ey h0
  have f1 := own_qge ex
  have f2 := own_qge ey
  have hz : own_z (FP.ddiv x y) ≤ own_z V := by
    rw [own_z_rr e, own_z_F eV]
    rw [own_z_F ex, own_z_F ey, own_z_F eV] at h
    refine Int.ofNat_le.mpr (zmag_roundRatio_le good_b64 hd (eV ▸ val64_fits V) Datum.noConfusion (e0 := min (-1074) (q - r)) (by rw [own_qmin]; omega) (by omega) ?_)
    exact (own_div_units f1 f2).1 (Int.ofNat_le.mp (by rw [Int.natCast_mul, Int.natCast_mul]; exact h))
  exact ⟨own_fin_of (by rw [e]; exact roundRatio_ne_nan _ _ _ _ _) (by rw [e]; exact sgn_roundRatio _ _ _ _ _) hV hz, hz⟩
theorem own_div_lo {x y V : UInt64} (hx : own_F x) (hy : own_F y) (hV : own_F V) (h0 : 0 < own_z y) (h : own_z V * own_z y ≤ own_z x * (own_P : Int)) : own_z V ≤ own_z (FP.ddiv x y) := by
  obtain ⟨c, q, ex⟩ := hx
  obtain ⟨d, r, ey⟩ := hy
  obtain ⟨v, t, eV⟩ := hV
  obtain ⟨hd, e⟩ := own_div_rr ex ey h0
  have f1 := own_qge ex
  have f2 := own_qge ey
  rw [own_z_rr e, own_z_F eV]
  rw [own_z_F ex, own_z_F ey, own_z_F eV] at h
  refine Int.ofNat_le.mpr (zmag_roundRatio_ge good_b64 hd (eV ▸ val64_fits V) (e0 := min (-1074) (q - r)) (by rw [own_qmin]; omega) (by omega) ?_)
  exact (own_div_units f1 f2).2 (Int.ofNat_le.mp (by rw [Int.natCast_mul, Int.natCast_mul]; exact h))
theorem own_sub_both {x y V : UInt64} (hx : own_F x) (hy : own_F y) (hV : own_F V) : (own_z x - own_z y ≤ own_z V → own_z (FP.dsub x y) ≤ own_z V) ∧ (own_z V ≤ own_z x - own_z y → own_z V ≤ own_z (FP.dsub x y)) ∧ val64 (FP.dsub x y) ≠ .nan := by
  obtain ⟨c, q, ex⟩ := hx
  obtain ⟨d, r, ey⟩ := hy
  obtain ⟨v, t, eV⟩ := hV
  obtain ⟨sg, n, e, p1, p2, p3⟩ := sum_units (ex ▸ val64_fits x) (negate_fits (ey ▸ val64_fits y))
  have hv : val64 (FP.dsub x y) = round b64 (.fin sg n e) := by rw [show FP.dsub x y = Core.dsub x y from rfl, val64_dsub, ex, ey]; exact congrArg (round b64) p1
  have p4 : zval b64 (.fin (!false) d r) = - zval b64 (.fin false d r) := zval_negate b64 (.fin false d r)
  rw [p4, ← Int.sub_eq_add_neg] at p3
  have hxy : own_z x - own_z y = signed sg (inUnits n e b64.qmin) := by unfold own_z; rw [ex, ey, p3]
  have hone : ((2 ^ (b64.qmin - b64.qmin).toNat : Nat) : Int) = 1 := by rw [Int.sub_self]; rfl
  refine ⟨fun h => ?_, fun h => ?_, by rw [hv]; exact roundRatio_ne_nan _ _ _ _ _⟩
  · unfold own_z; rw [hv]
    refine zval_round_le good_b64 (val64_fits V) (by rw [eV]; exact Datum.noConfusion) (e0 := b64.qmin) (Int.le_refl _) p2 ?_
    rw [hone, Int.mul_one, ← hxy]; exact h
  · unfold own_z; rw [hv]
    refine zval_round_ge good_b64 (val64_fits V) (by rw [eV]; exact Datum.noConfusion) (e0 := b64.qmin) (Int.le_refl _) p2 ?_
    rw [hone, Int.mul_one, ← hxy]; exact h
theorem own_pos_F {r V : UInt64} (hn : val64 r ≠ .nan) (hV : own_F V) (h : own_z r ≤ own_z V) (h0 : 0 < own_z r) : own_F r := by
  refine own_fin_of hn ?_ hV h
  cases hs : sgn (val64 r) with
  | false => rfl
  | true => unfold own_z zval at h0; rw [hs] at h0; simp [signed] at h0; omega
theorem own_pick_min {a b : UInt64} (ha : val64 a ≠ .nan) (hb : val64 b ≠ .nan) : (Native.java_lang_Math.nans.pick64 false a b = a ∧ own_z a ≤ own_z b) ∨ (Native.java_lang_Math.nans.pick64 false a b = b ∧ own_z b ≤ own_z a) := by
  unfold Native.java_lang_Math.nans.pick64
  rw [own_z_cmp ha hb]
  rcases Int.lt_trichotomy (own_z a) (own_z b) with h | h | h
  · rw [Int.compare_eq_lt.mpr h]; exact Or.inl ⟨rfl, by omega⟩
  · rw [Int.compare_eq_eq.mpr h]; dsimp only; split
    · exact Or.inr ⟨rfl, by omega⟩
    · exact Or.inl ⟨rfl, by omega⟩
  · rw [Int.compare_eq_gt.mpr h]; exact Or.inr ⟨rfl, by omega⟩
theorem own_pick_max {a b : UInt64} (ha : val64 a ≠ .nan) (hb : val64 b ≠ .nan) : (Native.java_lang_Math.nans.pick64 true a b = a ∧ own_z b ≤ own_z a) ∨ (Native.java_lang_Math.nans.pick64 true a b = b ∧ own_z a ≤ own_z b) := by
  unfold Native.java_lang_Math.nans.pick64
  rw [own_z_cmp ha hb]
  rcases Int.lt_trichotomy (own_z a) (own_z b) with h | h | h
  · rw [Int.compare_eq_lt.mpr h]; exact Or.inr ⟨rfl, by omega⟩
  · rw [Int.compare_eq_eq.mpr h]; dsimp only; split
    · exact Or.inr ⟨rfl, by omega⟩
    · exact Or.inl ⟨rfl, by omega⟩
  · rw [Int.compare_eq_gt.mpr h]; exact Or.inl ⟨rfl, by omega⟩
end OwnZ
/-- a long moved left by a small int -/
theorem own_shl {u : Int32} {j : Nat} (hu : u.toInt = j) (hj : j < 64) (x : Int64) (h1 : -2 ^ 63 ≤ x.toInt * ((2 ^ j : Nat) : Int)) (h2 : x.toInt * ((2 ^ j : Nat) : Int) < 2 ^ 63) : (x <<< (u.toInt64 &&& 63)).toInt = x.toInt * ((2 ^ j : Nat) : Int) := by
  have he : u = Int32.ofNat j := by
    apply Int32.toInt_inj.mp
    rw [Int32.toInt_ofNat_of_lt (by omega)]
    omega
  subst he
  have hk : ((Int32.ofNat j).toInt64 &&& 63) = (Int32.ofNat j &&& 0x3f).toInt64 := by
    clear hu h1 h2
    revert hj
    revert j
    decide +kernel
  have hm : (Int32.ofNat j).toBitVec.toNat % 64 = j := by
    clear hu h1 h2 hk
    revert hj
    revert j
    decide +kernel
  have hc := c_lshl x (Int32.ofNat j) j hm
  rw [hk]
  have r := rng64 (x <<< (Int32.ofNat j &&& 0x3f).toInt64)
  generalize x.toInt * ((2 ^ j : Nat) : Int) = M at *
  omega
section OwnWt
open Jvm.FP Jvm.FP.Core
abbrev own_cl (a b : UInt64) : Int32 := cmpValue (FP.dcmp a b) .l
abbrev own_cg (a b : UInt64) : Int32 := cmpValue (FP.dcmp a b) .g
def own_X (g : UInt64) : UInt64 := FP.dmul (4606732058837280358 : UInt64) g
def own_U (us g : UInt64) : UInt64 := Native.java_lang_Math.nans.pick64 false us (own_X g)
def own_quo (us ot g : UInt64) : UInt64 := FP.ddiv (FP.dmul (own_U us g) ot) (FP.dsub g (own_U us g))
def own_tail (l8 us ot g : UInt64) : UInt64 := if (0 : Int32) < own_cl ot FP.dconst0 then Native.java_lang_Math.nans.pick64 true (Native.java_lang_Math.nans.pick64 false (own_quo us ot g) l8) (FP.ddiv (own_U us g) g) else FP.dconst1
def own_L8 (li us fa g : UInt64) : UInt64 := if own_cl fa FP.dconst1 < (0 : Int32) then FP.ddiv (own_U us g) FP.dconst1 else if (0 : Int32) < own_cl li FP.dconst0 then FP.ddiv li fa else FP.ddiv (own_U us g) FP.dconst1
/-- FlowShare.weight -/
def own_wt (li us fa he ot g : UInt64) : UInt64 :=
  if own_cl he (4602678819172646912 : UInt64) < (0 : Int32) then (if own_cg us FP.dconst1 < (0 : Int32) then FP.dconst0 else own_tail (own_L8 li us fa g) us ot g)
  else if ¬ own_cl fa FP.dconst1 < (0 : Int32) ∧ (0 : Int32) < own_cl li FP.dconst0 then own_L8 li us fa g
  else if own_cl li FP.dconst0 = (0 : Int32) then FP.dconst1
  else if own_cg us FP.dconst1 < (0 : Int32) then FP.dconst1 else own_tail (own_L8 li us fa g) us ot g
theorem own_pick_no {gr : Bool} {a b : UInt64} (ha : Jvm.Free.Fl.NoNaN64 a) (hb : Jvm.Free.Fl.NoNaN64 b) : Jvm.Free.Fl.NoNaN64 (Native.java_lang_Math.nans.pick64 gr a b) := by
  unfold Native.java_lang_Math.nans.pick64
  split
  · split <;> assumption
  · split <;> assumption
  · split <;> assumption
end OwnWt
section OwnFw
open Jvm.FP Jvm.FP.Core
theorem own_z_sc {n : Int} {j : Nat} {a : UInt64} (h : own_D n (-(j : Int)) a) (hj : j ≤ 1074) : own_z a * ((2 ^ j : Nat) : Int) = n * (own_P : Int) := by
  have q := own_d_zv h (by omega)
  have e : (2 ^ (-(j : Int) + 1074).toNat : Nat) * 2 ^ j = own_P := by
    rw [← Nat.pow_add, show (-(j : Int) + 1074).toNat + j = 1074 by omega]; rfl
  unfold own_z
  rw [q, Int.mul_assoc, ← Int.natCast_mul, e]
theorem own_PP : (0 : Int) < (own_P : Int) := Int.natCast_pos.mpr own_P_pos
theorem own_T (j : Nat) : (0 : Int) < ((2 ^ j : Nat) : Int) := Int.natCast_pos.mpr (Nat.two_pow_pos j)
theorem own_prod_z {n m : Int} {j : Nat} {x y V : UInt64} (hx : own_D n (-(j : Int)) x) (hy : own_D m 0 y) (hV : own_D (n * m) (-(j : Int)) V) (hj : j ≤ 1074) : own_z V * (own_P : Int) = own_z x * own_z y := by
  have a := own_z_sc hx hj
  have b := own_z_int hy
  have c := own_z_sc hV hj
  refine Int.eq_of_mul_eq_mul_right (Int.ne_of_gt (own_T j)) ?_
  calc own_z V * (own_P : Int) * ((2 ^ j : Nat) : Int) = (own_z V * ((2 ^ j : Nat) : Int)) * own_P := by generalize (own_P : Int) = Pz; ac_rfl
    _ = n * m * own_P * own_P := by rw [c]
    _ = (n * own_P) * (m * own_P) := by generalize (own_P : Int) = Pz; ac_rfl
    _ = (own_z x * ((2 ^ j : Nat) : Int)) * own_z y := by rw [a, b]
    _ = own_z x * own_z y * ((2 ^ j : Nat) : Int) := by generalize (own_P : Int) = Pz; ac_rfl
theorem own_dmulc {n m : Int} {j : Nat} {x y : UInt64} (hx : own_D n (-(j : Int)) x) (hy : own_D m 0 y) (h : (n * m).natAbs ≤ 2 ^ 53) (hj : j ≤ 1000) : own_D (n * m) (-(j : Int)) (FP.dmul x y) := by
  have := own_d_mul hx hy h (by omega) (by omega)
  rwa [Int.add_zero] at this
theorem own_c1516 : own_D 15 (-((4 : Nat) : Int)) (4606619468846596096 : UInt64) := own_d_of (s := false) (c := 8444249301319680) (q := -53) (by decide +kernel) (by decide +kernel) (Or.inr rfl)
theorem own_c3132 : own_D 31 (-((5 : Nat) : Int)) (4606900943823306752 : UInt64) := own_d_of (s := false) (c := 8725724278030336) (q := -53) (by decide +kernel) (by decide +kernel) (Or.inr rfl)
theorem own_c116 : own_D 1 (-((4 : Nat) : Int)) (4589168020290535424 : UInt64) := own_d_of (s := false) (c := 4503599627370496) (q := -56) (by decide +kernel) (by decide +kernel) (Or.inr rfl)
theorem own_c132 : own_D 1 (-((5 : Nat) : Int)) (4584664420663164928 : UInt64) := own_d_of (s := false) (c := 4503599627370496) (q := -57) (by decide +kernel) (by decide +kernel) (Or.inr rfl)
theorem own_c15 : own_D 15 (-((0 : Nat) : Int)) (4624633867356078080 : UInt64) := own_d_of (s := false) (c := 8444249301319680) (q := -49) (by decide +kernel) (by decide +kernel) (Or.inr rfl)
theorem own_cHalf : own_D 1 (-((1 : Nat) : Int)) (4602678819172646912 : UInt64) := own_d_of (s := false) (c := 4503599627370496) (q := -53) (by decide +kernel) (by decide +kernel) (Or.inr rfl)
theorem own_F95 : own_F (4606732058837280358 : UInt64) := ⟨8556839292003942, -53, by decide +kernel⟩
theorem own_F0 : own_F FP.dconst0 := ⟨0, -1074, by decide +kernel⟩
theorem own_F1 : own_F FP.dconst1 := own_F_D own_d_one (by decide)
theorem own_z0 : own_z FP.dconst0 = 0 := by decide +kernel
theorem own_z1 : own_z FP.dconst1 = (own_P : Int) := by rw [own_z_int own_d_one, Int.one_mul]
theorem own_95lo : own_z (4606619468846596096 : UInt64) ≤ own_z (4606732058837280358 : UInt64) := by decide +kernel
theorem own_95hi : own_z (4606732058837280358 : UInt64) ≤ own_z (4606900943823306752 : UInt64) := by decide +kernel
/-- 0.95 * g, rounded: between 15/16 g and 31/32 g -/
theorem own_X_b {g : Int} {G : UInt64} (hG : own_D g 0 G) (h1 : 1 ≤ g) (h2 : g ≤ 65555) : own_F (own_X G) ∧ 15 * (g * (own_P : Int)) ≤ 16 * own_z (own_X G) ∧ 32 * own_z (own_X G) ≤ 31 * (g * (own_P : Int)) := by
  have v1 := own_dmulc own_c1516 hG (by omega) (by decide)
  have v2 := own_dmulc own_c3132 hG (by omega) (by decide)
  have fG := own_F_D hG (by omega)
  have zG := own_z_nonneg fG
  have hi := own_mul_hi own_F95 fG (own_F_D v2 (by omega)) (by rw [own_prod_z own_c3132 hG v2 (by decide)]; exact Int.mul_le_mul_of_nonneg_right own_95hi zG)
  have lo := own_mul_lo own_F95 fG (own_F_D v1 (by omega)) (by rw [own_prod_z own_c1516 hG v1 (by decide)]; exact Int.mul_le_mul_of_nonneg_right own_95lo zG)
  have e1 := own_z_sc v1 (by decide)
  have e2 := own_z_sc v2 (by decide)
  rw [show ((2 ^ 4 : Nat) : Int) = 16 from rfl, Int.mul_assoc] at e1
  rw [show ((2 ^ 5 : Nat) : Int) = 32 from rfl, Int.mul_assoc] at e2
  refine ⟨hi.1, ?_, ?_⟩
  · show _ ≤ 16 * own_z (FP.dmul _ _)
    generalize g * (own_P : Int) = q at *
    omega
  · show 32 * own_z (FP.dmul _ _) ≤ _
    have := hi.2
    generalize g * (own_P : Int) = q at *
    omega
/-- the utilisation where it isn't capped -/
theorem own_U_d {g d : Int} {G us : UInt64} (hG : own_D g 0 G) (h1 : 1 ≤ g) (h2 : g ≤ 65555) (hd : own_D d 0 us) (d1 : 1 ≤ d) (d2 : 10 * d ≤ 9 * g) : own_U us G = us := by
  obtain ⟨fX, lo, -⟩ := own_X_b hG h1 h2
  have zu := own_z_int hd
  rcases own_pick_min (own_d_ne hd) (own_F_ne fX) with ⟨e, -⟩ | ⟨-, h⟩
  · exact e
  · exfalso
    rw [zu] at h
    have a := Int.mul_le_mul_of_nonneg_right d2 (Int.le_of_lt own_PP)
    have b := Int.mul_pos (show (0 : Int) < d by omega) own_PP
    rw [Int.mul_assoc, Int.mul_assoc] at a
    generalize g * (own_P : Int) = q at *
    generalize d * (own_P : Int) = r at *
    omega
/-- .. where it is -/
theorem own_U_c {g n : Int} {G us : UInt64} (hG : own_D g 0 G) (h1 : 1 ≤ g) (h2 : g ≤ 65555) (hd : own_D n 0 us) (d2 : g ≤ n) : own_U us G = own_X G := by
  obtain ⟨fX, -, hi⟩ := own_X_b hG h1 h2
  have zu := own_z_int hd
  rcases own_pick_min (own_d_ne hd) (own_F_ne fX) with ⟨-, h⟩ | ⟨e, -⟩
  · exfalso
    rw [zu] at h
    have a := Int.mul_le_mul_of_nonneg_right d2 (Int.le_of_lt own_PP)
    have b := Int.mul_pos (show (0 : Int) < g by omega) own_PP
    generalize g * (own_P : Int) = q at *
    generalize n * (own_P : Int) = r at *
    omega
  · exact e
theorem own_div1 {x : UInt64} (hx : own_F x) : own_F (FP.ddiv x FP.dconst1) ∧ own_z (FP.ddiv x FP.dconst1) = own_z x := by
  have h0 : 0 < own_z FP.dconst1 := by rw [own_z1]; exact own_PP
  obtain ⟨a, b⟩ := own_div_hi hx own_F1 hx h0 (by rw [own_z1]; exact Int.le_refl _)
  have c := own_div_lo hx own_F1 hx h0 (by rw [own_z1]; exact Int.le_refl _)
  exact ⟨a, Int.le_antisymm b c⟩
/-- the capped case: the quotient is large, the low share small -/
theorem own_cap {g m : Int} {G M : UInt64} (hG : own_D g 0 G) (h1 : 1 ≤ g) (h2 : g ≤ 65555) (m1 : 1 ≤ m) (m2 : m ≤ 65536) (hM : own_D (m * g) 0 M) :
    val64 (FP.dmul (own_X G) M) ≠ .nan ∧ val64 (FP.dsub G (own_X G)) ≠ .nan ∧ val64 (FP.ddiv (FP.dmul (own_X G) M) (FP.dsub G (own_X G))) ≠ .nan ∧ 15 * (m * g) * (own_P : Int) ≤ own_z (FP.ddiv (FP.dmul (own_X G) M) (FP.dsub G (own_X G))) ∧
    val64 (FP.ddiv (own_X G) G) ≠ .nan ∧ own_z (FP.ddiv (own_X G) G) ≤ (own_P : Int) ∧ own_z (FP.ddiv (own_X G) G) ≤ own_z (own_X G) := by
  obtain ⟨fX, lo, hi⟩ := own_X_b hG h1 h2
  have fG := own_F_D hG (by omega)
  have zG := own_z_int hG
  have gP := Int.mul_pos (show (0 : Int) < g by omega) own_PP
  have mg : 1 ≤ m * g := Int.le_trans (by decide) (Int.mul_le_mul m1 h1 (by decide) (by omega))
  have mg2 : m * g ≤ 65536 * 65555 := Int.mul_le_mul m2 h2 (by omega) (by decide)
  have fM := own_F_D hM (by omega)
  have zM := own_z_int hM
  have gg : g * (m * g) ≤ 65555 * (65536 * 65555) := Int.mul_le_mul h2 mg2 (by omega) (by decide)
  have gg1 : 1 ≤ g * (m * g) := Int.le_trans (by decide) (Int.mul_le_mul h1 mg (by decide) (by omega))
  have v15 := own_dmulc own_c1516 hG (by omega) (by decide)
  have vlo := own_dmulc v15 hM (by rw [Int.mul_assoc]; omega) (by decide)
  have vhi := own_d_mul hG hM (by omega) (by decide) (by decide)
  rw [Int.add_zero] at vhi
  have zX := own_z_nonneg fX
  have e15 := own_z_sc v15 (by decide)
  rw [show ((2 ^ 4 : Nat) : Int) = 16 from rfl, Int.mul_assoc] at e15
  -- the product
  have p1 := own_mul_hi fX fM (own_F_D vhi (by omega)) (by
    have := own_prod_z (j := 0) (x := G) (y := M) (V := FP.dmul G M) hG hM vhi (by decide)
    rw [this]
    refine Int.mul_le_mul_of_nonneg_right ?_ (own_z_nonneg fM)
    rw [zG]
    generalize g * (own_P : Int) = q at *
    omega)
  have p2 := own_mul_lo fX fM (own_F_D vlo (by rw [Int.mul_assoc]; omega)) (by
    rw [own_prod_z v15 hM vlo (by decide)]
    refine Int.mul_le_mul_of_nonneg_right ?_ (own_z_nonneg fM)
    generalize g * (own_P : Int) = q at *
    omega)
  -- the difference
  have v16 := own_dmulc own_c116 hG (by omega) (by decide)
  have v32 := own_dmulc own_c132 hG (by omega) (by decide)
  have e16 := own_z_sc v16 (by decide)
  have e32 := own_z_sc v32 (by decide)
  rw [show ((2 ^ 4 : Nat) : Int) = 16 from rfl, Int.one_mul] at e16
  rw [show ((2 ^ 5 : Nat) : Int) = 32 from rfl, Int.one_mul] at e32
  have s1 := (own_sub_both fG fX (own_F_D v16 (by omega))).1 (by rw [zG]; generalize g * (own_P : Int) = q at *; omega)
  have s2 := (own_sub_both fG fX (own_F_D v32 (by omega))).2.1 (by rw [zG]; generalize g * (own_P : Int) = q at *; omega)
  have sn := (own_sub_both fG fX fG).2.2
  have s0 : 0 < own_z (FP.dsub G (own_X G)) := by generalize g * (own_P : Int) = q at *; omega
  have fS := own_pos_F sn (own_F_D v16 (by omega)) s1 s0
  -- the quotient
  obtain ⟨c, q, ec⟩ := id p1.1
  obtain ⟨d, r, ed⟩ := id fS
  have hrr := (own_div_rr ec ed s0).2
  have v15m := own_dmulc own_c15 hM (by omega) (by decide)
  have q1 := own_div_lo p1.1 fS (own_F_D v15m (by omega)) s0 (by
    have z1 : own_z (FP.dmul 4624633867356078080 M) = 15 * (m * g) * (own_P : Int) := own_z_int v15m
    have e := own_z_sc vlo (by decide)
    rw [show ((2 ^ 4 : Nat) : Int) = 16 from rfl] at e
    rw [z1]
    have k1 : 15 * (m * g) * (own_P : Int) * own_z (FP.dsub G (own_X G)) ≤ 15 * (m * g) * (own_P : Int) * own_z (FP.dmul 4589168020290535424 G) := Int.mul_le_mul_of_nonneg_left s1 (Int.le_of_lt (Int.mul_pos (by omega) own_PP))
    have k2 : own_z (FP.dmul (FP.dmul 4606619468846596096 G) M) * (own_P : Int) ≤ own_z (FP.dmul (own_X G) M) * (own_P : Int) := Int.mul_le_mul_of_nonneg_right p2 (Int.le_of_lt own_PP)
    have k3 : 15 * (m * g) * (own_P : Int) * own_z (FP.dmul 4589168020290535424 G) = own_z (FP.dmul (FP.dmul 4606619468846596096 G) M) * (own_P : Int) := by
      refine Int.eq_of_mul_eq_mul_right (a := 16) (by decide) ?_
      calc 15 * (m * g) * (own_P : Int) * own_z (FP.dmul 4589168020290535424 G) * 16 = 15 * (m * g) * (own_P : Int) * (own_z (FP.dmul 4589168020290535424 G) * 16) := by generalize (own_P : Int) = Pz; ac_rfl
        _ = 15 * g * (m * g) * own_P * own_P := by rw [e16]; generalize (own_P : Int) = Pz; ac_rfl
        _ = (own_z (FP.dmul (FP.dmul 4606619468846596096 G) M) * 16) * own_P := by rw [e]
        _ = _ := by generalize (own_P : Int) = Pz; ac_rfl
    rw [k3] at k1
    exact Int.le_trans k1 k2)
  rw [own_z_int v15m] at q1
  have zG0 : 0 < own_z G := by rw [zG]; exact gP
  have d1 := own_div_hi fX fG own_F1 zG0 (by
    rw [own_z1, zG, Int.mul_comm]
    refine Int.mul_le_mul_of_nonneg_left ?_ (Int.le_of_lt own_PP)
    generalize g * (own_P : Int) = q at *
    omega)
  have d2 := own_div_hi fX fG fX zG0 (by
    rw [zG]
    refine Int.mul_le_mul_of_nonneg_left ?_ zX
    have := Int.mul_le_mul_of_nonneg_right h1 (Int.le_of_lt own_PP)
    rwa [Int.one_mul] at this)
  rw [own_z1] at d1
  exact ⟨own_F_ne p1.1, sn, by rw [hrr]; exact roundRatio_ne_nan _ _ _ _ _, q1, own_F_ne d1.1, d1.2, d2.2⟩
end OwnFw
section OwnFv
open Jvm.FP Jvm.FP.Core
theorem own_cv {a b : UInt64} (ha : val64 a ≠ .nan) (hb : val64 b ≠ .nan) (op : CmpOp) : (cmpValue (FP.dcmp a b) op < (0 : Int32) ↔ own_z a < own_z b) ∧ ((0 : Int32) < cmpValue (FP.dcmp a b) op ↔ own_z b < own_z a) ∧ (cmpValue (FP.dcmp a b) op = (0 : Int32) ↔ own_z a = own_z b) := by
  rw [own_z_cmp ha hb]
  generalize own_z a = x
  generalize own_z b = y
  rcases Int.lt_trichotomy x y with h | h | h
  · rw [Int.compare_eq_lt.mpr h]
    exact ⟨⟨fun _ => h, fun _ => by cases op <;> decide⟩, ⟨fun q => absurd q (by cases op <;> decide), fun q => by omega⟩, ⟨fun q => absurd q (by cases op <;> decide), fun q => by omega⟩⟩
  · rw [Int.compare_eq_eq.mpr h]
    exact ⟨⟨fun q => absurd q (by cases op <;> decide), fun q => by omega⟩, ⟨fun q => absurd q (by cases op <;> decide), fun q => by omega⟩, ⟨fun _ => h, fun _ => by cases op <;> decide⟩⟩
  · rw [Int.compare_eq_gt.mpr h]
    exact ⟨⟨fun q => absurd q (by cases op <;> decide), fun q => by omega⟩, ⟨fun _ => h, fun _ => by cases op <;> decide⟩, ⟨fun q => absurd q (by cases op <;> decide), fun q => by omega⟩⟩
theorem own_eqz {a b : UInt64} (ha : val64 a ≠ .nan) (hb : val64 b ≠ .nan) (h : own_z a = own_z b) : own_cl a b = (0 : Int32) := ((own_cv ha hb .l).2.2).mpr h
/-- the greater of the least and the low share -/
theorem own_mm {q l8 lw : UInt64} (hq : val64 q ≠ .nan) (hl : val64 l8 ≠ .nan) (hw : val64 lw ≠ .nan) :
    val64 (Native.java_lang_Math.nans.pick64 true (Native.java_lang_Math.nans.pick64 false q l8) lw) ≠ .nan ∧ own_z (Native.java_lang_Math.nans.pick64 true (Native.java_lang_Math.nans.pick64 false q l8) lw) = max (min (own_z q) (own_z l8)) (own_z lw) := by
  have h1 : val64 (Native.java_lang_Math.nans.pick64 false q l8) ≠ .nan ∧ own_z (Native.java_lang_Math.nans.pick64 false q l8) = min (own_z q) (own_z l8) := by
    rcases own_pick_min hq hl with ⟨e, h⟩ | ⟨e, h⟩
    · rw [e]; exact ⟨hq, by omega⟩
    · rw [e]; exact ⟨hl, by omega⟩
  obtain ⟨h2, h3⟩ := h1
  rcases own_pick_max h2 hw with ⟨e, h⟩ | ⟨e, h⟩
  · rw [e]; exact ⟨h2, by omega⟩
  · rw [e]; exact ⟨hw, by omega⟩
theorem own_quo_d {g d c : Int} {e : Nat} {G us ot : UInt64} (hG : own_D g 0 G) (h2 : g ≤ 65555) (hd : own_D d 0 us) (d1 : 1 ≤ d) (d2 : 10 * d ≤ 9 * g) (c1 : 1 ≤ c) (c2 : c ≤ 256) (he : e ≤ 31) (ho : own_D ((g - d) * c) (-(e : Int)) ot) :
    Jvm.Free.Fl.NoNaN64 (FP.dmul (own_U us G) ot) ∧ Jvm.Free.Fl.NoNaN64 (FP.dsub G (own_U us G)) ∧ own_D (d * c) (-(e : Int)) (own_quo us ot G) ∧ Jvm.Free.Fl.NoNaN64 (FP.ddiv (own_U us G) G) := by
  have hU := own_U_d hG (by omega) h2 hd d1 d2
  have b1 : (g - d) * c ≤ 65555 * 256 := Int.mul_le_mul (by omega) c2 (by omega) (by decide)
  have b1' : 1 ≤ (g - d) * c := Int.le_trans (by decide) (Int.mul_le_mul (show 1 ≤ g - d by omega) c1 (by decide) (by omega))
  have b2 : d * ((g - d) * c) ≤ 65555 * (65555 * 256) := Int.mul_le_mul (by omega) b1 (by omega) (by decide)
  have b2' : 1 ≤ d * ((g - d) * c) := Int.le_trans (by decide) (Int.mul_le_mul d1 b1' (by decide) (by omega))
  have b3 : d * c ≤ 65555 * 256 := Int.mul_le_mul (by omega) c2 (by omega) (by decide)
  have b3' : 1 ≤ d * c := Int.le_trans (by decide) (Int.mul_le_mul d1 c1 (by decide) (by omega))
  have m1 := own_d_mul hd ho (by omega) (by omega) (by omega)
  have m2 := own_d_sub hG hd (by omega) (by decide) (by decide)
  have m3 : own_D (d * c) (-(e : Int)) (FP.ddiv (FP.dmul us ot) (FP.dsub G us)) := by
    refine own_d_div (m := g - d) (l := 0) (by omega) ?_ m2 (by omega) (by omega) (by omega)
    rw [Int.zero_add] at m1
    rw [Int.add_zero, show d * c * (g - d) = d * ((g - d) * c) by ac_rfl]
    exact m1
  have fG := own_F_D hG (by omega)
  have fd := own_F_D hd (by omega)
  have zG0 : 0 < own_z G := by rw [own_z_int hG]; exact Int.mul_pos (by omega) own_PP
  have q4 := own_div_hi fd fG fd zG0 (by
    rw [own_z_int hG]
    refine Int.mul_le_mul_of_nonneg_left ?_ (own_z_nonneg fd)
    have := Int.mul_le_mul_of_nonneg_right (show (1 : Int) ≤ g by omega) (Int.le_of_lt own_PP)
    rwa [Int.one_mul] at this)
  unfold own_quo
  rw [hU]
  exact ⟨own_d_no m1, own_d_no m2, m3, own_F_no q4.1⟩
/-- the low share against dyadic numbers -/
theorem own_low {g d n : Int} {e : Nat} {G us M : UInt64} (hG : own_D g 0 G) (h1 : 1 ≤ g) (hd : own_D d 0 us) (d1 : 1 ≤ d) (hM : own_D n (-(e : Int)) M) (n1 : 1 ≤ n) (he : e ≤ 31) :
    (d * ((2 ^ e : Nat) : Int) ≤ n * g → own_z (FP.ddiv us G) ≤ own_z M) ∧ (n * g ≤ d * ((2 ^ e : Nat) : Int) → own_z M ≤ own_z (FP.ddiv us G)) := by
  have fG := own_F_D hG (by omega)
  have fd := own_F_D hd (by omega)
  have fM := own_F_D hM (by omega)
  have zG := own_z_int hG
  have zd := own_z_int hd
  have zM := own_z_sc hM (by omega)
  have zG0 : 0 < own_z G := by rw [zG]; exact Int.mul_pos (by omega) own_PP
  have T0 := own_T e
  have e1 : own_z us * (own_P : Int) * ((2 ^ e : Nat) : Int) = d * ((2 ^ e : Nat) : Int) * ((own_P : Int) * (own_P : Int)) := by
    rw [zd]; generalize (own_P : Int) = Pz; ac_rfl
  have e2 : own_z M * own_z G * ((2 ^ e : Nat) : Int) = n * g * ((own_P : Int) * (own_P : Int)) := by
    calc own_z M * own_z G * ((2 ^ e : Nat) : Int) = (own_z M * ((2 ^ e : Nat) : Int)) * own_z G := by ac_rfl
      _ = _ := by rw [zM, zG]; generalize (own_P : Int) = Pz; ac_rfl
  have PP : 0 ≤ (own_P : Int) * (own_P : Int) := Int.mul_nonneg (Int.le_of_lt own_PP) (Int.le_of_lt own_PP)
  refine ⟨fun h => (own_div_hi fd fG fM zG0 ?_).2, fun h => own_div_lo fd fG fM zG0 ?_⟩
  · refine Int.le_of_mul_le_mul_right ?_ T0
    rw [e1, e2]
    exact Int.mul_le_mul_of_nonneg_right h PP
  · refine Int.le_of_mul_le_mul_right ?_ T0
    rw [e1, e2]
    exact Int.mul_le_mul_of_nonneg_right h PP
theorem own_z_le {n m : Int} {e : Nat} {x y : UInt64} (hx : own_D n (-(e : Int)) x) (hy : own_D m 0 y) (he : e ≤ 31) : (n ≤ m * ((2 ^ e : Nat) : Int) → own_z x ≤ own_z y) ∧ (m * ((2 ^ e : Nat) : Int) ≤ n → own_z y ≤ own_z x) := by
  have zx := own_z_sc hx (by omega)
  have zy := own_z_int hy
  have T0 := own_T e
  have e2 : own_z y * ((2 ^ e : Nat) : Int) = m * ((2 ^ e : Nat) : Int) * (own_P : Int) := by rw [zy]; generalize (own_P : Int) = Pz; ac_rfl
  refine ⟨fun h => Int.le_of_mul_le_mul_right ?_ T0, fun h => Int.le_of_mul_le_mul_right ?_ T0⟩
  · rw [zx, e2]; exact Int.mul_le_mul_of_nonneg_right h (Int.le_of_lt own_PP)
  · rw [zx, e2]; exact Int.mul_le_mul_of_nonneg_right h (Int.le_of_lt own_PP)
end OwnFv
section OwnFm
open Jvm.FP Jvm.FP.Core
def own_B (G D m F c p dd : Int64) (e : Nat) : Prop := 20 ≤ G.toInt ∧ G.toInt ≤ 65555 ∧ 1 ≤ D.toInt ∧ 10 * D.toInt ≤ 9 * G.toInt ∧ 1 ≤ m.toInt ∧ m.toInt ≤ 65536 ∧ 1 ≤ F.toInt ∧ F.toInt ≤ 65536 ∧ 1 ≤ c.toInt ∧ c.toInt ≤ 256 ∧ e ≤ 31 ∧ p.toInt = ((2 ^ e : Nat) : Int) ∧ 0 ≤ dd.toInt ∧ dd.toInt ≤ 65535
def own_R4 (z : Int32) : Prop := z = 0 ∨ z = 1 ∨ z = 2 ∨ z = 3
def own_he (hc : Int32) : UInt64 := FP.dmul (FP.i2d hc) (4598175219545276416 : UInt64)
def own_fast (fk : Int32) (F : Int64) : UInt64 := if fk = 0 then FP.dconst0 else if fk = 1 then (4602678819172646912 : UInt64) else FP.l2d F
def own_lim (lo fk : Int32) (F m : Int64) : UInt64 := if lo = 0 then FP.dconst0 else FP.dmul (own_fast fk F) (FP.l2d m)
def own_used (uk : Int32) (G D dd : Int64) : UInt64 := if uk = 0 then FP.dconst0 else if uk = 1 then (4602678819172646912 : UInt64) else if uk = 3 then FP.l2d (G + dd) else FP.l2d D
def own_oth (oo uk : Int32) (G D m c p : Int64) : UInt64 := if oo = 0 then FP.dconst0 else if uk = 3 then FP.l2d (m * G) else FP.ddiv (FP.l2d ((G - D) * c)) (FP.l2d p)
def own_share (ct : Int32) (D G m c p : Int64) : UInt64 :=
  if ct = 0 then (if (0 : Int32) < XT.cmpL c p then FP.l2d D else if XT.cmpL (c * G) p < (0 : Int32) then FP.ddiv (FP.l2d D) (FP.l2d G) else FP.ddiv (FP.l2d (D * c)) (FP.l2d p))
  else if (0 : Int32) < XT.cmpL (D * c) (m * p) then (if XT.cmpL (m * G) D < (0 : Int32) then FP.ddiv (FP.l2d D) (FP.l2d G) else FP.l2d m) else if XT.cmpL (c * G) p < (0 : Int32) then FP.ddiv (FP.l2d D) (FP.l2d G) else FP.ddiv (FP.l2d (D * c)) (FP.l2d p)
theorem own_cmpL (x y : Int64) : ((0 : Int32) < XT.cmpL x y ↔ y.toInt < x.toInt) ∧ (XT.cmpL x y < (0 : Int32) ↔ x.toInt < y.toInt) := by
  unfold XT.cmpL
  by_cases h1 : y < x
  · rw [if_pos h1]
    have := Int64.lt_iff_toInt_lt.mp h1
    exact ⟨⟨fun _ => this, fun _ => by decide⟩, ⟨fun h => absurd h (by decide), fun h => by omega⟩⟩
  · rw [if_neg h1]
    have h2 : ¬ y.toInt < x.toInt := fun q => h1 (Int64.lt_iff_toInt_lt.mpr q)
    by_cases h3 : x = y
    · rw [if_pos h3]
      subst h3
      exact ⟨⟨fun h => absurd h (by decide), fun h => by omega⟩, ⟨fun h => absurd h (by decide), fun h => by omega⟩⟩
    · rw [if_neg h3]
      have h4 : x.toInt ≠ y.toInt := fun q => h3 (Int64.toInt_inj.mp q)
      exact ⟨⟨fun h => absurd h (by decide), fun h => by omega⟩, ⟨fun _ => by omega, fun _ => by decide⟩⟩
theorem own_he_f {hc : Int32} (h : own_R4 hc) : own_F (own_he hc) ∧ (own_z (own_he hc) < own_z (4602678819172646912 : UInt64) ↔ hc < 2) := by
  rcases h with rfl | rfl | rfl | rfl
  · exact ⟨⟨0, -1074, by decide +kernel⟩, by decide +kernel⟩
  · exact ⟨⟨4503599627370496, -54, by decide +kernel⟩, by decide +kernel⟩
  · exact ⟨⟨4503599627370496, -53, by decide +kernel⟩, by decide +kernel⟩
  · exact ⟨⟨6755399441055744, -53, by decide +kernel⟩, by decide +kernel⟩
theorem own_zHalf : own_z (4602678819172646912 : UInt64) * 2 = (own_P : Int) := by
  have := own_z_sc own_cHalf (by decide)
  rwa [Int.one_mul] at this
theorem own_FHalf : own_F (4602678819172646912 : UInt64) := own_F_D own_cHalf (by decide)
theorem own_int {x : Int64} (h1 : 1 ≤ x.toInt) (h2 : x.toInt ≤ 5000000000) : own_D x.toInt 0 (FP.l2d x) ∧ own_F (FP.l2d x) ∧ own_z (FP.l2d x) = x.toInt * (own_P : Int) ∧ (own_P : Int) ≤ own_z (FP.l2d x) := by
  have a := own_d_l2d (x := x) (by omega)
  have b := own_z_int a
  refine ⟨a, own_F_D a (by omega), b, ?_⟩
  rw [b]
  have := Int.mul_le_mul_of_nonneg_right h1 (Int.le_of_lt own_PP)
  rwa [Int.one_mul] at this
theorem own_fast_f {fk : Int32} {F : Int64} (h : own_R4 fk) (h1 : 1 ≤ F.toInt) (h2 : F.toInt ≤ 65536) : own_F (own_fast fk F) ∧ (own_z (own_fast fk F) < (own_P : Int) ↔ fk < 2) ∧ (¬ fk < 2 → own_fast fk F = FP.l2d F) := by
  obtain ⟨a, b, c, d⟩ := own_int h1 (by omega)
  have P0 := own_PP
  have e2 : own_fast 2 F = FP.l2d F := rfl
  have e3 : own_fast 3 F = FP.l2d F := rfl
  rcases h with rfl | rfl | rfl | rfl
  · refine ⟨own_F0, ?_, fun q => absurd (by decide) q⟩
    show own_z FP.dconst0 < _ ↔ _
    rw [own_z0]; exact ⟨fun _ => by decide, fun _ => P0⟩
  · refine ⟨own_FHalf, ?_, fun q => absurd (by decide) q⟩
    have := own_zHalf
    exact ⟨fun _ => by decide, fun _ => by show own_z (4602678819172646912 : UInt64) < _; omega⟩
  · rw [e2]; exact ⟨b, ⟨fun q => by omega, fun q => absurd q (by decide)⟩, fun _ => rfl⟩
  · rw [e3]; exact ⟨b, ⟨fun q => by omega, fun q => absurd q (by decide)⟩, fun _ => rfl⟩
theorem own_lim_f {lo fk : Int32} {F m : Int64} (h : own_R4 fk) (h1 : 1 ≤ F.toInt) (h2 : F.toInt ≤ 65536) (m1 : 1 ≤ m.toInt) (m2 : m.toInt ≤ 65536) : own_F (own_lim lo fk F m) ∧ (0 < own_z (own_lim lo fk F m) ↔ ¬ lo = 0 ∧ ¬ fk = 0) ∧ (¬ fk < 2 → ¬ lo = 0 → own_D (F.toInt * m.toInt) 0 (own_lim lo fk F m)) := by
  obtain ⟨a, b, c, d⟩ := own_int h1 (by omega)
  obtain ⟨a', b', c', d'⟩ := own_int m1 (by omega)
  have P0 := own_PP
  unfold own_lim
  by_cases hl : lo = 0
  · rw [if_pos hl, own_z0]
    exact ⟨own_F0, ⟨fun q => absurd q (by decide), fun q => absurd hl q.1⟩, fun _ q => absurd hl q⟩
  · rw [if_neg hl]
    have big : own_D (F.toInt * m.toInt) 0 (FP.dmul (FP.l2d F) (FP.l2d m)) := by
      have u : F.toInt * m.toInt ≤ 65536 * 65536 := Int.mul_le_mul h2 m2 (by omega) (by decide)
      have v : 1 ≤ F.toInt * m.toInt := Int.le_trans (by decide) (Int.mul_le_mul h1 m1 (by decide) (by omega))
      have := own_d_mul a a' (by omega) (by decide) (by decide)
      rwa [Int.add_zero] at this
    have bigz : 0 < own_z (FP.dmul (FP.l2d F) (FP.l2d m)) := by
      rw [own_z_int big]; exact Int.mul_pos (Int.mul_pos (by omega) (by omega)) P0
    have bigF : own_F (FP.dmul (FP.l2d F) (FP.l2d m)) := own_F_D big (Int.mul_pos (by omega) (by omega))
    rcases h with rfl | rfl | rfl | rfl
    · have q := own_mul_hi own_F0 b' own_F0 (by rw [own_z0, Int.zero_mul, Int.zero_mul]; exact Int.le_refl _)
      refine ⟨q.1, ⟨fun h => ?_, fun h => absurd rfl h.2⟩, fun h => absurd (by decide) h⟩
      have := q.2
      rw [own_z0] at this
      exact absurd h (Int.not_lt.mpr this)
    · have q := own_dmulc own_cHalf a' (by omega) (by decide)
      refine ⟨own_F_D q (by omega), ⟨fun _ => ⟨hl, by decide⟩, fun _ => ?_⟩, fun h => absurd (by decide) h⟩
      have e := own_z_sc q (by decide)
      have := Int.mul_pos (show (0 : Int) < 1 * m.toInt by omega) P0
      rw [← e, show ((2 ^ 1 : Nat) : Int) = 2 from rfl] at this
      show 0 < own_z (FP.dmul (4602678819172646912 : UInt64) (FP.l2d m))
      omega
    · exact ⟨bigF, ⟨fun _ => ⟨hl, by decide⟩, fun _ => bigz⟩, fun _ _ => big⟩
    · exact ⟨bigF, ⟨fun _ => ⟨hl, by decide⟩, fun _ => bigz⟩, fun _ _ => big⟩
theorem own_used_f {uk : Int32} {G D dd : Int64} (h : own_R4 uk) (g1 : 20 ≤ G.toInt) (g2 : G.toInt ≤ 65555) (d1 : 1 ≤ D.toInt) (d2 : 10 * D.toInt ≤ 9 * G.toInt) (e1 : 0 ≤ dd.toInt) (e2 : dd.toInt ≤ 65535) :
    own_F (own_used uk G D dd) ∧ (own_z (own_used uk G D dd) < (own_P : Int) ↔ uk < 2) ∧ (uk = 2 → own_used uk G D dd = FP.l2d D) ∧ (uk = 3 → own_D (G.toInt + dd.toInt) 0 (own_used uk G D dd)) := by
  obtain ⟨a, b, c, d⟩ := own_int d1 (by omega)
  have hs : (G + dd).toInt = G.toInt + dd.toInt := int64_add (by omega) (by omega)
  obtain ⟨a', b', c', d'⟩ := own_int (x := G + dd) (by omega) (by omega)
  have P0 := own_PP
  rcases h with rfl | rfl | rfl | rfl
  · refine ⟨own_F0, ?_, fun q => absurd q (by decide), fun q => absurd q (by decide)⟩
    show own_z FP.dconst0 < _ ↔ _
    rw [own_z0]; exact ⟨fun _ => by decide, fun _ => P0⟩
  · refine ⟨own_FHalf, ?_, fun q => absurd q (by decide), fun q => absurd q (by decide)⟩
    have := own_zHalf
    exact ⟨fun _ => by decide, fun _ => by show own_z (4602678819172646912 : UInt64) < _; omega⟩
  · exact ⟨b, ⟨fun q => absurd (Int.lt_of_le_of_lt d q) (Int.lt_irrefl _), fun q => absurd q (by decide)⟩, fun _ => rfl, fun q => absurd q (by decide)⟩
  · rw [hs] at a'
    exact ⟨b', ⟨fun q => absurd (Int.lt_of_le_of_lt d' q) (Int.lt_irrefl _), fun q => absurd q (by decide)⟩, fun q => absurd q (by decide), fun _ => a'⟩
theorem own_pd {x p : Int64} {e : Nat} (h1 : 1 ≤ x.toInt) (h2 : x.toInt ≤ 5000000000) (he : e ≤ 31) (hp : p.toInt = ((2 ^ e : Nat) : Int)) : own_D x.toInt (-(e : Int)) (FP.ddiv (FP.l2d x) (FP.l2d p)) := by
  have pe : (2 ^ e : Nat) ≤ 2 ^ 31 := Nat.pow_le_pow_right (by decide) he
  have pe0 := Nat.two_pow_pos e
  have a := own_d_l2d (x := x) (by omega)
  have b := own_d_l2d (x := p) (by omega)
  rw [hp, ← Int.one_mul ((2 ^ e : Nat) : Int)] at b
  have b' := own_d_unscale e b
  rw [Int.zero_add] at b'
  refine own_d_div (m := 1) (l := (e : Int)) (by decide) ?_ b' (by omega) (by omega) (by omega)
  rw [Int.mul_one, Int.add_left_neg]
  exact a
theorem own_oth_f {oo uk : Int32} {G D m c p : Int64} {e : Nat} (g1 : 20 ≤ G.toInt) (g2 : G.toInt ≤ 65555) (d1 : 1 ≤ D.toInt) (d2 : 10 * D.toInt ≤ 9 * G.toInt) (m1 : 1 ≤ m.toInt) (m2 : m.toInt ≤ 65536) (c1 : 1 ≤ c.toInt) (c2 : c.toInt ≤ 256) (he : e ≤ 31) (hp : p.toInt = ((2 ^ e : Nat) : Int)) :
    own_F (own_oth oo uk G D m c p) ∧ (0 < own_z (own_oth oo uk G D m c p) ↔ ¬ oo = 0) ∧ (¬ oo = 0 → uk = 3 → own_D (m.toInt * G.toInt) 0 (own_oth oo uk G D m c p)) ∧ (¬ oo = 0 → ¬ uk = 3 → own_D ((G.toInt - D.toInt) * c.toInt) (-(e : Int)) (own_oth oo uk G D m c p)) := by
  have P0 := own_PP
  unfold own_oth
  by_cases ho : oo = 0
  · rw [if_pos ho, own_z0]
    exact ⟨own_F0, ⟨fun q => absurd q (by decide), fun q => absurd ho q⟩, fun q => absurd ho q, fun q => absurd ho q⟩
  · rw [if_neg ho]
    have u : m.toInt * G.toInt ≤ 65536 * 65555 := Int.mul_le_mul m2 g2 (by omega) (by decide)
    have v : 1 ≤ m.toInt * G.toInt := Int.le_trans (by decide) (Int.mul_le_mul m1 (show 1 ≤ G.toInt by omega) (by decide) (by omega))
    have hm : (m * G).toInt = m.toInt * G.toInt := int64_mul (by omega) (by omega)
    have hs : (G - D).toInt = G.toInt - D.toInt := int64_sub (by omega) (by omega)
    have u' : (G.toInt - D.toInt) * c.toInt ≤ 65555 * 256 := Int.mul_le_mul (by omega) c2 (by omega) (by decide)
    have v' : 1 ≤ (G.toInt - D.toInt) * c.toInt := Int.le_trans (by decide) (Int.mul_le_mul (show 1 ≤ G.toInt - D.toInt by omega) c1 (by decide) (by omega))
    have hc : ((G - D) * c).toInt = (G.toInt - D.toInt) * c.toInt := by rw [int64_mul (by rw [hs]; omega) (by rw [hs]; omega), hs]
    by_cases hu : uk = 3
    · rw [if_pos hu]
      obtain ⟨a, b, z, d⟩ := own_int (x := m * G) (by omega) (by omega)
      rw [hm] at a
      exact ⟨b, ⟨fun _ => ho, fun _ => Int.lt_of_lt_of_le P0 d⟩, fun _ _ => a, fun _ q => absurd hu q⟩
    · rw [if_neg hu]
      have a := own_pd (x := (G - D) * c) (by omega) (by omega) he hp
      rw [hc] at a
      have fa := own_F_D a (by omega)
      refine ⟨fa, ⟨fun _ => ho, fun _ => ?_⟩, fun _ q => absurd q hu, fun _ _ => a⟩
      have z := own_z_sc a (by omega)
      have t := Int.mul_pos (show 0 < (G.toInt - D.toInt) * c.toInt by omega) P0
      rw [← z] at t
      exact Int.pos_of_mul_pos_left t (own_T e) |> fun h => h
end OwnFm
section OwnFz
open Jvm.FP Jvm.FP.Core
theorem own_mx {w q l k : Int} (hz : w = max (min q l) k) : (q ≤ l → k ≤ q → w = q) ∧ (q ≤ l → q ≤ k → w = k) ∧ (l ≤ q → k ≤ l → w = l) ∧ (l ≤ q → l ≤ k → w = k) := by omega
set_option maxHeartbeats 4000000 in
/-- FlowShare.weight at the law's arguments -/
theorem own_main {hc fk lo uk oo : Int32} {G D m F c p dd : Int64} {e : Nat} (B : own_B G D m F c p dd e) (hh : own_R4 hc) (hf : own_R4 fk) (hu : own_R4 uk) {li us fa he ot g w : UInt64}
    (eli : li = own_lim lo fk F m) (eus : us = own_used uk G D dd) (efa : fa = own_fast fk F) (ehe : he = own_he hc) (eot : ot = own_oth oo uk G D m c p) (eg : g = FP.l2d G) (ew : w = own_wt li us fa he ot g) :
    (Jvm.Free.Fl.NoNaN64 us ∧ Jvm.Free.Fl.NoNaN64 (own_X g) ∧ Jvm.Free.Fl.NoNaN64 (FP.ddiv (own_U us g) FP.dconst1) ∧ (¬ own_cl fa FP.dconst1 < (0 : Int32) → (0 : Int32) < own_cl li FP.dconst0 → Jvm.Free.Fl.NoNaN64 (FP.ddiv li fa)) ∧
      (¬ own_cg us FP.dconst1 < (0 : Int32) → (0 : Int32) < own_cl ot FP.dconst0 → Jvm.Free.Fl.NoNaN64 (FP.dmul (own_U us g) ot) ∧ Jvm.Free.Fl.NoNaN64 (FP.dsub g (own_U us g)) ∧ Jvm.Free.Fl.NoNaN64 (own_quo us ot g) ∧ Jvm.Free.Fl.NoNaN64 (FP.ddiv (own_U us g) g))) ∧
    (¬ hc < 2 → ¬ fk < 2 → ¬ lo = 0 → own_cl w (FP.l2d m) = (0 : Int32)) ∧
    (¬ hc < 2 → (fk < 2 ∨ lo = 0) → (lo = 0 ∨ fk = 0 ∨ uk < 2) → own_cl w FP.dconst1 = (0 : Int32)) ∧
    (hc < 2 → uk < 2 → own_cl w FP.dconst0 = (0 : Int32)) ∧
    ((hc < 2 ∨ ((fk < 2 ∨ lo = 0) ∧ ¬ lo = 0 ∧ ¬ fk = 0)) → ¬ uk < 2 → (oo = 0 → own_cl w FP.dconst1 = (0 : Int32)) ∧
      (¬ oo = 0 → uk = 3 → ((¬ fk < 2 ∧ ¬ lo = 0) → own_cl w (FP.l2d m) = (0 : Int32)) ∧ ((fk < 2 ∨ lo = 0) → own_cl w (FP.dmul (4606732058837280358 : UInt64) g) = (0 : Int32))) ∧
      (¬ oo = 0 → ¬ uk = 3 → ∀ ct : Int32, (ct = 0 ↔ (fk < 2 ∨ lo = 0)) → own_cl w (own_share ct D G m c p) = (0 : Int32))) := by
  obtain ⟨g1, g2, d1, d2, m1, m2, f1, f2, c1, c2, e1, hp, dd1, dd2⟩ := B
  obtain ⟨aG, bG, zG, pG⟩ := own_int (x := G) (by omega) (by omega)
  obtain ⟨aD, bD, zD, pD⟩ := own_int (x := D) (by omega) (by omega)
  obtain ⟨am, bm, zm, pm⟩ := own_int (x := m) (by omega) (by omega)
  obtain ⟨aF, bF, zF, pF⟩ := own_int (x := F) (by omega) (by omega)
  obtain ⟨fh, vh⟩ := own_he_f hh
  obtain ⟨ff, vf, wf⟩ := own_fast_f (F := F) hf f1 f2
  obtain ⟨fl, vl, wl⟩ := own_lim_f (lo := lo) (F := F) (m := m) hf f1 f2 m1 m2
  obtain ⟨fu, vu, w2, w3⟩ := own_used_f (dd := dd) hu g1 g2 d1 d2 dd1 dd2
  obtain ⟨fo, vo, o3, o2⟩ := own_oth_f (oo := oo) (uk := uk) g1 g2 d1 d2 m1 m2 c1 c2 e1 hp
  rw [← eli] at fl vl wl
  rw [← eus] at fu vu w2 w3
  rw [← efa] at ff vf wf
  rw [← ehe] at fh vh
  rw [← eot] at fo vo o3 o2
  rw [← eg] at aG bG zG pG
  have P0 := own_PP
  obtain ⟨fX, Xlo, Xhi⟩ := own_X_b aG (by omega) g2
  -- the conditions, in values
  have kA := (own_cv (own_F_ne ff) (own_F_ne own_F1) .l).1
  have kB := (own_cv (own_F_ne fl) (own_F_ne own_F0) .l).2.1
  have kZ := (own_cv (own_F_ne fl) (own_F_ne own_F0) .l).2.2
  have kH := (own_cv (own_F_ne fh) (own_F_ne own_FHalf) .l).1
  have kS := (own_cv (own_F_ne fu) (own_F_ne own_F1) .g).1
  have kO := (own_cv (own_F_ne fo) (own_F_ne own_F0) .l).2.1
  rw [own_z1, vf] at kA
  rw [own_z0, vl] at kB
  rw [vh] at kH
  rw [own_z1, vu] at kS
  rw [own_z0, vo] at kO
  have kZ' : own_cl li FP.dconst0 = (0 : Int32) ↔ ¬ (¬ lo = 0 ∧ ¬ fk = 0) := by
    rw [kZ, own_z0, ← vl]
    have := own_z_nonneg fl
    omega
  -- U
  have fU : own_F (own_U us g) := by
    rcases own_pick_min (own_F_ne fu) (own_F_ne fX) with ⟨q, -⟩ | ⟨q, -⟩ <;> (unfold own_U; rw [q]; assumption)
  obtain ⟨fU1, zU1⟩ := own_div1 fU
  -- counted
  have hq : ¬ fk < 2 → ¬ lo = 0 → own_D m.toInt 0 (FP.ddiv li fa) := fun q1 q2 => by
    have a := wl q1 q2
    rw [wf q1]
    refine own_d_div (m := F.toInt) (l := 0) (by omega) ?_ aF (by omega) (by decide) (by decide)
    rw [Int.add_zero, Int.mul_comm]; exact a
  have fk0 : ¬ fk < 2 → ¬ fk = 0 := fun q r => q (by rw [r]; decide)
  have L8c : ¬ fk < 2 → ¬ lo = 0 → own_L8 li us fa g = FP.ddiv li fa := fun q1 q2 => by
    unfold own_L8; rw [if_neg (fun q => q1 (kA.mp q)), if_pos (kB.mpr ⟨q2, fk0 q1⟩)]
  have L8n : (fk < 2 ∨ lo = 0) → own_L8 li us fa g = FP.ddiv (own_U us g) FP.dconst1 := fun q => by
    unfold own_L8
    by_cases h : fk < 2
    · rw [if_pos (kA.mpr h)]
    · rw [if_neg (fun r => h (kA.mp r)), if_neg (fun r => (kB.mp r).1 (q.resolve_left h))]
  have L8no : val64 (own_L8 li us fa g) ≠ .nan := by
    by_cases h : fk < 2 ∨ lo = 0
    · rw [L8n h]; exact own_F_ne fU1
    · rw [L8c (fun q => h (Or.inl q)) (fun q => h (Or.inr q))]; exact own_d_ne (hq (fun q => h (Or.inl q)) (fun q => h (Or.inr q)))
  have uk2 : ¬ uk < 2 → ¬ uk = 3 → uk = 2 := fun q1 q2 => by
    rcases hu with r | r | r | r
    · exact absurd (by rw [r]; decide) q1
    · exact absurd (by rw [r]; decide) q1
    · exact r
    · exact absurd r q2
  -- the capped and the open case
  have cap : uk = 3 → ¬ oo = 0 → own_U us g = own_X g ∧ _ := fun q1 q2 => ⟨own_U_c aG (by omega) g2 (w3 q1) (by omega), own_cap aG (by omega) g2 m1 m2 (o3 q2 q1)⟩
  have opn : uk = 2 → ¬ oo = 0 → _ := fun q1 q2 => own_quo_d (c := c.toInt) (e := e) aG g2 ((w2 q1) ▸ aD) d1 d2 c1 c2 e1 (o2 q2 (by rw [q1]; decide))
  refine ⟨⟨own_F_no fu, own_F_no fX, own_F_no fU1, fun q1 q2 => own_d_no (hq (fun q => q1 (kA.mpr q)) (kB.mp q2).1), fun q1 q2 => ?_⟩, ?_, ?_, ?_, ?_⟩
  · have r1 : ¬ uk < 2 := fun q => q1 (kS.mpr q)
    have r2 := kO.mp q2
    by_cases h3 : uk = 3
    · obtain ⟨u1, t1, t2, t3, -, t5, -⟩ := cap h3 r2
      unfold own_quo
      rw [u1]
      exact ⟨Jvm.Free.Fl.val64_no.mpr t1, Jvm.Free.Fl.val64_no.mpr t2, Jvm.Free.Fl.val64_no.mpr t3, Jvm.Free.Fl.val64_no.mpr t5⟩
    · obtain ⟨t1, t2, t3, t4⟩ := opn (uk2 r1 h3) r2
      exact ⟨t1, t2, own_d_no t3, t4⟩
  · intro q1 q2 q3
    have hw : w = FP.ddiv li fa := by
      rw [ew]; unfold own_wt
      rw [if_neg (fun q => q1 (kH.mp q)), if_pos ⟨fun q => q2 (kA.mp q), kB.mpr ⟨q3, fk0 q2⟩⟩, L8c q2 q3]
    rw [hw]
    exact own_eqz (own_d_ne (hq q2 q3)) (own_F_ne bm) (by rw [own_z_int (hq q2 q3), zm])
  · intro q1 q2 q3
    have hw : w = FP.dconst1 := by
      rw [ew]; unfold own_wt
      rw [if_neg (fun q => q1 (kH.mp q)), if_neg (fun q => by
        rcases q2 with r | r
        · exact q.1 (kA.mpr r)
        · exact (kB.mp q.2).1 r)]
      by_cases h : lo = 0 ∨ fk = 0
      · rw [if_pos (kZ'.mpr (fun q => h.elim q.1 q.2))]
      · rw [if_neg (fun q => kZ'.mp q ⟨fun r => h (Or.inl r), fun r => h (Or.inr r)⟩), if_pos (kS.mpr (q3.elim (fun r => absurd (Or.inl r) h) (fun r => r.elim (fun r => absurd (Or.inr r) h) id)))]
    rw [hw]
    exact own_eqz (own_F_ne own_F1) (own_F_ne own_F1) rfl
  · intro q1 q2
    have hw : w = FP.dconst0 := by
      rw [ew]; unfold own_wt
      rw [if_pos (kH.mpr q1), if_pos (kS.mpr q2)]
    rw [hw]
    exact own_eqz (own_F_ne own_F0) (own_F_ne own_F0) rfl
  · intro q1 q2
    have hw : w = own_tail (own_L8 li us fa g) us ot g := by
      rw [ew]; unfold own_wt
      by_cases h : hc < 2
      · rw [if_pos (kH.mpr h), if_neg (fun q => q2 (kS.mp q))]
      · obtain ⟨r1, r2⟩ := q1.resolve_left h
        rw [if_neg (fun q => h (kH.mp q)), if_neg (fun q => by
          rcases r1 with r | r
          · exact q.1 (kA.mpr r)
          · exact r2.1 r), if_neg (fun q => kZ'.mp q r2), if_neg (fun q => q2 (kS.mp q))]
    unfold own_tail at hw
    refine ⟨fun ho => ?_, fun ho h3 => ?_, fun ho h3 ct hct => ?_⟩
    · rw [if_neg (fun q => kO.mp q ho)] at hw
      rw [hw]
      exact own_eqz (own_F_ne own_F1) (own_F_ne own_F1) rfl
    · rw [if_pos (kO.mpr ho)] at hw
      obtain ⟨u1, t1, t2, t3, t4, t5, t6, t7⟩ := cap h3 ho
      unfold own_quo at hw
      rw [u1] at hw
      obtain ⟨hn, hz⟩ := own_mm t3 L8no t5
      rw [← hw] at hn hz
      have mg : 1 * G.toInt ≤ m.toInt * G.toInt := Int.mul_le_mul_of_nonneg_right m1 (by omega)
      have mg2 : m.toInt * 1 ≤ m.toInt * G.toInt := Int.mul_le_mul_of_nonneg_left (by omega) (by omega)
      refine ⟨fun hcn => ?_, fun hcn => ?_⟩
      · refine own_eqz hn (own_F_ne bm) ?_
        rw [L8c hcn.1 hcn.2, own_z_int (hq hcn.1 hcn.2)] at hz
        rw [zm]
        have a := Int.mul_le_mul_of_nonneg_right (show m.toInt ≤ 15 * (m.toInt * G.toInt) by omega) (Int.le_of_lt P0)
        rw [zm] at pm
        exact (own_mx hz).2.2.1 (Int.le_trans a t4) (Int.le_trans t6 pm)
      · refine own_eqz hn (own_F_ne fX) ?_
        rw [L8n hcn, zU1, u1] at hz
        have a := Int.mul_le_mul_of_nonneg_right (show G.toInt ≤ 15 * (m.toInt * G.toInt) by omega) (Int.le_of_lt P0)
        show _ = own_z (own_X g)
        refine (own_mx hz).2.2.1 (Int.le_trans (Int.le_trans ?_ a) t4) t7
        clear hz
        generalize G.toInt * (own_P : Int) = y at *
        generalize own_z (own_X g) = x at *
        clear t4 t6 t7 a
        omega
    · rw [if_pos (kO.mpr ho)] at hw
      have h2 := uk2 q2 h3
      obtain ⟨t1, t2, t3, t4⟩ := opn h2 ho
      have hus := w2 h2
      have aus : own_D D.toInt 0 us := hus ▸ aD
      have hU := own_U_d aG (by omega) g2 aus d1 d2
      obtain ⟨hn, hz⟩ := own_mm (own_d_ne t3) L8no (Jvm.Free.Fl.val64_no.mp t4)
      rw [← hw] at hn hz
      have b3 : D.toInt * c.toInt ≤ 65555 * 256 := Int.mul_le_mul (by omega) c2 (by omega) (by decide)
      have b3' : 1 ≤ D.toInt * c.toInt := Int.le_trans (by decide) (Int.mul_le_mul d1 c1 (by decide) (by omega))
      have hDc : (D * c).toInt = D.toInt * c.toInt := int64_mul (by omega) (by omega)
      have mid := own_pd (x := D * c) (by omega) (by omega) e1 hp
      rw [hDc] at mid
      have zmid : own_z (own_quo us ot g) = own_z (FP.ddiv (FP.l2d (D * c)) (FP.l2d p)) := by
        have x1 := own_z_sc t3 (by omega)
        have x2 := own_z_sc mid (by omega)
        exact Int.eq_of_mul_eq_mul_right (Int.ne_of_gt (own_T e)) (x1.trans x2.symm)
      replace hz : own_z w = max (min (own_z (FP.ddiv (FP.l2d (D * c)) (FP.l2d p))) (own_z (own_L8 li us fa g))) (own_z (FP.ddiv (FP.l2d D) g)) := by rw [hz, zmid, hU, ← hus]
      have e31 : (2 ^ e : Nat) ≤ 2 ^ 31 := Nat.pow_le_pow_right (by decide) e1
      have e0 := Nat.two_pow_pos e
      have cg : c.toInt * G.toInt ≤ 256 * 65555 := Int.mul_le_mul c2 g2 (by omega) (by decide)
      have cg' : 1 ≤ c.toInt * G.toInt := Int.le_trans (by decide) (Int.mul_le_mul c1 (show 1 ≤ G.toInt by omega) (by decide) (by omega))
      have hcG : (c * G).toInt = c.toInt * G.toInt := int64_mul (by omega) (by omega)
      have mg : m.toInt * G.toInt ≤ 65536 * 65555 := Int.mul_le_mul m2 g2 (by omega) (by decide)
      have mg' : 1 ≤ m.toInt * G.toInt := Int.le_trans (by decide) (Int.mul_le_mul m1 (show 1 ≤ G.toInt by omega) (by decide) (by omega))
      have hmG : (m * G).toInt = m.toInt * G.toInt := int64_mul (by omega) (by omega)
      have mp : m.toInt * ((2 ^ e : Nat) : Int) ≤ 65536 * 2147483648 := Int.mul_le_mul m2 (by omega) (by omega) (by decide)
      have mp' : 0 ≤ m.toInt * ((2 ^ e : Nat) : Int) := Int.mul_nonneg (by omega) (by omega)
      have hmp : (m * p).toInt = m.toInt * ((2 ^ e : Nat) : Int) := by rw [int64_mul (by rw [hp]; omega) (by rw [hp]; omega), hp]
      -- the low share against the others
      have lowmid := own_low aG (by omega) aus d1 mid b3' e1
      rw [hus] at lowmid
      have lowm := own_low (e := 0) aG (by omega) aus d1 am m1 (by decide)
      rw [hus, show ((2 ^ 0 : Nat) : Int) = 1 from rfl, Int.mul_one] at lowm
      have lowd := (own_low (e := 0) aG (by omega) aus d1 aD d1 (by decide)).1 (by
        rw [show ((2 ^ 0 : Nat) : Int) = 1 from rfl]; exact Int.mul_le_mul_of_nonneg_left (by omega) (by omega))
      rw [hus] at lowd
      have midm := own_z_le mid am e1
      have midd := own_z_le mid aD e1
      have scale : (((2 ^ e : Nat) : Int) ≤ c.toInt * G.toInt → own_z (FP.ddiv (FP.l2d D) g) ≤ own_z (FP.ddiv (FP.l2d (D * c)) (FP.l2d p))) ∧ (c.toInt * G.toInt ≤ ((2 ^ e : Nat) : Int) → own_z (FP.ddiv (FP.l2d (D * c)) (FP.l2d p)) ≤ own_z (FP.ddiv (FP.l2d D) g)) := by
        refine ⟨fun h => lowmid.1 ?_, fun h => lowmid.2 ?_⟩
        · rw [Int.mul_assoc]; exact Int.mul_le_mul_of_nonneg_left h (by omega)
        · rw [Int.mul_assoc]; exact Int.mul_le_mul_of_nonneg_left h (by omega)
      have lowne : val64 (FP.ddiv (FP.l2d D) g) ≠ .nan := by have := Jvm.Free.Fl.val64_no.mp t4; rwa [hU, hus] at this
      have fin : ∀ v : UInt64, val64 v ≠ .nan → own_z w = own_z v → own_cl w v = (0 : Int32) := fun v a b => own_eqz hn a b
      have lcG := own_cmpL (c * G) p
      rw [hcG, hp] at lcG
      unfold own_share
      rw [← eg]
      by_cases hcn : fk < 2 ∨ lo = 0
      · rw [if_pos (hct.mpr hcn)]
        rw [L8n hcn, zU1, hU, hus] at hz
        have lcp := own_cmpL c p
        rw [hp] at lcp
        by_cases k1 : (0 : Int32) < XT.cmpL c p
        · rw [if_pos k1]
          refine fin _ (own_F_ne bD) ?_
          exact (own_mx hz).2.2.1 (midd.2 (Int.mul_le_mul_of_nonneg_left (Int.le_of_lt (lcp.1.mp k1)) (Int.le_trans (by decide) d1))) lowd
        · rw [if_neg k1]
          have r := midd.1 (Int.mul_le_mul_of_nonneg_left (Int.not_lt.mp (fun q => k1 (lcp.1.mpr q))) (Int.le_trans (by decide) d1))
          by_cases k2 : XT.cmpL (c * G) p < (0 : Int32)
          · rw [if_pos k2]
            exact fin _ lowne ((own_mx hz).2.1 r (scale.2 (Int.le_of_lt (lcG.2.mp k2))))
          · rw [if_neg k2]
            exact fin _ (own_d_ne mid) ((own_mx hz).1 r (scale.1 (Int.not_lt.mp (fun q => k2 (lcG.2.mpr q)))))
      · have n1 : ¬ fk < 2 := fun q => hcn (Or.inl q)
        have n2 : ¬ lo = 0 := fun q => hcn (Or.inr q)
        rw [if_neg (fun q => hcn (hct.mp q))]
        rw [L8c n1 n2, own_z_int (hq n1 n2), ← zm] at hz
        have lmp := own_cmpL (D * c) (m * p)
        rw [hDc, hmp] at lmp
        have lmG := own_cmpL (m * G) D
        rw [hmG] at lmG
        by_cases k1 : (0 : Int32) < XT.cmpL (D * c) (m * p)
        · rw [if_pos k1]
          have r := midm.2 (Int.le_of_lt (lmp.1.mp k1))
          by_cases k2 : XT.cmpL (m * G) D < (0 : Int32)
          · rw [if_pos k2]
            exact fin _ lowne ((own_mx hz).2.2.2 r (lowm.2 (Int.le_of_lt (lmG.2.mp k2))))
          · rw [if_neg k2]
            exact fin _ (own_F_ne bm) ((own_mx hz).2.2.1 r (lowm.1 (Int.not_lt.mp (fun q => k2 (lmG.2.mpr q)))))
        · rw [if_neg k1]
          have r := midm.1 (Int.not_lt.mp (fun q => k1 (lmp.1.mpr q)))
          by_cases k2 : XT.cmpL (c * G) p < (0 : Int32)
          · rw [if_pos k2]
            exact fin _ lowne ((own_mx hz).2.1 r (scale.2 (Int.le_of_lt (lcG.2.mp k2))))
          · rw [if_neg k2]
            exact fin _ (own_d_ne mid) ((own_mx hz).1 r (scale.1 (Int.not_lt.mp (fun q => k2 (lcG.2.mpr q)))))
end OwnFz
section OwnFa
open Jvm.FP Jvm.FP.Core
theorem own_a3 (x : Int32) : own_R4 (x &&& (3 : Int32)) := by
  have h := c_and x 3 (by decide)
  rw [show (3 : Int32).toInt = 3 by decide] at h
  generalize x &&& (3 : Int32) = u at *
  have : u.toInt = 0 ∨ u.toInt = 1 ∨ u.toInt = 2 ∨ u.toInt = 3 := by omega
  rcases this with r | r | r | r
  · exact Or.inl (Int32.toInt_inj.mp r)
  · exact Or.inr (Or.inl (Int32.toInt_inj.mp r))
  · exact Or.inr (Or.inr (Or.inl (Int32.toInt_inj.mp r)))
  · exact Or.inr (Or.inr (Or.inr (Int32.toInt_inj.mp r)))
theorem own_ab {b w x : Int32} (hb : 0 ≤ b.toInt) (hb' : b.toInt ≤ 100) (hw : 0 ≤ w.toInt) (hw' : w.toInt ≤ 65535) : b.toInt ≤ ((b + (x &&& w)).toInt64).toInt ∧ ((b + (x &&& w)).toInt64).toInt ≤ b.toInt + w.toInt := by
  have h := c_and x w hw
  rw [c_i2l]
  generalize x &&& w = u at *
  have hc := c_iadd b u
  have r := rng32 (b + u)
  omega
theorem own_aD {G X : Int64} (g1 : 20 ≤ G.toInt) (g2 : G.toInt ≤ 65555) (hX : 0 ≤ X.toInt) : ¬ ((9 : Int64) * G) / (10 : Int64) = 0 ∧ 1 ≤ ((1 : Int64) + (X - (X / (((9 : Int64) * G) / (10 : Int64))) * (((9 : Int64) * G) / (10 : Int64)))).toInt ∧
    10 * ((1 : Int64) + (X - (X / (((9 : Int64) * G) / (10 : Int64))) * (((9 : Int64) * G) / (10 : Int64)))).toInt ≤ 9 * G.toInt := by
  have h9 : ((9 : Int64) * G).toInt = 9 * G.toInt := by
    have := int64_mul (a := (9 : Int64)) (b := G) (by rw [show (9 : Int64).toInt = 9 by decide]; omega) (by rw [show (9 : Int64).toInt = 9 by decide]; omega)
    rw [this]; rfl
  have hY := (c_ldiv ((9 : Int64) * G) 10 10 (by decide) (by decide)).1 (by omega)
  rw [h9] at hY
  generalize ((9 : Int64) * G) / (10 : Int64) = Y at *
  have hr := (c_lrem X Y _ hY).1 hX
  have e1 := Int.emod_nonneg X.toInt (b := 9 * G.toInt / 10) (by omega)
  have e2 := Int.emod_lt_of_pos X.toInt (b := 9 * G.toInt / 10) (by omega)
  rw [← hr] at e1 e2
  generalize X - (X / Y) * Y = W at *
  have hs := c_ladd 1 W
  rw [show (1 : Int64).toInt = 1 by decide] at hs
  have r := rng64 (1 + W)
  refine ⟨fun q => ?_, ?_, ?_⟩
  · rw [q, show (0 : Int64).toInt = 0 by decide] at hY
    omega
  · omega
  · omega
theorem own_aB {gg d0 m0 f0 k0 : Int32} {u : Int32} {G D m F c p : Int64} (eG : G = ((20 : Int32) + (gg &&& (65535 : Int32))).toInt64) (eD : D = (1 : Int64) + ((d0 &&& (2147483647 : Int32)).toInt64 - ((d0 &&& (2147483647 : Int32)).toInt64 / (((9 : Int64) * G) / (10 : Int64))) * (((9 : Int64) * G) / (10 : Int64))))
    (em : m = ((1 : Int32) + (m0 &&& (65535 : Int32))).toInt64) (eF : F = ((1 : Int32) + (f0 &&& (65535 : Int32))).toInt64) (ec : c = ((1 : Int32) + (k0 &&& (255 : Int32))).toInt64) (ep : p = (1 : Int64) <<< ((u &&& (31 : Int32)).toInt64 &&& 63)) :
    ∃ e : Nat, own_B G D m F c p (d0 &&& (65535 : Int32)).toInt64 e := by
  have g := own_ab (b := 20) (w := 65535) (x := gg) (by decide) (by decide) (by decide) (by decide)
  rw [← eG, show (20 : Int32).toInt = 20 by decide, show (65535 : Int32).toInt = 65535 by decide] at g
  have hX := (c_and d0 2147483647 (by decide)).1
  rw [← c_i2l] at hX
  have hD := own_aD (G := G) (by omega) (by omega) hX
  rw [← eD] at hD
  have mb := own_ab (b := 1) (w := 65535) (x := m0) (by decide) (by decide) (by decide) (by decide)
  have fb := own_ab (b := 1) (w := 65535) (x := f0) (by decide) (by decide) (by decide) (by decide)
  have cb := own_ab (b := 1) (w := 255) (x := k0) (by decide) (by decide) (by decide) (by decide)
  rw [← em, show (1 : Int32).toInt = 1 by decide, show (65535 : Int32).toInt = 65535 by decide] at mb
  rw [← eF, show (1 : Int32).toInt = 1 by decide, show (65535 : Int32).toInt = 65535 by decide] at fb
  rw [← ec, show (1 : Int32).toInt = 1 by decide, show (255 : Int32).toInt = 255 by decide] at cb
  have hd := c_and d0 65535 (by decide)
  rw [show (65535 : Int32).toInt = 65535 by decide, ← c_i2l] at hd
  have hu := c_and u 31 (by decide)
  rw [show (31 : Int32).toInt = 31 by decide] at hu
  clear eG eD em eF ec
  generalize u &&& (31 : Int32) = v at *
  have hv : v.toInt = (v.toInt.toNat : Int) := by omega
  have hj : v.toInt.toNat ≤ 31 := by omega
  generalize v.toInt.toNat = j at *
  have p31 : (2 ^ j : Nat) ≤ 2 ^ 31 := Nat.pow_le_pow_right (by decide) hj
  have p0 := Nat.two_pow_pos j
  have ht := own_shl hv (by omega) 1 (by rw [show (1 : Int64).toInt = 1 by decide]; omega) (by rw [show (1 : Int64).toInt = 1 by decide]; omega)
  rw [show (1 : Int64).toInt = 1 by decide, Int.one_mul, ← ep] at ht
  exact ⟨j, g.1, by omega, hD.2.1, hD.2.2, mb.1, by omega, fb.1, by omega, cb.1, by omega, hj, ht, hd.1, hd.2⟩
theorem own_ms {G D m F c p dd : Int64} {e : Nat} (B : own_B G D m F c p dd e) : Jvm.Free.Fl.NoNaN64 (FP.ddiv (FP.l2d (D * c)) (FP.l2d p)) ∧ Jvm.Free.Fl.NoNaN64 (FP.ddiv (FP.l2d D) (FP.l2d G)) := by
  obtain ⟨g1, g2, d1, d2, m1, m2, f1, f2, c1, c2, e1, hp, dd1, dd2⟩ := B
  obtain ⟨aG, bG, zG, pG⟩ := own_int (x := G) (by omega) (by omega)
  obtain ⟨aD, bD, zD, pD⟩ := own_int (x := D) (by omega) (by omega)
  have b3 : D.toInt * c.toInt ≤ 65555 * 256 := Int.mul_le_mul (by omega) c2 (by omega) (by decide)
  have b3' : 1 ≤ D.toInt * c.toInt := Int.le_trans (by decide) (Int.mul_le_mul d1 c1 (by decide) (by omega))
  have hDc : (D * c).toInt = D.toInt * c.toInt := int64_mul (by omega) (by omega)
  refine ⟨own_d_no (own_pd (x := D * c) (by omega) (by omega) e1 hp), own_F_no (own_div_hi bD bG bD ?_ ?_).1⟩
  · exact Int.lt_of_lt_of_le own_PP pG
  · exact Int.mul_le_mul_of_nonneg_left pG (own_z_nonneg bD)
end OwnFa
theorem own_pd__DDDD_V : parseMethodDescriptor "(DDDD)V" = some ⟨[.double, .double, .double, .double], none⟩ := by decide +kernel
theorem own_pd__Lcom_example_meter_meter_demand_Measure_DD_D : parseMethodDescriptor "(Lcom/example/meter/meter/demand/Measure;DD)D" = some ⟨[(.object "com/example/meter/meter/demand/Measure"), .double, .double], some .double⟩ := by decide +kernel
theorem own_pd___D : parseMethodDescriptor "()D" = some ⟨[], some .double⟩ := by decide +kernel
theorem own_pd__DD_D : parseMethodDescriptor "(DD)D" = some ⟨[.double, .double], some .double⟩ := by decide +kernel
theorem own_pd___V : parseMethodDescriptor "()V" = some ⟨[], none⟩ := by decide +kernel
theorem own_pd__ZJJJJJ_D : parseMethodDescriptor "(ZJJJJJ)D" = some ⟨[.boolean, .long, .long, .long, .long, .long], some .double⟩ := by decide +kernel
abbrev own_mn0 : MethodName := ⟨"com/example/meter/meter/demand/Measure", "fastest", "()D"⟩
abbrev own_mn1 : MethodName := ⟨"com/example/meter/meter/demand/Measure", "used", "()D"⟩
abbrev own_mn2 : MethodName := ⟨"com/example/meter/meter/demand/Measure", "held", "()D"⟩
abbrev own_mn3 : MethodName := ⟨"com/example/meter/meter/demand/Measure", "limit", "()D"⟩
abbrev own_mn4 : MethodName := ⟨"java/lang/Record", "<init>", "()V"⟩
abbrev own_mn5 : MethodName := ⟨"com/example/meter/meter/demand/Measure", "<init>", "(DDDD)V"⟩
abbrev own_mn6 : MethodName := ⟨"com/example/meter/meter/allocation/FlowShare", "weight", "(Lcom/example/meter/meter/demand/Measure;DD)D"⟩
abbrev own_mn7 : MethodName := ⟨"com/example/meter/meter/allocation/FlowShareWeightPinLaw", "share", "(ZJJJJJ)D"⟩
theorem own_W0 {a0 : Array Value} {Z : State} (hw : ∀ d ∈ tables_1, d.before a0 Z = true) : Jvm.Cond.before (Jvm.Cond.constant "com/example/meter/meter/allocation/FlowShareWeightPinLaw" (7 : Nat) (65535 : Int32)) a0 Z = true := hw _ (List.mem_of_getElem? (i := 0) rfl)
theorem own_W1 {a0 : Array Value} {Z : State} (hw : ∀ d ∈ tables_1, d.before a0 Z = true) : Jvm.Cond.before (Jvm.Cond.constant "com/example/meter/meter/allocation/FlowShareWeightPinLaw" (8 : Nat) (2147483647 : Int32)) a0 Z = true := hw _ (List.mem_of_getElem? (i := 1) rfl)
theorem own_W2 {a0 : Array Value} {Z : State} (hw : ∀ d ∈ tables_1, d.before a0 Z = true) : Jvm.Cond.before (Jvm.Cond.constantLong "com/example/meter/meter/allocation/FlowShareWeightPinLaw" (9 : Nat) (9 : Int64)) a0 Z = true := hw _ (List.mem_of_getElem? (i := 2) rfl)
theorem own_W3 {a0 : Array Value} {Z : State} (hw : ∀ d ∈ tables_1, d.before a0 Z = true) : Jvm.Cond.before (Jvm.Cond.constantLong "com/example/meter/meter/allocation/FlowShareWeightPinLaw" (11 : Nat) (10 : Int64)) a0 Z = true := hw _ (List.mem_of_getElem? (i := 3) rfl)
theorem own_W4 {a0 : Array Value} {Z : State} (hw : ∀ d ∈ tables_1, d.before a0 Z = true) : Jvm.Cond.before (Jvm.Cond.constantDouble "com/example/meter/meter/allocation/FlowShareWeightPinLaw" (13 : Nat) (4598175219545276416 : UInt64)) a0 Z = true := hw _ (List.mem_of_getElem? (i := 4) rfl)
theorem own_W5 {a0 : Array Value} {Z : State} (hw : ∀ d ∈ tables_1, d.before a0 Z = true) : Jvm.Cond.before (Jvm.Cond.classLink "com/example/meter/meter/allocation/FlowShareWeightPinLaw" (17 : Nat) "com/example/meter/meter/demand/Measure") a0 Z = true := hw _ (List.mem_of_getElem? (i := 5) rfl)
theorem own_W6 {a0 : Array Value} {Z : State} (hw : ∀ d ∈ tables_1, d.before a0 Z = true) : Jvm.Cond.before (Jvm.Cond.instantiable "com/example/meter/meter/demand/Measure" (4 : Nat)) a0 Z = true := hw _ (List.mem_of_getElem? (i := 6) rfl)
theorem own_W7 {a0 : Array Value} {Z : State} (hw : ∀ d ∈ tables_1, d.before a0 Z = true) : Jvm.Cond.before (Jvm.Cond.initialized "com/example/meter/meter/demand/Measure") a0 Z = true := hw _ (List.mem_of_getElem? (i := 7) rfl)
theorem own_W8 {a0 : Array Value} {Z : State} (hw : ∀ d ∈ tables_1, d.before a0 Z = true) : Jvm.Cond.before (Jvm.Cond.methodLink "com/example/meter/meter/allocation/FlowShareWeightPinLaw" (19 : Nat) ({ cls := "com/example/meter/meter/demand/Measure", name := "<init>", desc := "(DDDD)V" } : Jvm.MethodName)) a0 Z = true := hw _ (List.mem_of_getElem? (i := 8) rfl)
theorem own_W9 {a0 : Array Value} {Z : State} (hw : ∀ d ∈ tables_1, d.before a0 Z = true) : Jvm.Cond.before (Jvm.Cond.instanceMethod ({ cls := "com/example/meter/meter/demand/Measure", name := "<init>", desc := "(DDDD)V" } : Jvm.MethodName)) a0 Z = true := hw _ (List.mem_of_getElem? (i := 9) rfl)
theorem own_W10 {a0 : Array Value} {Z : State} (hw : ∀ d ∈ tables_1, d.before a0 Z = true) : Jvm.Cond.before (Jvm.Cond.code ({ cls := "com/example/meter/meter/demand/Measure", name := "<init>", desc := "(DDDD)V" } : Jvm.MethodName) prog_5_method_1_code (9 : Nat) (Option.none : Option Jvm.ClassFile.FieldType)) a0 Z = true := hw _ (List.mem_of_getElem? (i := 10) rfl)
theorem own_W11 {a0 : Array Value} {Z : State} (hw : ∀ d ∈ tables_1, d.before a0 Z = true) : Jvm.Cond.before (Jvm.Cond.methodLink "com/example/meter/meter/demand/Measure" (1 : Nat) ({ cls := "java/lang/Record", name := "<init>", desc := "()V" } : Jvm.MethodName)) a0 Z = true := hw _ (List.mem_of_getElem? (i := 11) rfl)
theorem own_W12 {a0 : Array Value} {Z : State} (hw : ∀ d ∈ tables_1, d.before a0 Z = true) : Jvm.Cond.before (Jvm.Cond.instanceMethod ({ cls := "java/lang/Record", name := "<init>", desc := "()V" } : Jvm.MethodName)) a0 Z = true := hw _ (List.mem_of_getElem? (i := 12) rfl)
theorem own_W14 {a0 : Array Value} {Z : State} (hw : ∀ d ∈ tables_1, d.before a0 Z = true) : Jvm.Cond.before (Jvm.Cond.initialized "java/lang/Record") a0 Z = true := hw _ (List.mem_of_getElem? (i := 14) rfl)
theorem own_W15 {a0 : Array Value} {Z : State} (hw : ∀ d ∈ tables_1, d.before a0 Z = true) : Jvm.Cond.before (Jvm.Cond.code ({ cls := "java/lang/Record", name := "<init>", desc := "()V" } : Jvm.MethodName) jdk_30_method_1_code (1 : Nat) (Option.none : Option Jvm.ClassFile.FieldType)) a0 Z = true := hw _ (List.mem_of_getElem? (i := 15) rfl)
theorem own_W16 {a0 : Array Value} {Z : State} (hw : ∀ d ∈ tables_1, d.before a0 Z = true) : Jvm.Cond.before (Jvm.Cond.methodLink "java/lang/Record" (1 : Nat) ({ cls := "java/lang/Object", name := "<init>", desc := "()V" } : Jvm.MethodName)) a0 Z = true := hw _ (List.mem_of_getElem? (i := 16) rfl)
theorem own_W17 {a0 : Array Value} {Z : State} (hw : ∀ d ∈ tables_1, d.before a0 Z = true) : Jvm.Cond.before (Jvm.Cond.instanceMethod ({ cls := "java/lang/Object", name := "<init>", desc := "()V" } : Jvm.MethodName)) a0 Z = true := hw _ (List.mem_of_getElem? (i := 17) rfl)
theorem own_W18 {a0 : Array Value} {Z : State} (hw : ∀ d ∈ tables_1, d.before a0 Z = true) : Jvm.Cond.before (Jvm.Cond.code ({ cls := "java/lang/Object", name := "<init>", desc := "()V" } : Jvm.MethodName) object_method_1_code (1 : Nat) (Option.none : Option Jvm.ClassFile.FieldType)) a0 Z = true := hw _ (List.mem_of_getElem? (i := 18) rfl)
theorem own_W19 {a0 : Array Value} {Z : State} (hw : ∀ d ∈ tables_1, d.before a0 Z = true) : Jvm.Cond.before (Jvm.Cond.fieldLink "com/example/meter/meter/demand/Measure" (7 : Nat) "com/example/meter/meter/demand/Measure" "limit" "D") a0 Z = true := hw _ (List.mem_of_getElem? (i := 19) rfl)
theorem own_W20 {a0 : Array Value} {Z : State} (hw : ∀ d ∈ tables_1, d.before a0 Z = true) : Jvm.Cond.before (Jvm.Cond.laysFinal "com/example/meter/meter/demand/Measure" "com/example/meter/meter/demand/Measure" "limit" "D") a0 Z = true := hw _ (List.mem_of_getElem? (i := 20) rfl)
theorem own_W21 {a0 : Array Value} {Z : State} (hw : ∀ d ∈ tables_1, d.before a0 Z = true) : Jvm.Cond.before (Jvm.Cond.fieldLink "com/example/meter/meter/demand/Measure" (13 : Nat) "com/example/meter/meter/demand/Measure" "used" "D") a0 Z = true := hw _ (List.mem_of_getElem? (i := 21) rfl)
theorem own_W22 {a0 : Array Value} {Z : State} (hw : ∀ d ∈ tables_1, d.before a0 Z = true) : Jvm.Cond.before (Jvm.Cond.laysFinal "com/example/meter/meter/demand/Measure" "com/example/meter/meter/demand/Measure" "used" "D") a0 Z = true := hw _ (List.mem_of_getElem? (i := 22) rfl)
theorem own_W23 {a0 : Array Value} {Z : State} (hw : ∀ d ∈ tables_1, d.before a0 Z = true) : Jvm.Cond.before (Jvm.Cond.fieldLink "com/example/meter/meter/demand/Measure" (16 : Nat) "com/example/meter/meter/demand/Measure" "fastest" "D") a0 Z = true := hw _ (List.mem_of_getElem? (i := 23) rfl)
theorem own_W24 {a0 : Array Value} {Z : State} (hw : ∀ d ∈ tables_1, d.before a0 Z = true) : Jvm.Cond.before (Jvm.Cond.laysFinal "com/example/meter/meter/demand/Measure" "com/example/meter/meter/demand/Measure" "fastest" "D") a0 Z = true := hw _ (List.mem_of_getElem? (i := 24) rfl)
theorem own_W25 {a0 : Array Value} {Z : State} (hw : ∀ d ∈ tables_1, d.before a0 Z = true) : Jvm.Cond.before (Jvm.Cond.fieldLink "com/example/meter/meter/demand/Measure" (19 : Nat) "com/example/meter/meter/demand/Measure" "held" "D") a0 Z = true := hw _ (List.mem_of_getElem? (i := 25) rfl)
theorem own_W26 {a0 : Array Value} {Z : State} (hw : ∀ d ∈ tables_1, d.before a0 Z = true) : Jvm.Cond.before (Jvm.Cond.laysFinal "com/example/meter/meter/demand/Measure" "com/example/meter/meter/demand/Measure" "held" "D") a0 Z = true := hw _ (List.mem_of_getElem? (i := 26) rfl)
theorem own_W27 {a0 : Array Value} {Z : State} (hw : ∀ d ∈ tables_1, d.before a0 Z = true) : Jvm.Cond.before (Jvm.Cond.methodLink "com/example/meter/meter/allocation/FlowShareWeightPinLaw" (22 : Nat) ({ cls := "com/example/meter/meter/allocation/FlowShare", name := "weight", desc := "(Lcom/example/meter/meter/demand/Measure;DD)D" } : Jvm.MethodName)) a0 Z = true := hw _ (List.mem_of_getElem? (i := 27) rfl)
theorem own_W28 {a0 : Array Value} {Z : State} (hw : ∀ d ∈ tables_1, d.before a0 Z = true) : Jvm.Cond.before (Jvm.Cond.static ({ cls := "com/example/meter/meter/allocation/FlowShare", name := "weight", desc := "(Lcom/example/meter/meter/demand/Measure;DD)D" } : Jvm.MethodName)) a0 Z = true := hw _ (List.mem_of_getElem? (i := 28) rfl)
theorem own_W29 {a0 : Array Value} {Z : State} (hw : ∀ d ∈ tables_1, d.before a0 Z = true) : Jvm.Cond.before (Jvm.Cond.initialized "com/example/meter/meter/allocation/FlowShare") a0 Z = true := hw _ (List.mem_of_getElem? (i := 29) rfl)
theorem own_W30 {a0 : Array Value} {Z : State} (hw : ∀ d ∈ tables_1, d.before a0 Z = true) : Jvm.Cond.before (Jvm.Cond.code ({ cls := "com/example/meter/meter/allocation/FlowShare", name := "weight", desc := "(Lcom/example/meter/meter/demand/Measure;DD)D" } : Jvm.MethodName) prog_1_method_2_code (12 : Nat) (Option.some Jvm.ClassFile.FieldType.double)) a0 Z = true := hw _ (List.mem_of_getElem? (i := 30) rfl)
theorem own_W31 {a0 : Array Value} {Z : State} (hw : ∀ d ∈ tables_1, d.before a0 Z = true) : Jvm.Cond.before (Jvm.Cond.methodLink "com/example/meter/meter/allocation/FlowShare" (7 : Nat) ({ cls := "com/example/meter/meter/demand/Measure", name := "fastest", desc := "()D" } : Jvm.MethodName)) a0 Z = true := hw _ (List.mem_of_getElem? (i := 31) rfl)
theorem own_W32 {a0 : Array Value} {Z : State} (hw : ∀ d ∈ tables_1, d.before a0 Z = true) : Jvm.Cond.before (Jvm.Cond.declares ({ cls := "com/example/meter/meter/demand/Measure", name := "fastest", desc := "()D" } : Jvm.MethodName)) a0 Z = true := hw _ (List.mem_of_getElem? (i := 32) rfl)
theorem own_W33 {a0 : Array Value} {Z : State} (hw : ∀ d ∈ tables_1, d.before a0 Z = true) : Jvm.Cond.before (Jvm.Cond.instanceMethod ({ cls := "com/example/meter/meter/demand/Measure", name := "fastest", desc := "()D" } : Jvm.MethodName)) a0 Z = true := hw _ (List.mem_of_getElem? (i := 33) rfl)
theorem own_W34 {a0 : Array Value} {Z : State} (hw : ∀ d ∈ tables_1, d.before a0 Z = true) : Jvm.Cond.before (Jvm.Cond.selects "com/example/meter/meter/demand/Measure" ({ cls := "com/example/meter/meter/demand/Measure", name := "fastest", desc := "()D" } : Jvm.MethodName) ({ cls := "com/example/meter/meter/demand/Measure", name := "fastest", desc := "()D" } : Jvm.MethodName)) a0 Z = true := hw _ (List.mem_of_getElem? (i := 34) rfl)
theorem own_W35 {a0 : Array Value} {Z : State} (hw : ∀ d ∈ tables_1, d.before a0 Z = true) : Jvm.Cond.before (Jvm.Cond.code ({ cls := "com/example/meter/meter/demand/Measure", name := "fastest", desc := "()D" } : Jvm.MethodName) prog_5_method_7_code (1 : Nat) (Option.some Jvm.ClassFile.FieldType.double)) a0 Z = true := hw _ (List.mem_of_getElem? (i := 35) rfl)
theorem own_W36 {a0 : Array Value} {Z : State} (hw : ∀ d ∈ tables_1, d.before a0 Z = true) : Jvm.Cond.before (Jvm.Cond.methodLink "com/example/meter/meter/allocation/FlowShare" (18 : Nat) ({ cls := "com/example/meter/meter/demand/Measure", name := "used", desc := "()D" } : Jvm.MethodName)) a0 Z = true := hw _ (List.mem_of_getElem? (i := 36) rfl)
theorem own_W37 {a0 : Array Value} {Z : State} (hw : ∀ d ∈ tables_1, d.before a0 Z = true) : Jvm.Cond.before (Jvm.Cond.declares ({ cls := "com/example/meter/meter/demand/Measure", name := "used", desc := "()D" } : Jvm.MethodName)) a0 Z = true := hw _ (List.mem_of_getElem? (i := 37) rfl)
theorem own_W38 {a0 : Array Value} {Z : State} (hw : ∀ d ∈ tables_1, d.before a0 Z = true) : Jvm.Cond.before (Jvm.Cond.instanceMethod ({ cls := "com/example/meter/meter/demand/Measure", name := "used", desc := "()D" } : Jvm.MethodName)) a0 Z = true := hw _ (List.mem_of_getElem? (i := 38) rfl)
theorem own_W39 {a0 : Array Value} {Z : State} (hw : ∀ d ∈ tables_1, d.before a0 Z = true) : Jvm.Cond.before (Jvm.Cond.selects "com/example/meter/meter/demand/Measure" ({ cls := "com/example/meter/meter/demand/Measure", name := "used", desc := "()D" } : Jvm.MethodName) ({ cls := "com/example/meter/meter/demand/Measure", name := "used", desc := "()D" } : Jvm.MethodName)) a0 Z = true := hw _ (List.mem_of_getElem? (i := 39) rfl)
theorem own_W40 {a0 : Array Value} {Z : State} (hw : ∀ d ∈ tables_1, d.before a0 Z = true) : Jvm.Cond.before (Jvm.Cond.code ({ cls := "com/example/meter/meter/demand/Measure", name := "used", desc := "()D" } : Jvm.MethodName) prog_5_method_6_code (1 : Nat) (Option.some Jvm.ClassFile.FieldType.double)) a0 Z = true := hw _ (List.mem_of_getElem? (i := 40) rfl)
theorem own_W41 {a0 : Array Value} {Z : State} (hw : ∀ d ∈ tables_1, d.before a0 Z = true) : Jvm.Cond.before (Jvm.Cond.constantDouble "com/example/meter/meter/allocation/FlowShare" (21 : Nat) (4606732058837280358 : UInt64)) a0 Z = true := hw _ (List.mem_of_getElem? (i := 41) rfl)
theorem own_W42 {a0 : Array Value} {Z : State} (hw : ∀ d ∈ tables_1, d.before a0 Z = true) : Jvm.Cond.before (Jvm.Cond.methodLink "com/example/meter/meter/allocation/FlowShare" (23 : Nat) ({ cls := "java/lang/Math", name := "min", desc := "(DD)D" } : Jvm.MethodName)) a0 Z = true := hw _ (List.mem_of_getElem? (i := 42) rfl)
theorem own_W43 {a0 : Array Value} {Z : State} (hw : ∀ d ∈ tables_1, d.before a0 Z = true) : Jvm.Cond.before (Jvm.Cond.static ({ cls := "java/lang/Math", name := "min", desc := "(DD)D" } : Jvm.MethodName)) a0 Z = true := hw _ (List.mem_of_getElem? (i := 43) rfl)
theorem own_W44 {a0 : Array Value} {Z : State} (hw : ∀ d ∈ tables_1, d.before a0 Z = true) : Jvm.Cond.before (Jvm.Cond.initialized "java/lang/Math") a0 Z = true := hw _ (List.mem_of_getElem? (i := 44) rfl)
theorem own_W45 {a0 : Array Value} {Z : State} (hw : ∀ d ∈ tables_1, d.before a0 Z = true) : Jvm.Cond.before (Jvm.Cond.code ({ cls := "java/lang/Math", name := "min", desc := "(DD)D" } : Jvm.MethodName) jdk_29_method_72_code (4 : Nat) (Option.some Jvm.ClassFile.FieldType.double)) a0 Z = true := hw _ (List.mem_of_getElem? (i := 45) rfl)
theorem own_W46 {a0 : Array Value} {Z : State} (hw : ∀ d ∈ tables_1, d.before a0 Z = true) : Jvm.Cond.before (Jvm.Cond.methodLink "com/example/meter/meter/allocation/FlowShare" (29 : Nat) ({ cls := "com/example/meter/meter/demand/Measure", name := "held", desc := "()D" } : Jvm.MethodName)) a0 Z = true := hw _ (List.mem_of_getElem? (i := 46) rfl)
theorem own_W47 {a0 : Array Value} {Z : State} (hw : ∀ d ∈ tables_1, d.before a0 Z = true) : Jvm.Cond.before (Jvm.Cond.declares ({ cls := "com/example/meter/meter/demand/Measure", name := "held", desc := "()D" } : Jvm.MethodName)) a0 Z = true := hw _ (List.mem_of_getElem? (i := 47) rfl)
theorem own_W48 {a0 : Array Value} {Z : State} (hw : ∀ d ∈ tables_1, d.before a0 Z = true) : Jvm.Cond.before (Jvm.Cond.instanceMethod ({ cls := "com/example/meter/meter/demand/Measure", name := "held", desc := "()D" } : Jvm.MethodName)) a0 Z = true := hw _ (List.mem_of_getElem? (i := 48) rfl)
theorem own_W49 {a0 : Array Value} {Z : State} (hw : ∀ d ∈ tables_1, d.before a0 Z = true) : Jvm.Cond.before (Jvm.Cond.selects "com/example/meter/meter/demand/Measure" ({ cls := "com/example/meter/meter/demand/Measure", name := "held", desc := "()D" } : Jvm.MethodName) ({ cls := "com/example/meter/meter/demand/Measure", name := "held", desc := "()D" } : Jvm.MethodName)) a0 Z = true := hw _ (List.mem_of_getElem? (i := 49) rfl)
theorem own_W50 {a0 : Array Value} {Z : State} (hw : ∀ d ∈ tables_1, d.before a0 Z = true) : Jvm.Cond.before (Jvm.Cond.code ({ cls := "com/example/meter/meter/demand/Measure", name := "held", desc := "()D" } : Jvm.MethodName) prog_5_method_8_code (1 : Nat) (Option.some Jvm.ClassFile.FieldType.double)) a0 Z = true := hw _ (List.mem_of_getElem? (i := 50) rfl)
theorem own_W51 {a0 : Array Value} {Z : State} (hw : ∀ d ∈ tables_1, d.before a0 Z = true) : Jvm.Cond.before (Jvm.Cond.constantDouble "com/example/meter/meter/allocation/FlowShare" (32 : Nat) (4602678819172646912 : UInt64)) a0 Z = true := hw _ (List.mem_of_getElem? (i := 51) rfl)
theorem own_W52 {a0 : Array Value} {Z : State} (hw : ∀ d ∈ tables_1, d.before a0 Z = true) : Jvm.Cond.before (Jvm.Cond.constantDouble "com/example/meter/meter/allocation/FlowShareWeightPinLaw" (15 : Nat) (4602678819172646912 : UInt64)) a0 Z = true := hw _ (List.mem_of_getElem? (i := 52) rfl)
theorem own_W53 {a0 : Array Value} {Z : State} (hw : ∀ d ∈ tables_1, d.before a0 Z = true) : Jvm.Cond.before (Jvm.Cond.methodLink "com/example/meter/meter/allocation/FlowShare" (15 : Nat) ({ cls := "com/example/meter/meter/demand/Measure", name := "limit", desc := "()D" } : Jvm.MethodName)) a0 Z = true := hw _ (List.mem_of_getElem? (i := 53) rfl)
theorem own_W54 {a0 : Array Value} {Z : State} (hw : ∀ d ∈ tables_1, d.before a0 Z = true) : Jvm.Cond.before (Jvm.Cond.declares ({ cls := "com/example/meter/meter/demand/Measure", name := "limit", desc := "()D" } : Jvm.MethodName)) a0 Z = true := hw _ (List.mem_of_getElem? (i := 54) rfl)
theorem own_W55 {a0 : Array Value} {Z : State} (hw : ∀ d ∈ tables_1, d.before a0 Z = true) : Jvm.Cond.before (Jvm.Cond.instanceMethod ({ cls := "com/example/meter/meter/demand/Measure", name := "limit", desc := "()D" } : Jvm.MethodName)) a0 Z = true := hw _ (List.mem_of_getElem? (i := 55) rfl)
theorem own_W56 {a0 : Array Value} {Z : State} (hw : ∀ d ∈ tables_1, d.before a0 Z = true) : Jvm.Cond.before (Jvm.Cond.selects "com/example/meter/meter/demand/Measure" ({ cls := "com/example/meter/meter/demand/Measure", name := "limit", desc := "()D" } : Jvm.MethodName) ({ cls := "com/example/meter/meter/demand/Measure", name := "limit", desc := "()D" } : Jvm.MethodName)) a0 Z = true := hw _ (List.mem_of_getElem? (i := 56) rfl)
theorem own_W57 {a0 : Array Value} {Z : State} (hw : ∀ d ∈ tables_1, d.before a0 Z = true) : Jvm.Cond.before (Jvm.Cond.code ({ cls := "com/example/meter/meter/demand/Measure", name := "limit", desc := "()D" } : Jvm.MethodName) prog_5_method_5_code (1 : Nat) (Option.some Jvm.ClassFile.FieldType.double)) a0 Z = true := hw _ (List.mem_of_getElem? (i := 57) rfl)
theorem own_W58 {a0 : Array Value} {Z : State} (hw : ∀ d ∈ tables_1, d.before a0 Z = true) : Jvm.Cond.before (Jvm.Cond.methodLink "com/example/meter/meter/allocation/FlowShare" (34 : Nat) ({ cls := "java/lang/Math", name := "max", desc := "(DD)D" } : Jvm.MethodName)) a0 Z = true := hw _ (List.mem_of_getElem? (i := 58) rfl)
theorem own_W59 {a0 : Array Value} {Z : State} (hw : ∀ d ∈ tables_1, d.before a0 Z = true) : Jvm.Cond.before (Jvm.Cond.static ({ cls := "java/lang/Math", name := "max", desc := "(DD)D" } : Jvm.MethodName)) a0 Z = true := hw _ (List.mem_of_getElem? (i := 59) rfl)
theorem own_W60 {a0 : Array Value} {Z : State} (hw : ∀ d ∈ tables_1, d.before a0 Z = true) : Jvm.Cond.before (Jvm.Cond.code ({ cls := "java/lang/Math", name := "max", desc := "(DD)D" } : Jvm.MethodName) jdk_29_method_68_code (4 : Nat) (Option.some Jvm.ClassFile.FieldType.double)) a0 Z = true := hw _ (List.mem_of_getElem? (i := 60) rfl)
theorem own_W61 {a0 : Array Value} {Z : State} (hw : ∀ d ∈ tables_1, d.before a0 Z = true) : Jvm.Cond.before (Jvm.Cond.methodLink "com/example/meter/meter/allocation/FlowShareWeightPinLaw" (30 : Nat) ({ cls := "com/example/meter/meter/allocation/FlowShareWeightPinLaw", name := "share", desc := "(ZJJJJJ)D" } : Jvm.MethodName)) a0 Z = true := hw _ (List.mem_of_getElem? (i := 61) rfl)
theorem own_W62 {a0 : Array Value} {Z : State} (hw : ∀ d ∈ tables_1, d.before a0 Z = true) : Jvm.Cond.before (Jvm.Cond.static ({ cls := "com/example/meter/meter/allocation/FlowShareWeightPinLaw", name := "share", desc := "(ZJJJJJ)D" } : Jvm.MethodName)) a0 Z = true := hw _ (List.mem_of_getElem? (i := 62) rfl)
theorem own_W63 {a0 : Array Value} {Z : State} (hw : ∀ d ∈ tables_1, d.before a0 Z = true) : Jvm.Cond.before (Jvm.Cond.initialized "com/example/meter/meter/allocation/FlowShareWeightPinLaw") a0 Z = true := hw _ (List.mem_of_getElem? (i := 63) rfl)
theorem own_W64 {a0 : Array Value} {Z : State} (hw : ∀ d ∈ tables_1, d.before a0 Z = true) : Jvm.Cond.before (Jvm.Cond.code ({ cls := "com/example/meter/meter/allocation/FlowShareWeightPinLaw", name := "share", desc := "(ZJJJJJ)D" } : Jvm.MethodName) method_3_code (15 : Nat) (Option.some Jvm.ClassFile.FieldType.double)) a0 Z = true := hw _ (List.mem_of_getElem? (i := 64) rfl)
theorem own_W65 {a0 : Array Value} {Z : State} (hw : ∀ d ∈ tables_1, d.before a0 Z = true) : Jvm.Cond.before (Jvm.Cond.constantDouble "com/example/meter/meter/allocation/FlowShareWeightPinLaw" (28 : Nat) (4606732058837280358 : UInt64)) a0 Z = true := hw _ (List.mem_of_getElem? (i := 65) rfl)
def QR (z : UInt64) (h0 : Heap) (n0 : Nat) (v : Option Value) (h : Heap) (L : List Loc) : Prop := v = some (.double z) ∧ Fr n0 L ∧ h = h0
def QU (h0 : Heap) (n0 : Nat) (v : Option Value) (h : Heap) (L : List Loc) : Prop := v = none ∧ Fr n0 L ∧ h = h0
theorem d9_0 : decode prog_5_method_5_code 0 = .ok (.aload_n 0, 1) := by decide +kernel
theorem d9_1 : decode prog_5_method_5_code 1 = .ok (.getfield 7, 3) := by decide +kernel
theorem d9_4 : decode prog_5_method_5_code 4 = .ok (.dreturn, 1) := by decide +kernel
theorem own_pn_com_example_meter_meter_demand_Measure : plainName "com/example/meter/meter/demand/Measure" = true := by first | (simp [plainName, overriddenIn]; done) | decide +kernel
theorem own_ef9 (m : MethodId) (x0 : Addr) : entryFrame m #[(.ref x0)] 1 = mkF m 0 #[.val (.ref x0)] [] := by first | (simp [entryFrame, mkF, argsToLocals, Value.category]; done) | rfl
set_option maxRecDepth 65536 in
set_option maxHeartbeats 40000000 in
theorem rm_limit (l : Launch) (Z : State) (a0 : Array Value) (hw : ∀ d ∈ tables_1, d.before a0 Z = true) (ws : List Jvm.Cond) (a : Addr) (z : UInt64) (h0 : Heap) (n0 : Nat) (Z0 : n0 ≤ h0.size) (F1 : Fld Z h0 a "com/example/meter/meter/demand/Measure" "limit" "D" (.double z)) :
    MetFree l (⟨"com/example/meter/meter/demand/Measure", "limit", "()D"⟩ : MethodName) (head1 (Jvm.Cond.code (⟨"com/example/meter/meter/demand/Measure", "limit", "()D"⟩ : MethodName) prog_5_method_5_code 1 (some .double) :: ws) ({ frames := 0, cells := 0, slots := 0, locals := 0 } : Room)) (fun α U => α = #[(.ref a)] ∧ Z.Warmed39 U.vm ∧ U.heap = h0) (fun _ _ _ _ _ => True) (fun _ U ω U' => ∃ ν Λ, ω = .returned ν ∧ QR z h0 n0 ν U'.heap Λ ∧ FrameEnd U ω U' Λ ({ frames := 0, cells := 0, slots := 0, locals := 0 } : Room).cells ({ frames := 0, cells := 0, slots := 0, locals := 0 } : Room).slots) := by
  refine MetFree.of_bodySF (plainFor_of_name own_pn_com_example_meter_meter_demand_Measure) hisR ?_
  intro p e s m args below meth c s₁ Bd hml0 hP hK
  obtain ⟨rfl, hZ, hh⟩ := hP
  have hx := Bd.exec
  have hby := Bd.bytes
  have hml : c.maxLocals = 1 := hml0
  have hown : s.vm.findClass "com/example/meter/meter/demand/Measure" = some m.cls := findClass_of_methodNamed Bd.named
  have hnm := (name_of_methodNamed Bd.named Bd.method).1
  have X0 : Stand p l e ({ frames := 0, cells := 0, slots := 0, locals := 0 } : Room) s m #[(.ref a)] below meth c s₁ [] 0 0 := Stand.of_body Bd
  have e0 : s₁.heap = h0 := by rw [← hh, Bd.state]; rfl
  have N0 := Fr.nil n0
  have KK0 : Keep h0 h0 [] := Keep.refl h0 []
  obtain ⟨PS, hPS⟩ : ∃ P : State → Prop, P = fun τ => Steps p.tables e below (s₁.setTop (entryFrame m #[(.ref a)] 1)) τ := ⟨_, rfl⟩
  have pre0 : ∀ τ, Steps p.tables e below (s₁.setTop (mkF m 0 #[.val (.ref a)] [])) τ → PS τ := by rw [hPS]; exact fun τ κ => castTop (own_ef9 m a) κ
  obtain ⟨T1, X1, e1, st1⟩ := getF X0 hx hZ hown (host := "") (Or.inl (own_W19 hw)) Via.refl e0 F1 (g := (mkF m 1 #[.val (.ref a)] [(.ref a)])) rfl rfl (Jvm.hb hby d9_1)
  have pre2 := fun (τ : State) kt => pre0 τ (by
    show Steps p.tables e below (s₁.setTop (mkF m 0 #[.val (.ref a)] [])) τ
    refine XS.aloadN X0.here hx rfl (Jvm.hb hby d9_0) rfl rfl ?_
    exact st1 τ kt)
  obtain ⟨fs, hrL, hrun, hended, hW, hsame⟩ := X1.leave (v := some (.double z)) (fun h => by rw [Bd.returns] at h; cases h)
  refine ⟨_, _, cast (congrFun hPS _) (pre2 _ ?_), hrun, hended, _, _, rfl, ?_, ⟨_, rfl⟩, hW, hsame.mono (by decide) (by decide)⟩
  · show Steps p.tables e below (T1.setTop (mkF m 4 #[.val (.ref a)] [(.double z)])) _
    exact own_retD X1 hx Bd.returns (Jvm.hb hby d9_4) hrL
  · show QR z h0 n0 _ T1.heap _
    rw [e1]
    exact ⟨rfl, N0, rfl⟩
theorem d6_0 : decode prog_5_method_6_code 0 = .ok (.aload_n 0, 1) := by decide +kernel
theorem d6_1 : decode prog_5_method_6_code 1 = .ok (.getfield 13, 3) := by decide +kernel
theorem d6_4 : decode prog_5_method_6_code 4 = .ok (.dreturn, 1) := by decide +kernel
theorem own_ef6 (m : MethodId) (x0 : Addr) : entryFrame m #[(.ref x0)] 1 = mkF m 0 #[.val (.ref x0)] [] := by first | (simp [entryFrame, mkF, argsToLocals, Value.category]; done) | rfl
set_option maxRecDepth 65536 in
set_option maxHeartbeats 40000000 in
theorem rm_used (l : Launch) (Z : State) (a0 : Array Value) (hw : ∀ d ∈ tables_1, d.before a0 Z = true) (ws : List Jvm.Cond) (a : Addr) (z : UInt64) (h0 : Heap) (n0 : Nat) (Z0 : n0 ≤ h0.size) (F1 : Fld Z h0 a "com/example/meter/meter/demand/Measure" "used" "D" (.double z)) :
    MetFree l (⟨"com/example/meter/meter/demand/Measure", "used", "()D"⟩ : MethodName) (head1 (Jvm.Cond.code (⟨"com/example/meter/meter/demand/Measure", "used", "()D"⟩ : MethodName) prog_5_method_6_code 1 (some .double) :: ws) ({ frames := 0, cells := 0, slots := 0, locals := 0 } : Room)) (fun α U => α = #[(.ref a)] ∧ Z.Warmed39 U.vm ∧ U.heap = h0) (fun _ _ _ _ _ => True) (fun _ U ω U' => ∃ ν Λ, ω = .returned ν ∧ QR z h0 n0 ν U'.heap Λ ∧ FrameEnd U ω U' Λ ({ frames := 0, cells := 0, slots := 0, locals := 0 } : Room).cells ({ frames := 0, cells := 0, slots := 0, locals := 0 } : Room).slots) := by
  refine MetFree.of_bodySF (plainFor_of_name own_pn_com_example_meter_meter_demand_Measure) hisR ?_
  intro p e s m args below meth c s₁ Bd hml0 hP hK
  obtain ⟨rfl, hZ, hh⟩ := hP
  have hx := Bd.exec
  have hby := Bd.bytes
  have hml : c.maxLocals = 1 := hml0
  have hown : s.vm.findClass "com/example/meter/meter/demand/Measure" = some m.cls := findClass_of_methodNamed Bd.named
  have hnm := (name_of_methodNamed Bd.named Bd.method).1
  have X0 : Stand p l e ({ frames := 0, cells := 0, slots := 0, locals := 0 } : Room) s m #[(.ref a)] below meth c s₁ [] 0 0 := Stand.of_body Bd
  have e0 : s₁.heap = h0 := by rw [← hh, Bd.state]; rfl
  have N0 := Fr.nil n0
  have KK0 : Keep h0 h0 [] := Keep.refl h0 []
  obtain ⟨PS, hPS⟩ : ∃ P : State → Prop, P = fun τ => Steps p.tables e below (s₁.setTop (entryFrame m #[(.ref a)] 1)) τ := ⟨_, rfl⟩
  have pre0 : ∀ τ, Steps p.tables e below (s₁.setTop (mkF m 0 #[.val (.ref a)] [])) τ → PS τ := by rw [hPS]; exact fun τ κ => castTop (own_ef6 m a) κ
  obtain ⟨T3, X3, e3, st3⟩ := getF X0 hx hZ hown (host := "") (Or.inl (own_W21 hw)) Via.refl e0 F1 (g := (mkF m 1 #[.val (.ref a)] [(.ref a)])) rfl rfl (Jvm.hb hby d6_1)
  have pre4 := fun (τ : State) kt => pre0 τ (by
    show Steps p.tables e below (s₁.setTop (mkF m 0 #[.val (.ref a)] [])) τ
    refine XS.aloadN X0.here hx rfl (Jvm.hb hby d6_0) rfl rfl ?_
    exact st3 τ kt)
  obtain ⟨fs, hrL, hrun, hended, hW, hsame⟩ := X3.leave (v := some (.double z)) (fun h => by rw [Bd.returns] at h; cases h)
  refine ⟨_, _, cast (congrFun hPS _) (pre4 _ ?_), hrun, hended, _, _, rfl, ?_, ⟨_, rfl⟩, hW, hsame.mono (by decide) (by decide)⟩
  · show Steps p.tables e below (T3.setTop (mkF m 4 #[.val (.ref a)] [(.double z)])) _
    exact own_retD X3 hx Bd.returns (Jvm.hb hby d6_4) hrL
  · show QR z h0 n0 _ T3.heap _
    rw [e3]
    exact ⟨rfl, N0, rfl⟩
theorem d5_0 : decode prog_5_method_7_code 0 = .ok (.aload_n 0, 1) := by decide +kernel
theorem d5_1 : decode prog_5_method_7_code 1 = .ok (.getfield 16, 3) := by decide +kernel
theorem d5_4 : decode prog_5_method_7_code 4 = .ok (.dreturn, 1) := by decide +kernel
theorem own_ef5 (m : MethodId) (x0 : Addr) : entryFrame m #[(.ref x0)] 1 = mkF m 0 #[.val (.ref x0)] [] := by first | (simp [entryFrame, mkF, argsToLocals, Value.category]; done) | rfl
set_option maxRecDepth 65536 in
set_option maxHeartbeats 40000000 in
theorem rm_fastest (l : Launch) (Z : State) (a0 : Array Value) (hw : ∀ d ∈ tables_1, d.before a0 Z = true) (ws : List Jvm.Cond) (a : Addr) (z : UInt64) (h0 : Heap) (n0 : Nat) (Z0 : n0 ≤ h0.size) (F1 : Fld Z h0 a "com/example/meter/meter/demand/Measure" "fastest" "D" (.double z)) :
    MetFree l (⟨"com/example/meter/meter/demand/Measure", "fastest", "()D"⟩ : MethodName) (head1 (Jvm.Cond.code (⟨"com/example/meter/meter/demand/Measure", "fastest", "()D"⟩ : MethodName) prog_5_method_7_code 1 (some .double) :: ws) ({ frames := 0, cells := 0, slots := 0, locals := 0 } : Room)) (fun α U => α = #[(.ref a)] ∧ Z.Warmed39 U.vm ∧ U.heap = h0) (fun _ _ _ _ _ => True) (fun _ U ω U' => ∃ ν Λ, ω = .returned ν ∧ QR z h0 n0 ν U'.heap Λ ∧ FrameEnd U ω U' Λ ({ frames := 0, cells := 0, slots := 0, locals := 0 } : Room).cells ({ frames := 0, cells := 0, slots := 0, locals := 0 } : Room).slots) := by
  refine MetFree.of_bodySF (plainFor_of_name own_pn_com_example_meter_meter_demand_Measure) hisR ?_
  intro p e s m args below meth c s₁ Bd hml0 hP hK
  obtain ⟨rfl, hZ, hh⟩ := hP
  have hx := Bd.exec
  have hby := Bd.bytes
  have hml : c.maxLocals = 1 := hml0
  have hown : s.vm.findClass "com/example/meter/meter/demand/Measure" = some m.cls := findClass_of_methodNamed Bd.named
  have hnm := (name_of_methodNamed Bd.named Bd.method).1
  have X0 : Stand p l e ({ frames := 0, cells := 0, slots := 0, locals := 0 } : Room) s m #[(.ref a)] below meth c s₁ [] 0 0 := Stand.of_body Bd
  have e0 : s₁.heap = h0 := by rw [← hh, Bd.state]; rfl
  have N0 := Fr.nil n0
  have KK0 : Keep h0 h0 [] := Keep.refl h0 []
  obtain ⟨PS, hPS⟩ : ∃ P : State → Prop, P = fun τ => Steps p.tables e below (s₁.setTop (entryFrame m #[(.ref a)] 1)) τ := ⟨_, rfl⟩
  have pre0 : ∀ τ, Steps p.tables e below (s₁.setTop (mkF m 0 #[.val (.ref a)] [])) τ → PS τ := by rw [hPS]; exact fun τ κ => castTop (own_ef5 m a) κ
  obtain ⟨T5, X5, e5, st5⟩ := getF X0 hx hZ hown (host := "") (Or.inl (own_W23 hw)) Via.refl e0 F1 (g := (mkF m 1 #[.val (.ref a)] [(.ref a)])) rfl rfl (Jvm.hb hby d5_1)
  have pre6 := fun (τ : State) kt => pre0 τ (by
    show Steps p.tables e below (s₁.setTop (mkF m 0 #[.val (.ref a)] [])) τ
    refine XS.aloadN X0.here hx rfl (Jvm.hb hby d5_0) rfl rfl ?_
    exact st5 τ kt)
  obtain ⟨fs, hrL, hrun, hended, hW, hsame⟩ := X5.leave (v := some (.double z)) (fun h => by rw [Bd.returns] at h; cases h)
  refine ⟨_, _, cast (congrFun hPS _) (pre6 _ ?_), hrun, hended, _, _, rfl, ?_, ⟨_, rfl⟩, hW, hsame.mono (by decide) (by decide)⟩
  · show Steps p.tables e below (T5.setTop (mkF m 4 #[.val (.ref a)] [(.double z)])) _
    exact own_retD X5 hx Bd.returns (Jvm.hb hby d5_4) hrL
  · show QR z h0 n0 _ T5.heap _
    rw [e5]
    exact ⟨rfl, N0, rfl⟩
theorem d8_0 : decode prog_5_method_8_code 0 = .ok (.aload_n 0, 1) := by decide +kernel
theorem d8_1 : decode prog_5_method_8_code 1 = .ok (.getfield 19, 3) := by decide +kernel
theorem d8_4 : decode prog_5_method_8_code 4 = .ok (.dreturn, 1) := by decide +kernel
theorem own_ef8 (m : MethodId) (x0 : Addr) : entryFrame m #[(.ref x0)] 1 = mkF m 0 #[.val (.ref x0)] [] := by first | (simp [entryFrame, mkF, argsToLocals, Value.category]; done) | rfl
set_option maxRecDepth 65536 in
set_option maxHeartbeats 40000000 in
theorem rm_held (l : Launch) (Z : State) (a0 : Array Value) (hw : ∀ d ∈ tables_1, d.before a0 Z = true) (ws : List Jvm.Cond) (a : Addr) (z : UInt64) (h0 : Heap) (n0 : Nat) (Z0 : n0 ≤ h0.size) (F1 : Fld Z h0 a "com/example/meter/meter/demand/Measure" "held" "D" (.double z)) :
    MetFree l (⟨"com/example/meter/meter/demand/Measure", "held", "()D"⟩ : MethodName) (head1 (Jvm.Cond.code (⟨"com/example/meter/meter/demand/Measure", "held", "()D"⟩ : MethodName) prog_5_method_8_code 1 (some .double) :: ws) ({ frames := 0, cells := 0, slots := 0, locals := 0 } : Room)) (fun α U => α = #[(.ref a)] ∧ Z.Warmed39 U.vm ∧ U.heap = h0) (fun _ _ _ _ _ => True) (fun _ U ω U' => ∃ ν Λ, ω = .returned ν ∧ QR z h0 n0 ν U'.heap Λ ∧ FrameEnd U ω U' Λ ({ frames := 0, cells := 0, slots := 0, locals := 0 } : Room).cells ({ frames := 0, cells := 0, slots := 0, locals := 0 } : Room).slots) := by
  refine MetFree.of_bodySF (plainFor_of_name own_pn_com_example_meter_meter_demand_Measure) hisR ?_
  intro p e s m args below meth c s₁ Bd hml0 hP hK
  obtain ⟨rfl, hZ, hh⟩ := hP
  have hx := Bd.exec
  have hby := Bd.bytes
  have hml : c.maxLocals = 1 := hml0
  have hown : s.vm.findClass "com/example/meter/meter/demand/Measure" = some m.cls := findClass_of_methodNamed Bd.named
  have hnm := (name_of_methodNamed Bd.named Bd.method).1
  have X0 : Stand p l e ({ frames := 0, cells := 0, slots := 0, locals := 0 } : Room) s m #[(.ref a)] below meth c s₁ [] 0 0 := Stand.of_body Bd
  have e0 : s₁.heap = h0 := by rw [← hh, Bd.state]; rfl
  have N0 := Fr.nil n0
  have KK0 : Keep h0 h0 [] := Keep.refl h0 []
  obtain ⟨PS, hPS⟩ : ∃ P : State → Prop, P = fun τ => Steps p.tables e below (s₁.setTop (entryFrame m #[(.ref a)] 1)) τ := ⟨_, rfl⟩
  have pre0 : ∀ τ, Steps p.tables e below (s₁.setTop (mkF m 0 #[.val (.ref a)] [])) τ → PS τ := by rw [hPS]; exact fun τ κ => castTop (own_ef8 m a) κ
  obtain ⟨T7, X7, e7, st7⟩ := getF X0 hx hZ hown (host := "") (Or.inl (own_W25 hw)) Via.refl e0 F1 (g := (mkF m 1 #[.val (.ref a)] [(.ref a)])) rfl rfl (Jvm.hb hby d8_1)
  have pre8 := fun (τ : State) kt => pre0 τ (by
    show Steps p.tables e below (s₁.setTop (mkF m 0 #[.val (.ref a)] [])) τ
    refine XS.aloadN X0.here hx rfl (Jvm.hb hby d8_0) rfl rfl ?_
    exact st7 τ kt)
  obtain ⟨fs, hrL, hrun, hended, hW, hsame⟩ := X7.leave (v := some (.double z)) (fun h => by rw [Bd.returns] at h; cases h)
  refine ⟨_, _, cast (congrFun hPS _) (pre8 _ ?_), hrun, hended, _, _, rfl, ?_, ⟨_, rfl⟩, hW, hsame.mono (by decide) (by decide)⟩
  · show Steps p.tables e below (T7.setTop (mkF m 4 #[.val (.ref a)] [(.double z)])) _
    exact own_retD X7 hx Bd.returns (Jvm.hb hby d8_4) hrL
  · show QR z h0 n0 _ T7.heap _
    rw [e7]
    exact ⟨rfl, N0, rfl⟩
theorem d4_0 : decode prog_1_method_2_code 0 = .ok (.aload_n 0, 1) := by decide +kernel
theorem d4_1 : decode prog_1_method_2_code 1 = .ok (.invokevirtual 7, 3) := by decide +kernel
theorem d4_4 : decode prog_1_method_2_code 4 = .ok (.dconst 1, 1) := by decide +kernel
theorem d4_5 : decode prog_1_method_2_code 5 = .ok (.dcmp .l, 1) := by decide +kernel
theorem d4_6 : decode prog_1_method_2_code 6 = .ok (.ifCond .lt 16, 3) := by decide +kernel
theorem d4_9 : decode prog_1_method_2_code 9 = .ok (.aload_n 0, 1) := by decide +kernel
theorem d4_10 : decode prog_1_method_2_code 10 = .ok (.invokevirtual 15, 3) := by decide +kernel
theorem d4_13 : decode prog_1_method_2_code 13 = .ok (.dconst 0, 1) := by decide +kernel
theorem d4_14 : decode prog_1_method_2_code 14 = .ok (.dcmp .l, 1) := by decide +kernel
theorem d4_15 : decode prog_1_method_2_code 15 = .ok (.ifCond .le 7, 3) := by decide +kernel
theorem d4_18 : decode prog_1_method_2_code 18 = .ok (.iconst 1, 1) := by decide +kernel
theorem d4_19 : decode prog_1_method_2_code 19 = .ok (.goto 4, 3) := by decide +kernel
theorem d4_22 : decode prog_1_method_2_code 22 = .ok (.iconst 0, 1) := by decide +kernel
theorem d4_23 : decode prog_1_method_2_code 23 = .ok (.istore 5, 2) := by decide +kernel
theorem d4_25 : decode prog_1_method_2_code 25 = .ok (.aload_n 0, 1) := by decide +kernel
theorem d4_26 : decode prog_1_method_2_code 26 = .ok (.invokevirtual 18, 3) := by decide +kernel
theorem d4_29 : decode prog_1_method_2_code 29 = .ok (.ldc2_w 21, 3) := by decide +kernel
theorem d4_32 : decode prog_1_method_2_code 32 = .ok (.dload_n 3, 1) := by decide +kernel
theorem d4_33 : decode prog_1_method_2_code 33 = .ok (.dmul, 1) := by decide +kernel
theorem d4_34 : decode prog_1_method_2_code 34 = .ok (.invokestatic 23, 3) := by decide +kernel
theorem d4_37 : decode prog_1_method_2_code 37 = .ok (.dstore 6, 2) := by decide +kernel
theorem d4_39 : decode prog_1_method_2_code 39 = .ok (.iload 5, 2) := by decide +kernel
theorem d4_41 : decode prog_1_method_2_code 41 = .ok (.ifCond .eq 15, 3) := by decide +kernel
theorem d4_44 : decode prog_1_method_2_code 44 = .ok (.aload_n 0, 1) := by decide +kernel
theorem d4_45 : decode prog_1_method_2_code 45 = .ok (.invokevirtual 15, 3) := by decide +kernel
theorem d4_48 : decode prog_1_method_2_code 48 = .ok (.aload_n 0, 1) := by decide +kernel
theorem d4_49 : decode prog_1_method_2_code 49 = .ok (.invokevirtual 7, 3) := by decide +kernel
theorem d4_52 : decode prog_1_method_2_code 52 = .ok (.ddiv, 1) := by decide +kernel
theorem d4_53 : decode prog_1_method_2_code 53 = .ok (.goto 7, 3) := by decide +kernel
theorem d4_56 : decode prog_1_method_2_code 56 = .ok (.dload 6, 2) := by decide +kernel
theorem d4_58 : decode prog_1_method_2_code 58 = .ok (.dconst 1, 1) := by decide +kernel
theorem d4_59 : decode prog_1_method_2_code 59 = .ok (.ddiv, 1) := by decide +kernel
theorem d4_60 : decode prog_1_method_2_code 60 = .ok (.dstore 8, 2) := by decide +kernel
theorem d4_62 : decode prog_1_method_2_code 62 = .ok (.aload_n 0, 1) := by decide +kernel
theorem d4_63 : decode prog_1_method_2_code 63 = .ok (.invokevirtual 29, 3) := by decide +kernel
theorem d4_66 : decode prog_1_method_2_code 66 = .ok (.ldc2_w 32, 3) := by decide +kernel
theorem d4_69 : decode prog_1_method_2_code 69 = .ok (.dcmp .l, 1) := by decide +kernel
theorem d4_70 : decode prog_1_method_2_code 70 = .ok (.ifCond .lt 15, 3) := by decide +kernel
theorem d4_73 : decode prog_1_method_2_code 73 = .ok (.iload 5, 2) := by decide +kernel
theorem d4_75 : decode prog_1_method_2_code 75 = .ok (.ifCond .eq 10, 3) := by decide +kernel
theorem d4_78 : decode prog_1_method_2_code 78 = .ok (.dload 8, 2) := by decide +kernel
theorem d4_80 : decode prog_1_method_2_code 80 = .ok (.dstore 10, 2) := by decide +kernel
theorem d4_82 : decode prog_1_method_2_code 82 = .ok (.goto 88, 3) := by decide +kernel
theorem d4_85 : decode prog_1_method_2_code 85 = .ok (.aload_n 0, 1) := by decide +kernel
theorem d4_86 : decode prog_1_method_2_code 86 = .ok (.invokevirtual 29, 3) := by decide +kernel
theorem d4_89 : decode prog_1_method_2_code 89 = .ok (.ldc2_w 32, 3) := by decide +kernel
theorem d4_92 : decode prog_1_method_2_code 92 = .ok (.dcmp .l, 1) := by decide +kernel
theorem d4_93 : decode prog_1_method_2_code 93 = .ok (.ifCond .lt 27, 3) := by decide +kernel
theorem d4_96 : decode prog_1_method_2_code 96 = .ok (.aload_n 0, 1) := by decide +kernel
theorem d4_97 : decode prog_1_method_2_code 97 = .ok (.invokevirtual 15, 3) := by decide +kernel
theorem d4_100 : decode prog_1_method_2_code 100 = .ok (.dconst 0, 1) := by decide +kernel
theorem d4_101 : decode prog_1_method_2_code 101 = .ok (.dcmp .l, 1) := by decide +kernel
theorem d4_102 : decode prog_1_method_2_code 102 = .ok (.ifCond .eq 12, 3) := by decide +kernel
theorem d4_105 : decode prog_1_method_2_code 105 = .ok (.aload_n 0, 1) := by decide +kernel
theorem d4_106 : decode prog_1_method_2_code 106 = .ok (.invokevirtual 18, 3) := by decide +kernel
theorem d4_109 : decode prog_1_method_2_code 109 = .ok (.dconst 1, 1) := by decide +kernel
theorem d4_110 : decode prog_1_method_2_code 110 = .ok (.dcmp .g, 1) := by decide +kernel
theorem d4_111 : decode prog_1_method_2_code 111 = .ok (.ifCond .ge 9, 3) := by decide +kernel
theorem d4_114 : decode prog_1_method_2_code 114 = .ok (.dconst 1, 1) := by decide +kernel
theorem d4_115 : decode prog_1_method_2_code 115 = .ok (.dstore 10, 2) := by decide +kernel
theorem d4_117 : decode prog_1_method_2_code 117 = .ok (.goto 53, 3) := by decide +kernel
theorem d4_120 : decode prog_1_method_2_code 120 = .ok (.aload_n 0, 1) := by decide +kernel
theorem d4_121 : decode prog_1_method_2_code 121 = .ok (.invokevirtual 18, 3) := by decide +kernel
theorem d4_124 : decode prog_1_method_2_code 124 = .ok (.dconst 1, 1) := by decide +kernel
theorem d4_125 : decode prog_1_method_2_code 125 = .ok (.dcmp .g, 1) := by decide +kernel
theorem d4_126 : decode prog_1_method_2_code 126 = .ok (.ifCond .ge 9, 3) := by decide +kernel
theorem d4_129 : decode prog_1_method_2_code 129 = .ok (.dconst 0, 1) := by decide +kernel
theorem d4_130 : decode prog_1_method_2_code 130 = .ok (.dstore 10, 2) := by decide +kernel
theorem d4_132 : decode prog_1_method_2_code 132 = .ok (.goto 38, 3) := by decide +kernel
theorem d4_135 : decode prog_1_method_2_code 135 = .ok (.dload_n 1, 1) := by decide +kernel
theorem d4_136 : decode prog_1_method_2_code 136 = .ok (.dconst 0, 1) := by decide +kernel
theorem d4_137 : decode prog_1_method_2_code 137 = .ok (.dcmp .l, 1) := by decide +kernel
theorem d4_138 : decode prog_1_method_2_code 138 = .ok (.ifCond .le 29, 3) := by decide +kernel
theorem d4_141 : decode prog_1_method_2_code 141 = .ok (.dload 6, 2) := by decide +kernel
theorem d4_143 : decode prog_1_method_2_code 143 = .ok (.dload_n 1, 1) := by decide +kernel
theorem d4_144 : decode prog_1_method_2_code 144 = .ok (.dmul, 1) := by decide +kernel
theorem d4_145 : decode prog_1_method_2_code 145 = .ok (.dload_n 3, 1) := by decide +kernel
theorem d4_146 : decode prog_1_method_2_code 146 = .ok (.dload 6, 2) := by decide +kernel
theorem d4_148 : decode prog_1_method_2_code 148 = .ok (.dsub, 1) := by decide +kernel
theorem d4_149 : decode prog_1_method_2_code 149 = .ok (.ddiv, 1) := by decide +kernel
theorem d4_150 : decode prog_1_method_2_code 150 = .ok (.dload 8, 2) := by decide +kernel
theorem d4_152 : decode prog_1_method_2_code 152 = .ok (.invokestatic 23, 3) := by decide +kernel
theorem d4_155 : decode prog_1_method_2_code 155 = .ok (.dload 6, 2) := by decide +kernel
theorem d4_157 : decode prog_1_method_2_code 157 = .ok (.dload_n 3, 1) := by decide +kernel
theorem d4_158 : decode prog_1_method_2_code 158 = .ok (.ddiv, 1) := by decide +kernel
theorem d4_159 : decode prog_1_method_2_code 159 = .ok (.invokestatic 34, 3) := by decide +kernel
theorem d4_162 : decode prog_1_method_2_code 162 = .ok (.dstore 10, 2) := by decide +kernel
theorem d4_164 : decode prog_1_method_2_code 164 = .ok (.goto 6, 3) := by decide +kernel
theorem d4_167 : decode prog_1_method_2_code 167 = .ok (.dconst 1, 1) := by decide +kernel
theorem d4_168 : decode prog_1_method_2_code 168 = .ok (.dstore 10, 2) := by decide +kernel
theorem d4_170 : decode prog_1_method_2_code 170 = .ok (.dload 10, 2) := by decide +kernel
theorem d4_172 : decode prog_1_method_2_code 172 = .ok (.dreturn, 1) := by decide +kernel
theorem own_pn_com_example_meter_meter_allocation_FlowShare : plainName "com/example/meter/meter/allocation/FlowShare" = true := by first | (simp [plainName, overriddenIn]; done) | decide +kernel
theorem own_ef4 (m : MethodId) (x0 : Addr) (x1 : UInt64) (x2 : UInt64) : entryFrame m #[(.ref x0), (.double x1), (.double x2)] 12 = mkF m 0 #[.val (.ref x0), .val (.double x1), .second, .val (.double x2), .second, .unset, .unset, .unset, .unset, .unset, .unset, .unset] [] := by first | (simp [entryFrame, mkF, argsToLocals, Value.category]; done) | rfl
set_option maxRecDepth 65536 in
set_option maxHeartbeats 40000000 in
theorem rmW (l : Launch) (Z : State) (a0 : Array Value) (hw : ∀ d ∈ tables_1, d.before a0 Z = true) (ws : List Jvm.Cond) (a : Addr) (ot : UInt64) (gl : UInt64) (li us fa he : UInt64) (h0 : Heap) (n0 : Nat) (Z0 : n0 ≤ h0.size) (E7 : Exa Z h0 a "com/example/meter/meter/demand/Measure") (F_limit : Fld Z h0 a "com/example/meter/meter/demand/Measure" "limit" "D" (.double li)) (F_used : Fld Z h0 a "com/example/meter/meter/demand/Measure" "used" "D" (.double us)) (F_fastest : Fld Z h0 a "com/example/meter/meter/demand/Measure" "fastest" "D" (.double fa)) (F_held : Fld Z h0 a "com/example/meter/meter/demand/Measure" "held" "D" (.double he)) (n1 : Jvm.Free.Fl.NoNaN64 us) (n2 : Jvm.Free.Fl.NoNaN64 (own_X gl)) (n3 : Jvm.Free.Fl.NoNaN64 (FP.ddiv (own_U us gl) FP.dconst1)) (n4 : ¬ own_cl fa FP.dconst1 < (0 : Int32) → (0 : Int32) < own_cl li FP.dconst0 → Jvm.Free.Fl.NoNaN64 (FP.ddiv li fa)) (n5 : ¬ own_cg us FP.dconst1 < (0 : Int32) → (0 : Int32) < own_cl ot FP.dconst0 → Jvm.Free.Fl.NoNaN64 (FP.dmul (own_U us gl) ot) ∧ Jvm.Free.Fl.NoNaN64 (FP.dsub gl (own_U us gl)) ∧ Jvm.Free.Fl.NoNaN64 (own_quo us ot gl) ∧ Jvm.Free.Fl.NoNaN64 (FP.ddiv (own_U us gl) gl)) :
    MetFree l (⟨"com/example/meter/meter/allocation/FlowShare", "weight", "(Lcom/example/meter/meter/demand/Measure;DD)D"⟩ : MethodName) (head1 (Jvm.Cond.code (⟨"com/example/meter/meter/allocation/FlowShare", "weight", "(Lcom/example/meter/meter/demand/Measure;DD)D"⟩ : MethodName) prog_1_method_2_code 12 (some .double) :: ws) ({ frames := 1, cells := 0, slots := 0, locals := 15 } : Room)) (fun α U => α = #[(.ref a), (.double ot), (.double gl)] ∧ Z.Warmed39 U.vm ∧ U.heap = h0) (fun _ _ _ _ _ => True) (fun _ U ω U' => ∃ ν Λ, ω = .returned ν ∧ QR (own_wt li us fa he ot gl) h0 n0 ν U'.heap Λ ∧ FrameEnd U ω U' Λ ({ frames := 1, cells := 0, slots := 0, locals := 15 } : Room).cells ({ frames := 1, cells := 0, slots := 0, locals := 15 } : Room).slots) := by
  refine MetFree.of_bodySF (plainFor_of_name own_pn_com_example_meter_meter_allocation_FlowShare) hisR ?_
  intro p e s m args below meth c s₁ Bd hml0 hP hK
  obtain ⟨rfl, hZ, hh⟩ := hP
  have hx := Bd.exec
  have hby := Bd.bytes
  have hml : c.maxLocals = 12 := hml0
  have hown : s.vm.findClass "com/example/meter/meter/allocation/FlowShare" = some m.cls := findClass_of_methodNamed Bd.named
  have hnm := (name_of_methodNamed Bd.named Bd.method).1
  have X0 : Stand p l e ({ frames := 1, cells := 0, slots := 0, locals := 15 } : Room) s m #[(.ref a), (.double ot), (.double gl)] below meth c s₁ [] 0 0 := Stand.of_body Bd
  have e0 : s₁.heap = h0 := by rw [← hh, Bd.state]; rfl
  have N0 := Fr.nil n0
  have KK0 : Keep h0 h0 [] := Keep.refl h0 []
  obtain ⟨PS, hPS⟩ : ∃ P : State → Prop, P = fun τ => Steps p.tables e below (s₁.setTop (entryFrame m #[(.ref a), (.double ot), (.double gl)] 12)) τ := ⟨_, rfl⟩
  have pre0 : ∀ τ, Steps p.tables e below (s₁.setTop (mkF m 0 #[.val (.ref a), .val (.double ot), .second, .val (.double gl), .second, .unset, .unset, .unset, .unset, .unset, .unset, .unset] [])) τ → PS τ := by rw [hPS]; exact fun τ κ => castTop (own_ef4 m a ot gl) κ
  obtain ⟨_, T9, L9, X9, ⟨rfl, Nq9, eq9⟩, st9⟩ := own_virt (y := own_mn0) (b := a) X0 hx hZ hown (own_W31 hw) (own_W32 hw) (own_W34 hw) (own_W33 hw) (by decide) (rm_fastest l Z a0 hw [] a fa h0 n0 (Nat.le_trans Z0 KK0.1) F_fastest) (own_W35 hw) (own_W7 hw) 0 (by decide) (by decide) E7 e0 (mkF m 1 #[.val (.ref a), .val (.double ot), .second, .val (.double gl), .second, .unset, .unset, .unset, .unset, .unset, .unset, .unset] [(.ref a)]) rfl (by rw [hml]; rfl) [] [] rfl (lenOf own_pd___D rfl) rfl (Nat.le_refl _) (Jvm.hb hby d4_1) (by decide) (by decide)
  have N9 := Fr.app N0 Nq9
  have pre10 := fun (τ : State) kt => pre0 τ (by
    show Steps p.tables e below (s₁.setTop (mkF m 0 #[.val (.ref a), .val (.double ot), .second, .val (.double gl), .second, .unset, .unset, .unset, .unset, .unset, .unset, .unset] [])) τ
    refine XS.aloadN X0.here hx rfl (Jvm.hb hby d4_0) rfl rfl ?_
    exact st9 τ kt)
  have pre11 := fun (τ : State) kt => pre10 τ (by
    show Steps p.tables e below (T9.setTop (mkF m 4 #[.val (.ref a), .val (.double ot), .second, .val (.double gl), .second, .unset, .unset, .unset, .unset, .unset, .unset, .unset] [(.double fa)])) τ
    refine own_dconst1 X9.here hx rfl (Jvm.hb hby d4_4) ?_
    refine own_dcmp X9.here hx rfl (Jvm.hb hby d4_5) rfl ?_
    exact kt)
  by_cases qA : (cmpValue (FP.dcmp fa FP.dconst1) .l) < (0 : Int32)
  · skip
    obtain ⟨_, T12, L12, X12, ⟨rfl, Nq12, eq12⟩, st12⟩ := own_virt (y := own_mn1) (b := a) X9 hx hZ hown (own_W36 hw) (own_W37 hw) (own_W39 hw) (own_W38 hw) (by decide) (rm_used l Z a0 hw [] a us h0 n0 (Nat.le_trans Z0 KK0.1) F_used) (own_W40 hw) (own_W7 hw) 0 (by decide) (by decide) E7 eq9 (mkF m 26 #[.val (.ref a), .val (.double ot), .second, .val (.double gl), .second, .val (.int (0 : Int32)), .unset, .unset, .unset, .unset, .unset, .unset] [(.ref a)]) rfl (by rw [hml]; rfl) [] [] rfl (lenOf own_pd___D rfl) rfl (Nat.le_refl _) (Jvm.hb hby d4_26) (by decide) (by decide)
    have N12 := Fr.app N9 Nq12
    have pre13 := fun (τ : State) kt => pre11 τ (by
      show Steps p.tables e below (T9.setTop (mkF m 6 #[.val (.ref a), .val (.double ot), .second, .val (.double gl), .second, .unset, .unset, .unset, .unset, .unset, .unset, .unset] [(.int (cmpValue (FP.dcmp fa FP.dconst1) .l))])) τ
      refine XS.ifYes X9.here hx rfl (pc0 := 6) (pc' := 22) rfl (Jvm.hb hby d4_6) rfl ((if0 _ _).trans (tlt qA).1) (by decide) (by decide) ?_
      refine XS.iconst X9.here hx rfl (Jvm.hb hby d4_22) ?_
      refine XS.istore X9.here hx rfl (Jvm.hb hby d4_23) rfl (l' := #[.val (.ref a), .val (.double ot), .second, .val (.double gl), .second, .val (.int (0 : Int32)), .unset, .unset, .unset, .unset, .unset, .unset]) rfl ?_
      refine XS.aloadN X9.here hx rfl (Jvm.hb hby d4_25) rfl rfl ?_
      exact st12 τ kt)
    obtain ⟨_, vm14, _, -, X14, ⟨rfl, rfl⟩, st14⟩ := Jvm.LawKit.callS X12 hx (y := (⟨"java/lang/Math", "min", "(DD)D"⟩ : MethodName)) hown (mvT hZ (own_W42 hw)) (mvT hZ (own_W43 hw)) (mvT hZ (own_W44 hw)) (mvT hZ (own_W45 hw)) (by decide) (Jvm.Free.Fl.Abs.minD_pays (W := 0) us (own_X gl) (mvT hZ (own_W45 hw)) (by decide) (by decide)) (g := (mkF m 34 #[.val (.ref a), .val (.double ot), .second, .val (.double gl), .second, .val (.int (0 : Int32)), .unset, .unset, .unset, .unset, .unset, .unset] [(.double (own_X gl)), (.double us)])) rfl (by rw [hml]; rfl) (argsL := [(.double us), (.double (own_X gl))]) (rest := []) (lenOf own_pd__DD_D rfl) rfl (by show 2 * 0 + _ ≤ _; exact Nat.le_of_eq rfl) (Jvm.hb hby d4_34) (fun _ _ => ⟨(by decide : 0 ≤ _), (by decide : 0 ≤ _), rfl, n1, n2⟩)
    dsimp only [Pt.U, Pt.locs, Pt.cells, Pt.slots] at X14 st14
    have e14 : (T12.setVm vm14).heap = h0 := eq12
    have pre15 := fun (τ : State) kt => pre13 τ (by
      show Steps p.tables e below (T12.setTop (mkF m 29 #[.val (.ref a), .val (.double ot), .second, .val (.double gl), .second, .val (.int (0 : Int32)), .unset, .unset, .unset, .unset, .unset, .unset] [(.double us)])) τ
      refine X12.ldc2DoubleC hx hown (mvT hZ (own_W41 hw)) (g := (mkF m 29 #[.val (.ref a), .val (.double ot), .second, .val (.double gl), .second, .val (.int (0 : Int32)), .unset, .unset, .unset, .unset, .unset, .unset] [(.double us)])) rfl (Jvm.hb hby d4_29) _ ?_
      refine own_dloadN X12.here hx rfl (Jvm.hb hby d4_32) rfl ?_
      refine own_dmul X12.here hx rfl (Jvm.hb hby d4_33) rfl (n2) ?_
      exact st14 τ kt)
    obtain ⟨_, T16, L16, X16, ⟨rfl, Nq16, eq16⟩, st16⟩ := own_virt (y := own_mn2) (b := a) X14 hx hZ hown (own_W46 hw) (own_W47 hw) (own_W49 hw) (own_W48 hw) (by decide) (rm_held l Z a0 hw [] a he h0 n0 (Nat.le_trans Z0 KK0.1) F_held) (own_W50 hw) (own_W7 hw) 0 (by decide) (by decide) E7 e14 (mkF m 63 #[.val (.ref a), .val (.double ot), .second, .val (.double gl), .second, .val (.int (0 : Int32)), .val (.double (own_U us gl)), .second, .val (.double (FP.ddiv (own_U us gl) FP.dconst1)), .second, .unset, .unset] [(.ref a)]) rfl (by rw [hml]; rfl) [] [] rfl (lenOf own_pd___D rfl) rfl (Nat.le_refl _) (Jvm.hb hby d4_63) (by decide) (by decide)
    have N16 := Fr.app N12 Nq16
    have pre17 := fun (τ : State) kt => pre15 τ (by
      show Steps p.tables e below ((T12.setVm vm14).setTop (mkF m 37 #[.val (.ref a), .val (.double ot), .second, .val (.double gl), .second, .val (.int (0 : Int32)), .unset, .unset, .unset, .unset, .unset, .unset] [(.double (own_U us gl))])) τ
      refine own_dstore X14.here hx rfl (Jvm.hb hby d4_37) rfl (l' := #[.val (.ref a), .val (.double ot), .second, .val (.double gl), .second, .val (.int (0 : Int32)), .val (.double (own_U us gl)), .second, .unset, .unset, .unset, .unset]) rfl ?_
      refine XS.iload X14.here hx rfl (Jvm.hb hby d4_39) rfl ?_
      refine XS.ifYes X14.here hx rfl (pc0 := 41) (pc' := 56) rfl (Jvm.hb hby d4_41) rfl ((if0 _ _).trans (teq rfl).1) (by decide) (by decide) ?_
      refine own_dload X14.here hx rfl (Jvm.hb hby d4_56) rfl ?_
      refine own_dconst1 X14.here hx rfl (Jvm.hb hby d4_58) ?_
      refine own_ddiv X14.here hx rfl (Jvm.hb hby d4_59) rfl (n3) ?_
      refine own_dstore X14.here hx rfl (Jvm.hb hby d4_60) rfl (l' := #[.val (.ref a), .val (.double ot), .second, .val (.double gl), .second, .val (.int (0 : Int32)), .val (.double (own_U us gl)), .second, .val (.double (FP.ddiv (own_U us gl) FP.dconst1)), .second, .unset, .unset]) rfl ?_
      refine XS.aloadN X14.here hx rfl (Jvm.hb hby d4_62) rfl rfl ?_
      exact st16 τ kt)
    have pre18 := fun (τ : State) kt => pre17 τ (by
      show Steps p.tables e below (T16.setTop (mkF m 66 #[.val (.ref a), .val (.double ot), .second, .val (.double gl), .second, .val (.int (0 : Int32)), .val (.double (own_U us gl)), .second, .val (.double (FP.ddiv (own_U us gl) FP.dconst1)), .second, .unset, .unset] [(.double he)])) τ
      refine X16.ldc2DoubleC hx hown (mvT hZ (own_W51 hw)) (g := (mkF m 66 #[.val (.ref a), .val (.double ot), .second, .val (.double gl), .second, .val (.int (0 : Int32)), .val (.double (own_U us gl)), .second, .val (.double (FP.ddiv (own_U us gl) FP.dconst1)), .second, .unset, .unset] [(.double he)])) rfl (Jvm.hb hby d4_66) _ ?_
      refine own_dcmp X16.here hx rfl (Jvm.hb hby d4_69) rfl ?_
      exact kt)
    have hL : own_L8 li us fa gl = (FP.ddiv (own_U us gl) FP.dconst1) := by
      unfold own_L8
      rw [if_pos qA]
    by_cases qH : (cmpValue (FP.dcmp he (4602678819172646912 : UInt64)) .l) < (0 : Int32)
    · skip
      obtain ⟨_, T19, L19, X19, ⟨rfl, Nq19, eq19⟩, st19⟩ := own_virt (y := own_mn2) (b := a) X16 hx hZ hown (own_W46 hw) (own_W47 hw) (own_W49 hw) (own_W48 hw) (by decide) (rm_held l Z a0 hw [] a he h0 n0 (Nat.le_trans Z0 KK0.1) F_held) (own_W50 hw) (own_W7 hw) 0 (by decide) (by decide) E7 eq16 (mkF m 86 #[.val (.ref a), .val (.double ot), .second, .val (.double gl), .second, .val (.int (0 : Int32)), .val (.double (own_U us gl)), .second, .val (.double (FP.ddiv (own_U us gl) FP.dconst1)), .second, .unset, .unset] [(.ref a)]) rfl (by rw [hml]; rfl) [] [] rfl (lenOf own_pd___D rfl) rfl (Nat.le_refl _) (Jvm.hb hby d4_86) (by decide) (by decide)
      have N19 := Fr.app N16 Nq19
      have pre20 := fun (τ : State) kt => pre18 τ (by
        show Steps p.tables e below (T16.setTop (mkF m 70 #[.val (.ref a), .val (.double ot), .second, .val (.double gl), .second, .val (.int (0 : Int32)), .val (.double (own_U us gl)), .second, .val (.double (FP.ddiv (own_U us gl) FP.dconst1)), .second, .unset, .unset] [(.int (cmpValue (FP.dcmp he (4602678819172646912 : UInt64)) .l))])) τ
        refine XS.ifYes X16.here hx rfl (pc0 := 70) (pc' := 85) rfl (Jvm.hb hby d4_70) rfl ((if0 _ _).trans (tlt qH).1) (by decide) (by decide) ?_
        refine XS.aloadN X16.here hx rfl (Jvm.hb hby d4_85) rfl rfl ?_
        exact st19 τ kt)
      obtain ⟨_, T21, L21, X21, ⟨rfl, Nq21, eq21⟩, st21⟩ := own_virt (y := own_mn1) (b := a) X19 hx hZ hown (own_W36 hw) (own_W37 hw) (own_W39 hw) (own_W38 hw) (by decide) (rm_used l Z a0 hw [] a us h0 n0 (Nat.le_trans Z0 KK0.1) F_used) (own_W40 hw) (own_W7 hw) 0 (by decide) (by decide) E7 eq19 (mkF m 121 #[.val (.ref a), .val (.double ot), .second, .val (.double gl), .second, .val (.int (0 : Int32)), .val (.double (own_U us gl)), .second, .val (.double (FP.ddiv (own_U us gl) FP.dconst1)), .second, .unset, .unset] [(.ref a)]) rfl (by rw [hml]; rfl) [] [] rfl (lenOf own_pd___D rfl) rfl (Nat.le_refl _) (Jvm.hb hby d4_121) (by decide) (by decide)
      have N21 := Fr.app N19 Nq21
      have pre22 := fun (τ : State) kt => pre20 τ (by
        show Steps p.tables e below (T19.setTop (mkF m 89 #[.val (.ref a), .val (.double ot), .second, .val (.double gl), .second, .val (.int (0 : Int32)), .val (.double (own_U us gl)), .second, .val (.double (FP.ddiv (own_U us gl) FP.dconst1)), .second, .unset, .unset] [(.double he)])) τ
        refine X19.ldc2DoubleC hx hown (mvT hZ (own_W51 hw)) (g := (mkF m 89 #[.val (.ref a), .val (.double ot), .second, .val (.double gl), .second, .val (.int (0 : Int32)), .val (.double (own_U us gl)), .second, .val (.double (FP.ddiv (own_U us gl) FP.dconst1)), .second, .unset, .unset] [(.double he)])) rfl (Jvm.hb hby d4_89) _ ?_
        refine own_dcmp X19.here hx rfl (Jvm.hb hby d4_92) rfl ?_
        refine XS.ifYes X19.here hx rfl (pc0 := 93) (pc' := 120) rfl (Jvm.hb hby d4_93) rfl ((if0 _ _).trans (tlt qH).1) (by decide) (by decide) ?_
        refine XS.aloadN X19.here hx rfl (Jvm.hb hby d4_120) rfl rfl ?_
        exact st21 τ kt)
      have pre23 := fun (τ : State) kt => pre22 τ (by
        show Steps p.tables e below (T21.setTop (mkF m 124 #[.val (.ref a), .val (.double ot), .second, .val (.double gl), .second, .val (.int (0 : Int32)), .val (.double (own_U us gl)), .second, .val (.double (FP.ddiv (own_U us gl) FP.dconst1)), .second, .unset, .unset] [(.double us)])) τ
        refine own_dconst1 X21.here hx rfl (Jvm.hb hby d4_124) ?_
        refine own_dcmp X21.here hx rfl (Jvm.hb hby d4_125) rfl ?_
        exact kt)
      by_cases qS : (cmpValue (FP.dcmp us FP.dconst1) .g) < (0 : Int32)
      · skip
        have hr : own_wt li us fa he ot gl = FP.dconst0 := by
          unfold own_wt
          rw [if_pos qH]
          rw [if_pos qS]
        have pre24 := fun (τ : State) kt => pre23 τ (by
          show Steps p.tables e below (T21.setTop (mkF m 126 #[.val (.ref a), .val (.double ot), .second, .val (.double gl), .second, .val (.int (0 : Int32)), .val (.double (own_U us gl)), .second, .val (.double (FP.ddiv (own_U us gl) FP.dconst1)), .second, .unset, .unset] [(.int (cmpValue (FP.dcmp us FP.dconst1) .g))])) τ
          refine XS.ifNo X21.here hx rfl (Jvm.hb hby d4_126) rfl ((if0 _ _).trans (tlt qS).2.1) ?_
          refine own_dconst0 X21.here hx rfl (Jvm.hb hby d4_129) ?_
          refine own_dstore X21.here hx rfl (Jvm.hb hby d4_130) rfl (l' := #[.val (.ref a), .val (.double ot), .second, .val (.double gl), .second, .val (.int (0 : Int32)), .val (.double (own_U us gl)), .second, .val (.double (FP.ddiv (own_U us gl) FP.dconst1)), .second, .val (.double FP.dconst0), .second]) rfl ?_
          refine XS.goto X21.here hx rfl (pc0 := 132) (pc' := 170) rfl (Jvm.hb hby d4_132) (by decide) (by decide) ?_
          refine own_dload X21.here hx rfl (Jvm.hb hby d4_170) rfl ?_
          exact kt)
        obtain ⟨fs, hrL, hrun, hended, hW, hsame⟩ := X21.leave (v := some (.double FP.dconst0)) (fun h => by rw [Bd.returns] at h; cases h)
        refine ⟨_, _, cast (congrFun hPS _) (pre24 _ ?_), hrun, hended, _, _, rfl, ?_, ⟨_, rfl⟩, hW, hsame.mono (by decide) (by decide)⟩
        · show Steps p.tables e below (T21.setTop (mkF m 172 #[.val (.ref a), .val (.double ot), .second, .val (.double gl), .second, .val (.int (0 : Int32)), .val (.double (own_U us gl)), .second, .val (.double (FP.ddiv (own_U us gl) FP.dconst1)), .second, .val (.double FP.dconst0), .second] [(.double FP.dconst0)])) _
          exact own_retD X21 hx Bd.returns (Jvm.hb hby d4_172) hrL
        · show QR (own_wt li us fa he ot gl) h0 n0 _ T21.heap _
          rw [eq21]
          exact ⟨congrArg (fun z => some (Value.double z)) hr.symm, N21, rfl⟩
      · skip
        have pre25 := fun (τ : State) kt => pre23 τ (by
          show Steps p.tables e below (T21.setTop (mkF m 126 #[.val (.ref a), .val (.double ot), .second, .val (.double gl), .second, .val (.int (0 : Int32)), .val (.double (own_U us gl)), .second, .val (.double (FP.ddiv (own_U us gl) FP.dconst1)), .second, .unset, .unset] [(.int (cmpValue (FP.dcmp us FP.dconst1) .g))])) τ
          refine XS.ifYes X21.here hx rfl (pc0 := 126) (pc' := 135) rfl (Jvm.hb hby d4_126) rfl ((if0 _ _).trans (flt qS).2.1) (by decide) (by decide) ?_
          refine own_dloadN X21.here hx rfl (Jvm.hb hby d4_135) rfl ?_
          refine own_dconst0 X21.here hx rfl (Jvm.hb hby d4_136) ?_
          refine own_dcmp X21.here hx rfl (Jvm.hb hby d4_137) rfl ?_
          exact kt)
        by_cases qO : (0 : Int32) < (cmpValue (FP.dcmp ot FP.dconst0) .l)
        · skip
          obtain ⟨_, vm26, _, -, X26, ⟨rfl, rfl⟩, st26⟩ := Jvm.LawKit.callS X21 hx (y := (⟨"java/lang/Math", "min", "(DD)D"⟩ : MethodName)) hown (mvT hZ (own_W42 hw)) (mvT hZ (own_W43 hw)) (mvT hZ (own_W44 hw)) (mvT hZ (own_W45 hw)) (by decide) (Jvm.Free.Fl.Abs.minD_pays (W := 0) (FP.ddiv (FP.dmul (own_U us gl) ot) (FP.dsub gl (own_U us gl))) (FP.ddiv (own_U us gl) FP.dconst1) (mvT hZ (own_W45 hw)) (by decide) (by decide)) (g := (mkF m 152 #[.val (.ref a), .val (.double ot), .second, .val (.double gl), .second, .val (.int (0 : Int32)), .val (.double (own_U us gl)), .second, .val (.double (FP.ddiv (own_U us gl) FP.dconst1)), .second, .unset, .unset] [(.double (FP.ddiv (own_U us gl) FP.dconst1)), (.double (FP.ddiv (FP.dmul (own_U us gl) ot) (FP.dsub gl (own_U us gl))))])) rfl (by rw [hml]; rfl) (argsL := [(.double (FP.ddiv (FP.dmul (own_U us gl) ot) (FP.dsub gl (own_U us gl)))), (.double (FP.ddiv (own_U us gl) FP.dconst1))]) (rest := []) (lenOf own_pd__DD_D rfl) rfl (by show 2 * 0 + _ ≤ _; exact Nat.le_of_eq rfl) (Jvm.hb hby d4_152) (fun _ _ => ⟨(by decide : 0 ≤ _), (by decide : 0 ≤ _), rfl, (n5 qS qO).2.2.1, n3⟩)
          dsimp only [Pt.U, Pt.locs, Pt.cells, Pt.slots] at X26 st26
          have e26 : (T21.setVm vm26).heap = h0 := eq21
          have pre27 := fun (τ : State) kt => pre25 τ (by
            show Steps p.tables e below (T21.setTop (mkF m 138 #[.val (.ref a), .val (.double ot), .second, .val (.double gl), .second, .val (.int (0 : Int32)), .val (.double (own_U us gl)), .second, .val (.double (FP.ddiv (own_U us gl) FP.dconst1)), .second, .unset, .unset] [(.int (cmpValue (FP.dcmp ot FP.dconst0) .l))])) τ
            refine XS.ifNo X21.here hx rfl (Jvm.hb hby d4_138) rfl ((if0 _ _).trans (tlt qO).2.2.2) ?_
            refine own_dload X21.here hx rfl (Jvm.hb hby d4_141) rfl ?_
            refine own_dloadN X21.here hx rfl (Jvm.hb hby d4_143) rfl ?_
            refine own_dmul X21.here hx rfl (Jvm.hb hby d4_144) rfl ((n5 qS qO).1) ?_
            refine own_dloadN X21.here hx rfl (Jvm.hb hby d4_145) rfl ?_
            refine own_dload X21.here hx rfl (Jvm.hb hby d4_146) rfl ?_
            refine own_dsub X21.here hx rfl (Jvm.hb hby d4_148) rfl ((n5 qS qO).2.1) ?_
            refine own_ddiv X21.here hx rfl (Jvm.hb hby d4_149) rfl ((n5 qS qO).2.2.1) ?_
            refine own_dload X21.here hx rfl (Jvm.hb hby d4_150) rfl ?_
            exact st26 τ kt)
          obtain ⟨_, vm28, _, -, X28, ⟨rfl, rfl⟩, st28⟩ := Jvm.LawKit.callS X26 hx (y := (⟨"java/lang/Math", "max", "(DD)D"⟩ : MethodName)) hown (mvT hZ (own_W58 hw)) (mvT hZ (own_W59 hw)) (mvT hZ (own_W44 hw)) (mvT hZ (own_W60 hw)) (by decide) (Jvm.Free.Fl.Abs.maxD_pays (W := 0) (Native.java_lang_Math.nans.pick64 false (own_quo us ot gl) (FP.ddiv (own_U us gl) FP.dconst1)) (FP.ddiv (own_U us gl) gl) (mvT hZ (own_W60 hw)) (by decide) (by decide)) (g := (mkF m 159 #[.val (.ref a), .val (.double ot), .second, .val (.double gl), .second, .val (.int (0 : Int32)), .val (.double (own_U us gl)), .second, .val (.double (FP.ddiv (own_U us gl) FP.dconst1)), .second, .unset, .unset] [(.double (FP.ddiv (own_U us gl) gl)), (.double (Native.java_lang_Math.nans.pick64 false (own_quo us ot gl) (FP.ddiv (own_U us gl) FP.dconst1)))])) rfl (by rw [hml]; rfl) (argsL := [(.double (Native.java_lang_Math.nans.pick64 false (own_quo us ot gl) (FP.ddiv (own_U us gl) FP.dconst1))), (.double (FP.ddiv (own_U us gl) gl))]) (rest := []) (lenOf own_pd__DD_D rfl) rfl (by show 2 * 0 + _ ≤ _; exact Nat.le_of_eq rfl) (Jvm.hb hby d4_159) (fun _ _ => ⟨(by decide : 0 ≤ _), (by decide : 0 ≤ _), rfl, own_pick_no (n5 qS qO).2.2.1 n3, (n5 qS qO).2.2.2⟩)
          dsimp only [Pt.U, Pt.locs, Pt.cells, Pt.slots] at X28 st28
          have e28 : ((T21.setVm vm26).setVm vm28).heap = h0 := e26
          have pre29 := fun (τ : State) kt => pre27 τ (by
            show Steps p.tables e below ((T21.setVm vm26).setTop (mkF m 155 #[.val (.ref a), .val (.double ot), .second, .val (.double gl), .second, .val (.int (0 : Int32)), .val (.double (own_U us gl)), .second, .val (.double (FP.ddiv (own_U us gl) FP.dconst1)), .second, .unset, .unset] [(.double (Native.java_lang_Math.nans.pick64 false (own_quo us ot gl) (FP.ddiv (own_U us gl) FP.dconst1)))])) τ
            refine own_dload X26.here hx rfl (Jvm.hb hby d4_155) rfl ?_
            refine own_dloadN X26.here hx rfl (Jvm.hb hby d4_157) rfl ?_
            refine own_ddiv X26.here hx rfl (Jvm.hb hby d4_158) rfl ((n5 qS qO).2.2.2) ?_
            exact st28 τ kt)
          have hr : own_wt li us fa he ot gl = (Native.java_lang_Math.nans.pick64 true (Native.java_lang_Math.nans.pick64 false (own_quo us ot gl) (FP.ddiv (own_U us gl) FP.dconst1)) (FP.ddiv (own_U us gl) gl)) := by
            unfold own_wt
            rw [if_pos qH]
            rw [if_neg qS]
            rw [show own_tail (own_L8 li us fa gl) us ot gl = _ from if_pos qO]
            rw [hL]
          have pre30 := fun (τ : State) kt => pre29 τ (by
            show Steps p.tables e below (((T21.setVm vm26).setVm vm28).setTop (mkF m 162 #[.val (.ref a), .val (.double ot), .second, .val (.double gl), .second, .val (.int (0 : Int32)), .val (.double (own_U us gl)), .second, .val (.double (FP.ddiv (own_U us gl) FP.dconst1)), .second, .unset, .unset] [(.double (Native.java_lang_Math.nans.pick64 true (Native.java_lang_Math.nans.pick64 false (own_quo us ot gl) (FP.ddiv (own_U us gl) FP.dconst1)) (FP.ddiv (own_U us gl) gl)))])) τ
            refine own_dstore X28.here hx rfl (Jvm.hb hby d4_162) rfl (l' := #[.val (.ref a), .val (.double ot), .second, .val (.double gl), .second, .val (.int (0 : Int32)), .val (.double (own_U us gl)), .second, .val (.double (FP.ddiv (own_U us gl) FP.dconst1)), .second, .val (.double (Native.java_lang_Math.nans.pick64 true (Native.java_lang_Math.nans.pick64 false (own_quo us ot gl) (FP.ddiv (own_U us gl) FP.dconst1)) (FP.ddiv (own_U us gl) gl))), .second]) rfl ?_
            refine XS.goto X28.here hx rfl (pc0 := 164) (pc' := 170) rfl (Jvm.hb hby d4_164) (by decide) (by decide) ?_
            refine own_dload X28.here hx rfl (Jvm.hb hby d4_170) rfl ?_
            exact kt)
          obtain ⟨fs, hrL, hrun, hended, hW, hsame⟩ := X28.leave (v := some (.double (Native.java_lang_Math.nans.pick64 true (Native.java_lang_Math.nans.pick64 false (own_quo us ot gl) (FP.ddiv (own_U us gl) FP.dconst1)) (FP.ddiv (own_U us gl) gl)))) (fun h => by rw [Bd.returns] at h; cases h)
          refine ⟨_, _, cast (congrFun hPS _) (pre30 _ ?_), hrun, hended, _, _, rfl, ?_, ⟨_, rfl⟩, hW, hsame.mono (by decide) (by decide)⟩
          · show Steps p.tables e below (((T21.setVm vm26).setVm vm28).setTop (mkF m 172 #[.val (.ref a), .val (.double ot), .second, .val (.double gl), .second, .val (.int (0 : Int32)), .val (.double (own_U us gl)), .second, .val (.double (FP.ddiv (own_U us gl) FP.dconst1)), .second, .val (.double (Native.java_lang_Math.nans.pick64 true (Native.java_lang_Math.nans.pick64 false (own_quo us ot gl) (FP.ddiv (own_U us gl) FP.dconst1)) (FP.ddiv (own_U us gl) gl))), .second] [(.double (Native.java_lang_Math.nans.pick64 true (Native.java_lang_Math.nans.pick64 false (own_quo us ot gl) (FP.ddiv (own_U us gl) FP.dconst1)) (FP.ddiv (own_U us gl) gl)))])) _
            exact own_retD X28 hx Bd.returns (Jvm.hb hby d4_172) hrL
          · show QR (own_wt li us fa he ot gl) h0 n0 _ ((T21.setVm vm26).setVm vm28).heap _
            rw [e28]
            exact ⟨congrArg (fun z => some (Value.double z)) hr.symm, N21, rfl⟩
        · skip
          have hr : own_wt li us fa he ot gl = FP.dconst1 := by
            unfold own_wt
            rw [if_pos qH]
            rw [if_neg qS]
            rw [show own_tail (own_L8 li us fa gl) us ot gl = _ from if_neg qO]
          have pre31 := fun (τ : State) kt => pre25 τ (by
            show Steps p.tables e below (T21.setTop (mkF m 138 #[.val (.ref a), .val (.double ot), .second, .val (.double gl), .second, .val (.int (0 : Int32)), .val (.double (own_U us gl)), .second, .val (.double (FP.ddiv (own_U us gl) FP.dconst1)), .second, .unset, .unset] [(.int (cmpValue (FP.dcmp ot FP.dconst0) .l))])) τ
            refine XS.ifYes X21.here hx rfl (pc0 := 138) (pc' := 167) rfl (Jvm.hb hby d4_138) rfl ((if0 _ _).trans (flt qO).2.2.2) (by decide) (by decide) ?_
            refine own_dconst1 X21.here hx rfl (Jvm.hb hby d4_167) ?_
            refine own_dstore X21.here hx rfl (Jvm.hb hby d4_168) rfl (l' := #[.val (.ref a), .val (.double ot), .second, .val (.double gl), .second, .val (.int (0 : Int32)), .val (.double (own_U us gl)), .second, .val (.double (FP.ddiv (own_U us gl) FP.dconst1)), .second, .val (.double FP.dconst1), .second]) rfl ?_
            refine own_dload X21.here hx rfl (Jvm.hb hby d4_170) rfl ?_
            exact kt)
          obtain ⟨fs, hrL, hrun, hended, hW, hsame⟩ := X21.leave (v := some (.double FP.dconst1)) (fun h => by rw [Bd.returns] at h; cases h)
          refine ⟨_, _, cast (congrFun hPS _) (pre31 _ ?_), hrun, hended, _, _, rfl, ?_, ⟨_, rfl⟩, hW, hsame.mono (by decide) (by decide)⟩
          · show Steps p.tables e below (T21.setTop (mkF m 172 #[.val (.ref a), .val (.double ot), .second, .val (.double gl), .second, .val (.int (0 : Int32)), .val (.double (own_U us gl)), .second, .val (.double (FP.ddiv (own_U us gl) FP.dconst1)), .second, .val (.double FP.dconst1), .second] [(.double FP.dconst1)])) _
            exact own_retD X21 hx Bd.returns (Jvm.hb hby d4_172) hrL
          · show QR (own_wt li us fa he ot gl) h0 n0 _ T21.heap _
            rw [eq21]
            exact ⟨congrArg (fun z => some (Value.double z)) hr.symm, N21, rfl⟩
    · skip
      obtain ⟨_, T32, L32, X32, ⟨rfl, Nq32, eq32⟩, st32⟩ := own_virt (y := own_mn2) (b := a) X16 hx hZ hown (own_W46 hw) (own_W47 hw) (own_W49 hw) (own_W48 hw) (by decide) (rm_held l Z a0 hw [] a he h0 n0 (Nat.le_trans Z0 KK0.1) F_held) (own_W50 hw) (own_W7 hw) 0 (by decide) (by decide) E7 eq16 (mkF m 86 #[.val (.ref a), .val (.double ot), .second, .val (.double gl), .second, .val (.int (0 : Int32)), .val (.double (own_U us gl)), .second, .val (.double (FP.ddiv (own_U us gl) FP.dconst1)), .second, .unset, .unset] [(.ref a)]) rfl (by rw [hml]; rfl) [] [] rfl (lenOf own_pd___D rfl) rfl (Nat.le_refl _) (Jvm.hb hby d4_86) (by decide) (by decide)
      have N32 := Fr.app N16 Nq32
      have pre33 := fun (τ : State) kt => pre18 τ (by
        show Steps p.tables e below (T16.setTop (mkF m 70 #[.val (.ref a), .val (.double ot), .second, .val (.double gl), .second, .val (.int (0 : Int32)), .val (.double (own_U us gl)), .second, .val (.double (FP.ddiv (own_U us gl) FP.dconst1)), .second, .unset, .unset] [(.int (cmpValue (FP.dcmp he (4602678819172646912 : UInt64)) .l))])) τ
        refine XS.ifNo X16.here hx rfl (Jvm.hb hby d4_70) rfl ((if0 _ _).trans (flt qH).1) ?_
        refine XS.iload X16.here hx rfl (Jvm.hb hby d4_73) rfl ?_
        refine XS.ifYes X16.here hx rfl (pc0 := 75) (pc' := 85) rfl (Jvm.hb hby d4_75) rfl ((if0 _ _).trans (teq rfl).1) (by decide) (by decide) ?_
        refine XS.aloadN X16.here hx rfl (Jvm.hb hby d4_85) rfl rfl ?_
        exact st32 τ kt)
      obtain ⟨_, T34, L34, X34, ⟨rfl, Nq34, eq34⟩, st34⟩ := own_virt (y := own_mn3) (b := a) X32 hx hZ hown (own_W53 hw) (own_W54 hw) (own_W56 hw) (own_W55 hw) (by decide) (rm_limit l Z a0 hw [] a li h0 n0 (Nat.le_trans Z0 KK0.1) F_limit) (own_W57 hw) (own_W7 hw) 0 (by decide) (by decide) E7 eq32 (mkF m 97 #[.val (.ref a), .val (.double ot), .second, .val (.double gl), .second, .val (.int (0 : Int32)), .val (.double (own_U us gl)), .second, .val (.double (FP.ddiv (own_U us gl) FP.dconst1)), .second, .unset, .unset] [(.ref a)]) rfl (by rw [hml]; rfl) [] [] rfl (lenOf own_pd___D rfl) rfl (Nat.le_refl _) (Jvm.hb hby d4_97) (by decide) (by decide)
      have N34 := Fr.app N32 Nq34
      have pre35 := fun (τ : State) kt => pre33 τ (by
        show Steps p.tables e below (T32.setTop (mkF m 89 #[.val (.ref a), .val (.double ot), .second, .val (.double gl), .second, .val (.int (0 : Int32)), .val (.double (own_U us gl)), .second, .val (.double (FP.ddiv (own_U us gl) FP.dconst1)), .second, .unset, .unset] [(.double he)])) τ
        refine X32.ldc2DoubleC hx hown (mvT hZ (own_W51 hw)) (g := (mkF m 89 #[.val (.ref a), .val (.double ot), .second, .val (.double gl), .second, .val (.int (0 : Int32)), .val (.double (own_U us gl)), .second, .val (.double (FP.ddiv (own_U us gl) FP.dconst1)), .second, .unset, .unset] [(.double he)])) rfl (Jvm.hb hby d4_89) _ ?_
        refine own_dcmp X32.here hx rfl (Jvm.hb hby d4_92) rfl ?_
        refine XS.ifNo X32.here hx rfl (Jvm.hb hby d4_93) rfl ((if0 _ _).trans (flt qH).1) ?_
        refine XS.aloadN X32.here hx rfl (Jvm.hb hby d4_96) rfl rfl ?_
        exact st34 τ kt)
      have pre36 := fun (τ : State) kt => pre35 τ (by
        show Steps p.tables e below (T34.setTop (mkF m 100 #[.val (.ref a), .val (.double ot), .second, .val (.double gl), .second, .val (.int (0 : Int32)), .val (.double (own_U us gl)), .second, .val (.double (FP.ddiv (own_U us gl) FP.dconst1)), .second, .unset, .unset] [(.double li)])) τ
        refine own_dconst0 X34.here hx rfl (Jvm.hb hby d4_100) ?_
        refine own_dcmp X34.here hx rfl (Jvm.hb hby d4_101) rfl ?_
        exact kt)
      by_cases qZ : (cmpValue (FP.dcmp li FP.dconst0) .l) = (0 : Int32)
      · skip
        have hr : own_wt li us fa he ot gl = FP.dconst1 := by
          unfold own_wt
          rw [if_neg qH]
          rw [if_neg (fun q => q.1 qA)]
          rw [if_pos qZ]
        have pre37 := fun (τ : State) kt => pre36 τ (by
          show Steps p.tables e below (T34.setTop (mkF m 102 #[.val (.ref a), .val (.double ot), .second, .val (.double gl), .second, .val (.int (0 : Int32)), .val (.double (own_U us gl)), .second, .val (.double (FP.ddiv (own_U us gl) FP.dconst1)), .second, .unset, .unset] [(.int (cmpValue (FP.dcmp li FP.dconst0) .l))])) τ
          refine XS.ifYes X34.here hx rfl (pc0 := 102) (pc' := 114) rfl (Jvm.hb hby d4_102) rfl ((if0 _ _).trans (teq qZ).1) (by decide) (by decide) ?_
          refine own_dconst1 X34.here hx rfl (Jvm.hb hby d4_114) ?_
          refine own_dstore X34.here hx rfl (Jvm.hb hby d4_115) rfl (l' := #[.val (.ref a), .val (.double ot), .second, .val (.double gl), .second, .val (.int (0 : Int32)), .val (.double (own_U us gl)), .second, .val (.double (FP.ddiv (own_U us gl) FP.dconst1)), .second, .val (.double FP.dconst1), .second]) rfl ?_
          refine XS.goto X34.here hx rfl (pc0 := 117) (pc' := 170) rfl (Jvm.hb hby d4_117) (by decide) (by decide) ?_
          refine own_dload X34.here hx rfl (Jvm.hb hby d4_170) rfl ?_
          exact kt)
        obtain ⟨fs, hrL, hrun, hended, hW, hsame⟩ := X34.leave (v := some (.double FP.dconst1)) (fun h => by rw [Bd.returns] at h; cases h)
        refine ⟨_, _, cast (congrFun hPS _) (pre37 _ ?_), hrun, hended, _, _, rfl, ?_, ⟨_, rfl⟩, hW, hsame.mono (by decide) (by decide)⟩
        · show Steps p.tables e below (T34.setTop (mkF m 172 #[.val (.ref a), .val (.double ot), .second, .val (.double gl), .second, .val (.int (0 : Int32)), .val (.double (own_U us gl)), .second, .val (.double (FP.ddiv (own_U us gl) FP.dconst1)), .second, .val (.double FP.dconst1), .second] [(.double FP.dconst1)])) _
          exact own_retD X34 hx Bd.returns (Jvm.hb hby d4_172) hrL
        · show QR (own_wt li us fa he ot gl) h0 n0 _ T34.heap _
          rw [eq34]
          exact ⟨congrArg (fun z => some (Value.double z)) hr.symm, N34, rfl⟩
      · skip
        obtain ⟨_, T38, L38, X38, ⟨rfl, Nq38, eq38⟩, st38⟩ := own_virt (y := own_mn1) (b := a) X34 hx hZ hown (own_W36 hw) (own_W37 hw) (own_W39 hw) (own_W38 hw) (by decide) (rm_used l Z a0 hw [] a us h0 n0 (Nat.le_trans Z0 KK0.1) F_used) (own_W40 hw) (own_W7 hw) 0 (by decide) (by decide) E7 eq34 (mkF m 106 #[.val (.ref a), .val (.double ot), .second, .val (.double gl), .second, .val (.int (0 : Int32)), .val (.double (own_U us gl)), .second, .val (.double (FP.ddiv (own_U us gl) FP.dconst1)), .second, .unset, .unset] [(.ref a)]) rfl (by rw [hml]; rfl) [] [] rfl (lenOf own_pd___D rfl) rfl (Nat.le_refl _) (Jvm.hb hby d4_106) (by decide) (by decide)
        have N38 := Fr.app N34 Nq38
        have pre39 := fun (τ : State) kt => pre36 τ (by
          show Steps p.tables e below (T34.setTop (mkF m 102 #[.val (.ref a), .val (.double ot), .second, .val (.double gl), .second, .val (.int (0 : Int32)), .val (.double (own_U us gl)), .second, .val (.double (FP.ddiv (own_U us gl) FP.dconst1)), .second, .unset, .unset] [(.int (cmpValue (FP.dcmp li FP.dconst0) .l))])) τ
          refine XS.ifNo X34.here hx rfl (Jvm.hb hby d4_102) rfl ((if0 _ _).trans (feq qZ).1) ?_
          refine XS.aloadN X34.here hx rfl (Jvm.hb hby d4_105) rfl rfl ?_
          exact st38 τ kt)
        have pre40 := fun (τ : State) kt => pre39 τ (by
          show Steps p.tables e below (T38.setTop (mkF m 109 #[.val (.ref a), .val (.double ot), .second, .val (.double gl), .second, .val (.int (0 : Int32)), .val (.double (own_U us gl)), .second, .val (.double (FP.ddiv (own_U us gl) FP.dconst1)), .second, .unset, .unset] [(.double us)])) τ
          refine own_dconst1 X38.here hx rfl (Jvm.hb hby d4_109) ?_
          refine own_dcmp X38.here hx rfl (Jvm.hb hby d4_110) rfl ?_
          exact kt)
        by_cases qS : (cmpValue (FP.dcmp us FP.dconst1) .g) < (0 : Int32)
        · skip
          have hr : own_wt li us fa he ot gl = FP.dconst1 := by
            unfold own_wt
            rw [if_neg qH]
            rw [if_neg (fun q => q.1 qA)]
            rw [if_neg qZ]
            rw [if_pos qS]
          have pre41 := fun (τ : State) kt => pre40 τ (by
            show Steps p.tables e below (T38.setTop (mkF m 111 #[.val (.ref a), .val (.double ot), .second, .val (.double gl), .second, .val (.int (0 : Int32)), .val (.double (own_U us gl)), .second, .val (.double (FP.ddiv (own_U us gl) FP.dconst1)), .second, .unset, .unset] [(.int (cmpValue (FP.dcmp us FP.dconst1) .g))])) τ
            refine XS.ifNo X38.here hx rfl (Jvm.hb hby d4_111) rfl ((if0 _ _).trans (tlt qS).2.1) ?_
            refine own_dconst1 X38.here hx rfl (Jvm.hb hby d4_114) ?_
            refine own_dstore X38.here hx rfl (Jvm.hb hby d4_115) rfl (l' := #[.val (.ref a), .val (.double ot), .second, .val (.double gl), .second, .val (.int (0 : Int32)), .val (.double (own_U us gl)), .second, .val (.double (FP.ddiv (own_U us gl) FP.dconst1)), .second, .val (.double FP.dconst1), .second]) rfl ?_
            refine XS.goto X38.here hx rfl (pc0 := 117) (pc' := 170) rfl (Jvm.hb hby d4_117) (by decide) (by decide) ?_
            refine own_dload X38.here hx rfl (Jvm.hb hby d4_170) rfl ?_
            exact kt)
          obtain ⟨fs, hrL, hrun, hended, hW, hsame⟩ := X38.leave (v := some (.double FP.dconst1)) (fun h => by rw [Bd.returns] at h; cases h)
          refine ⟨_, _, cast (congrFun hPS _) (pre41 _ ?_), hrun, hended, _, _, rfl, ?_, ⟨_, rfl⟩, hW, hsame.mono (by decide) (by decide)⟩
          · show Steps p.tables e below (T38.setTop (mkF m 172 #[.val (.ref a), .val (.double ot), .second, .val (.double gl), .second, .val (.int (0 : Int32)), .val (.double (own_U us gl)), .second, .val (.double (FP.ddiv (own_U us gl) FP.dconst1)), .second, .val (.double FP.dconst1), .second] [(.double FP.dconst1)])) _
            exact own_retD X38 hx Bd.returns (Jvm.hb hby d4_172) hrL
          · show QR (own_wt li us fa he ot gl) h0 n0 _ T38.heap _
            rw [eq38]
            exact ⟨congrArg (fun z => some (Value.double z)) hr.symm, N38, rfl⟩
        · skip
          obtain ⟨_, T42, L42, X42, ⟨rfl, Nq42, eq42⟩, st42⟩ := own_virt (y := own_mn1) (b := a) X38 hx hZ hown (own_W36 hw) (own_W37 hw) (own_W39 hw) (own_W38 hw) (by decide) (rm_used l Z a0 hw [] a us h0 n0 (Nat.le_trans Z0 KK0.1) F_used) (own_W40 hw) (own_W7 hw) 0 (by decide) (by decide) E7 eq38 (mkF m 121 #[.val (.ref a), .val (.double ot), .second, .val (.double gl), .second, .val (.int (0 : Int32)), .val (.double (own_U us gl)), .second, .val (.double (FP.ddiv (own_U us gl) FP.dconst1)), .second, .unset, .unset] [(.ref a)]) rfl (by rw [hml]; rfl) [] [] rfl (lenOf own_pd___D rfl) rfl (Nat.le_refl _) (Jvm.hb hby d4_121) (by decide) (by decide)
          have N42 := Fr.app N38 Nq42
          have pre43 := fun (τ : State) kt => pre40 τ (by
            show Steps p.tables e below (T38.setTop (mkF m 111 #[.val (.ref a), .val (.double ot), .second, .val (.double gl), .second, .val (.int (0 : Int32)), .val (.double (own_U us gl)), .second, .val (.double (FP.ddiv (own_U us gl) FP.dconst1)), .second, .unset, .unset] [(.int (cmpValue (FP.dcmp us FP.dconst1) .g))])) τ
            refine XS.ifYes X38.here hx rfl (pc0 := 111) (pc' := 120) rfl (Jvm.hb hby d4_111) rfl ((if0 _ _).trans (flt qS).2.1) (by decide) (by decide) ?_
            refine XS.aloadN X38.here hx rfl (Jvm.hb hby d4_120) rfl rfl ?_
            exact st42 τ kt)
          have pre44 := fun (τ : State) kt => pre43 τ (by
            show Steps p.tables e below (T42.setTop (mkF m 124 #[.val (.ref a), .val (.double ot), .second, .val (.double gl), .second, .val (.int (0 : Int32)), .val (.double (own_U us gl)), .second, .val (.double (FP.ddiv (own_U us gl) FP.dconst1)), .second, .unset, .unset] [(.double us)])) τ
            refine own_dconst1 X42.here hx rfl (Jvm.hb hby d4_124) ?_
            refine own_dcmp X42.here hx rfl (Jvm.hb hby d4_125) rfl ?_
            refine XS.ifYes X42.here hx rfl (pc0 := 126) (pc' := 135) rfl (Jvm.hb hby d4_126) rfl ((if0 _ _).trans (flt qS).2.1) (by decide) (by decide) ?_
            refine own_dloadN X42.here hx rfl (Jvm.hb hby d4_135) rfl ?_
            refine own_dconst0 X42.here hx rfl (Jvm.hb hby d4_136) ?_
            refine own_dcmp X42.here hx rfl (Jvm.hb hby d4_137) rfl ?_
            exact kt)
          by_cases qO : (0 : Int32) < (cmpValue (FP.dcmp ot FP.dconst0) .l)
          · skip
            obtain ⟨_, vm45, _, -, X45, ⟨rfl, rfl⟩, st45⟩ := Jvm.LawKit.callS X42 hx (y := (⟨"java/lang/Math", "min", "(DD)D"⟩ : MethodName)) hown (mvT hZ (own_W42 hw)) (mvT hZ (own_W43 hw)) (mvT hZ (own_W44 hw)) (mvT hZ (own_W45 hw)) (by decide) (Jvm.Free.Fl.Abs.minD_pays (W := 0) (FP.ddiv (FP.dmul (own_U us gl) ot) (FP.dsub gl (own_U us gl))) (FP.ddiv (own_U us gl) FP.dconst1) (mvT hZ (own_W45 hw)) (by decide) (by decide)) (g := (mkF m 152 #[.val (.ref a), .val (.double ot), .second, .val (.double gl), .second, .val (.int (0 : Int32)), .val (.double (own_U us gl)), .second, .val (.double (FP.ddiv (own_U us gl) FP.dconst1)), .second, .unset, .unset] [(.double (FP.ddiv (own_U us gl) FP.dconst1)), (.double (FP.ddiv (FP.dmul (own_U us gl) ot) (FP.dsub gl (own_U us gl))))])) rfl (by rw [hml]; rfl) (argsL := [(.double (FP.ddiv (FP.dmul (own_U us gl) ot) (FP.dsub gl (own_U us gl)))), (.double (FP.ddiv (own_U us gl) FP.dconst1))]) (rest := []) (lenOf own_pd__DD_D rfl) rfl (by show 2 * 0 + _ ≤ _; exact Nat.le_of_eq rfl) (Jvm.hb hby d4_152) (fun _ _ => ⟨(by decide : 0 ≤ _), (by decide : 0 ≤ _), rfl, (n5 qS qO).2.2.1, n3⟩)
            dsimp only [Pt.U, Pt.locs, Pt.cells, Pt.slots] at X45 st45
            have e45 : (T42.setVm vm45).heap = h0 := eq42
            have pre46 := fun (τ : State) kt => pre44 τ (by
              show Steps p.tables e below (T42.setTop (mkF m 138 #[.val (.ref a), .val (.double ot), .second, .val (.double gl), .second, .val (.int (0 : Int32)), .val (.double (own_U us gl)), .second, .val (.double (FP.ddiv (own_U us gl) FP.dconst1)), .second, .unset, .unset] [(.int (cmpValue (FP.dcmp ot FP.dconst0) .l))])) τ
              refine XS.ifNo X42.here hx rfl (Jvm.hb hby d4_138) rfl ((if0 _ _).trans (tlt qO).2.2.2) ?_
              refine own_dload X42.here hx rfl (Jvm.hb hby d4_141) rfl ?_
              refine own_dloadN X42.here hx rfl (Jvm.hb hby d4_143) rfl ?_
              refine own_dmul X42.here hx rfl (Jvm.hb hby d4_144) rfl ((n5 qS qO).1) ?_
              refine own_dloadN X42.here hx rfl (Jvm.hb hby d4_145) rfl ?_
              refine own_dload X42.here hx rfl (Jvm.hb hby d4_146) rfl ?_
              refine own_dsub X42.here hx rfl (Jvm.hb hby d4_148) rfl ((n5 qS qO).2.1) ?_
              refine own_ddiv X42.here hx rfl (Jvm.hb hby d4_149) rfl ((n5 qS qO).2.2.1) ?_
              refine own_dload X42.here hx rfl (Jvm.hb hby d4_150) rfl ?_
              exact st45 τ kt)
            obtain ⟨_, vm47, _, -, X47, ⟨rfl, rfl⟩, st47⟩ := Jvm.LawKit.callS X45 hx (y := (⟨"java/lang/Math", "max", "(DD)D"⟩ : MethodName)) hown (mvT hZ (own_W58 hw)) (mvT hZ (own_W59 hw)) (mvT hZ (own_W44 hw)) (mvT hZ (own_W60 hw)) (by decide) (Jvm.Free.Fl.Abs.maxD_pays (W := 0) (Native.java_lang_Math.nans.pick64 false (own_quo us ot gl) (FP.ddiv (own_U us gl) FP.dconst1)) (FP.ddiv (own_U us gl) gl) (mvT hZ (own_W60 hw)) (by decide) (by decide)) (g := (mkF m 159 #[.val (.ref a), .val (.double ot), .second, .val (.double gl), .second, .val (.int (0 : Int32)), .val (.double (own_U us gl)), .second, .val (.double (FP.ddiv (own_U us gl) FP.dconst1)), .second, .unset, .unset] [(.double (FP.ddiv (own_U us gl) gl)), (.double (Native.java_lang_Math.nans.pick64 false (own_quo us ot gl) (FP.ddiv (own_U us gl) FP.dconst1)))])) rfl (by rw [hml]; rfl) (argsL := [(.double (Native.java_lang_Math.nans.pick64 false (own_quo us ot gl) (FP.ddiv (own_U us gl) FP.dconst1))), (.double (FP.ddiv (own_U us gl) gl))]) (rest := []) (lenOf own_pd__DD_D rfl) rfl (by show 2 * 0 + _ ≤ _; exact Nat.le_of_eq rfl) (Jvm.hb hby d4_159) (fun _ _ => ⟨(by decide : 0 ≤ _), (by decide : 0 ≤ _), rfl, own_pick_no (n5 qS qO).2.2.1 n3, (n5 qS qO).2.2.2⟩)
            dsimp only [Pt.U, Pt.locs, Pt.cells, Pt.slots] at X47 st47
            have e47 : ((T42.setVm vm45).setVm vm47).heap = h0 := e45
            have pre48 := fun (τ : State) kt => pre46 τ (by
              show Steps p.tables e below ((T42.setVm vm45).setTop (mkF m 155 #[.val (.ref a), .val (.double ot), .second, .val (.double gl), .second, .val (.int (0 : Int32)), .val (.double (own_U us gl)), .second, .val (.double (FP.ddiv (own_U us gl) FP.dconst1)), .second, .unset, .unset] [(.double (Native.java_lang_Math.nans.pick64 false (own_quo us ot gl) (FP.ddiv (own_U us gl) FP.dconst1)))])) τ
              refine own_dload X45.here hx rfl (Jvm.hb hby d4_155) rfl ?_
              refine own_dloadN X45.here hx rfl (Jvm.hb hby d4_157) rfl ?_
              refine own_ddiv X45.here hx rfl (Jvm.hb hby d4_158) rfl ((n5 qS qO).2.2.2) ?_
              exact st47 τ kt)
            have hr : own_wt li us fa he ot gl = (Native.java_lang_Math.nans.pick64 true (Native.java_lang_Math.nans.pick64 false (own_quo us ot gl) (FP.ddiv (own_U us gl) FP.dconst1)) (FP.ddiv (own_U us gl) gl)) := by
              unfold own_wt
              rw [if_neg qH]
              rw [if_neg (fun q => q.1 qA)]
              rw [if_neg qZ]
              rw [if_neg qS]
              rw [show own_tail (own_L8 li us fa gl) us ot gl = _ from if_pos qO]
              rw [hL]
            have pre49 := fun (τ : State) kt => pre48 τ (by
              show Steps p.tables e below (((T42.setVm vm45).setVm vm47).setTop (mkF m 162 #[.val (.ref a), .val (.double ot), .second, .val (.double gl), .second, .val (.int (0 : Int32)), .val (.double (own_U us gl)), .second, .val (.double (FP.ddiv (own_U us gl) FP.dconst1)), .second, .unset, .unset] [(.double (Native.java_lang_Math.nans.pick64 true (Native.java_lang_Math.nans.pick64 false (own_quo us ot gl) (FP.ddiv (own_U us gl) FP.dconst1)) (FP.ddiv (own_U us gl) gl)))])) τ
              refine own_dstore X47.here hx rfl (Jvm.hb hby d4_162) rfl (l' := #[.val (.ref a), .val (.double ot), .second, .val (.double gl), .second, .val (.int (0 : Int32)), .val (.double (own_U us gl)), .second, .val (.double (FP.ddiv (own_U us gl) FP.dconst1)), .second, .val (.double (Native.java_lang_Math.nans.pick64 true (Native.java_lang_Math.nans.pick64 false (own_quo us ot gl) (FP.ddiv (own_U us gl) FP.dconst1)) (FP.ddiv (own_U us gl) gl))), .second]) rfl ?_
              refine XS.goto X47.here hx rfl (pc0 := 164) (pc' := 170) rfl (Jvm.hb hby d4_164) (by decide) (by decide) ?_
              refine own_dload X47.here hx rfl (Jvm.hb hby d4_170) rfl ?_
              exact kt)
            obtain ⟨fs, hrL, hrun, hended, hW, hsame⟩ := X47.leave (v := some (.double (Native.java_lang_Math.nans.pick64 true (Native.java_lang_Math.nans.pick64 false (own_quo us ot gl) (FP.ddiv (own_U us gl) FP.dconst1)) (FP.ddiv (own_U us gl) gl)))) (fun h => by rw [Bd.returns] at h; cases h)
            refine ⟨_, _, cast (congrFun hPS _) (pre49 _ ?_), hrun, hended, _, _, rfl, ?_, ⟨_, rfl⟩, hW, hsame.mono (by decide) (by decide)⟩
            · show Steps p.tables e below (((T42.setVm vm45).setVm vm47).setTop (mkF m 172 #[.val (.ref a), .val (.double ot), .second, .val (.double gl), .second, .val (.int (0 : Int32)), .val (.double (own_U us gl)), .second, .val (.double (FP.ddiv (own_U us gl) FP.dconst1)), .second, .val (.double (Native.java_lang_Math.nans.pick64 true (Native.java_lang_Math.nans.pick64 false (own_quo us ot gl) (FP.ddiv (own_U us gl) FP.dconst1)) (FP.ddiv (own_U us gl) gl))), .second] [(.double (Native.java_lang_Math.nans.pick64 true (Native.java_lang_Math.nans.pick64 false (own_quo us ot gl) (FP.ddiv (own_U us gl) FP.dconst1)) (FP.ddiv (own_U us gl) gl)))])) _
              exact own_retD X47 hx Bd.returns (Jvm.hb hby d4_172) hrL
            · show QR (own_wt li us fa he ot gl) h0 n0 _ ((T42.setVm vm45).setVm vm47).heap _
              rw [e47]
              exact ⟨congrArg (fun z => some (Value.double z)) hr.symm, N42, rfl⟩
          · skip
            have hr : own_wt li us fa he ot gl = FP.dconst1 := by
              unfold own_wt
              rw [if_neg qH]
              rw [if_neg (fun q => q.1 qA)]
              rw [if_neg qZ]
              rw [if_neg qS]
              rw [show own_tail (own_L8 li us fa gl) us ot gl = _ from if_neg qO]
            have pre50 := fun (τ : State) kt => pre44 τ (by
              show Steps p.tables e below (T42.setTop (mkF m 138 #[.val (.ref a), .val (.double ot), .second, .val (.double gl), .second, .val (.int (0 : Int32)), .val (.double (own_U us gl)), .second, .val (.double (FP.ddiv (own_U us gl) FP.dconst1)), .second, .unset, .unset] [(.int (cmpValue (FP.dcmp ot FP.dconst0) .l))])) τ
              refine XS.ifYes X42.here hx rfl (pc0 := 138) (pc' := 167) rfl (Jvm.hb hby d4_138) rfl ((if0 _ _).trans (flt qO).2.2.2) (by decide) (by decide) ?_
              refine own_dconst1 X42.here hx rfl (Jvm.hb hby d4_167) ?_
              refine own_dstore X42.here hx rfl (Jvm.hb hby d4_168) rfl (l' := #[.val (.ref a), .val (.double ot), .second, .val (.double gl), .second, .val (.int (0 : Int32)), .val (.double (own_U us gl)), .second, .val (.double (FP.ddiv (own_U us gl) FP.dconst1)), .second, .val (.double FP.dconst1), .second]) rfl ?_
              refine own_dload X42.here hx rfl (Jvm.hb hby d4_170) rfl ?_
              exact kt)
            obtain ⟨fs, hrL, hrun, hended, hW, hsame⟩ := X42.leave (v := some (.double FP.dconst1)) (fun h => by rw [Bd.returns] at h; cases h)
            refine ⟨_, _, cast (congrFun hPS _) (pre50 _ ?_), hrun, hended, _, _, rfl, ?_, ⟨_, rfl⟩, hW, hsame.mono (by decide) (by decide)⟩
            · show Steps p.tables e below (T42.setTop (mkF m 172 #[.val (.ref a), .val (.double ot), .second, .val (.double gl), .second, .val (.int (0 : Int32)), .val (.double (own_U us gl)), .second, .val (.double (FP.ddiv (own_U us gl) FP.dconst1)), .second, .val (.double FP.dconst1), .second] [(.double FP.dconst1)])) _
              exact own_retD X42 hx Bd.returns (Jvm.hb hby d4_172) hrL
            · show QR (own_wt li us fa he ot gl) h0 n0 _ T42.heap _
              rw [eq42]
              exact ⟨congrArg (fun z => some (Value.double z)) hr.symm, N42, rfl⟩
  · skip
    obtain ⟨_, T51, L51, X51, ⟨rfl, Nq51, eq51⟩, st51⟩ := own_virt (y := own_mn3) (b := a) X9 hx hZ hown (own_W53 hw) (own_W54 hw) (own_W56 hw) (own_W55 hw) (by decide) (rm_limit l Z a0 hw [] a li h0 n0 (Nat.le_trans Z0 KK0.1) F_limit) (own_W57 hw) (own_W7 hw) 0 (by decide) (by decide) E7 eq9 (mkF m 10 #[.val (.ref a), .val (.double ot), .second, .val (.double gl), .second, .unset, .unset, .unset, .unset, .unset, .unset, .unset] [(.ref a)]) rfl (by rw [hml]; rfl) [] [] rfl (lenOf own_pd___D rfl) rfl (Nat.le_refl _) (Jvm.hb hby d4_10) (by decide) (by decide)
    have N51 := Fr.app N9 Nq51
    have pre52 := fun (τ : State) kt => pre11 τ (by
      show Steps p.tables e below (T9.setTop (mkF m 6 #[.val (.ref a), .val (.double ot), .second, .val (.double gl), .second, .unset, .unset, .unset, .unset, .unset, .unset, .unset] [(.int (cmpValue (FP.dcmp fa FP.dconst1) .l))])) τ
      refine XS.ifNo X9.here hx rfl (Jvm.hb hby d4_6) rfl ((if0 _ _).trans (flt qA).1) ?_
      refine XS.aloadN X9.here hx rfl (Jvm.hb hby d4_9) rfl rfl ?_
      exact st51 τ kt)
    have pre53 := fun (τ : State) kt => pre52 τ (by
      show Steps p.tables e below (T51.setTop (mkF m 13 #[.val (.ref a), .val (.double ot), .second, .val (.double gl), .second, .unset, .unset, .unset, .unset, .unset, .unset, .unset] [(.double li)])) τ
      refine own_dconst0 X51.here hx rfl (Jvm.hb hby d4_13) ?_
      refine own_dcmp X51.here hx rfl (Jvm.hb hby d4_14) rfl ?_
      exact kt)
    by_cases qB : (0 : Int32) < (cmpValue (FP.dcmp li FP.dconst0) .l)
    · skip
      obtain ⟨_, T54, L54, X54, ⟨rfl, Nq54, eq54⟩, st54⟩ := own_virt (y := own_mn1) (b := a) X51 hx hZ hown (own_W36 hw) (own_W37 hw) (own_W39 hw) (own_W38 hw) (by decide) (rm_used l Z a0 hw [] a us h0 n0 (Nat.le_trans Z0 KK0.1) F_used) (own_W40 hw) (own_W7 hw) 0 (by decide) (by decide) E7 eq51 (mkF m 26 #[.val (.ref a), .val (.double ot), .second, .val (.double gl), .second, .val (.int (1 : Int32)), .unset, .unset, .unset, .unset, .unset, .unset] [(.ref a)]) rfl (by rw [hml]; rfl) [] [] rfl (lenOf own_pd___D rfl) rfl (Nat.le_refl _) (Jvm.hb hby d4_26) (by decide) (by decide)
      have N54 := Fr.app N51 Nq54
      have pre55 := fun (τ : State) kt => pre53 τ (by
        show Steps p.tables e below (T51.setTop (mkF m 15 #[.val (.ref a), .val (.double ot), .second, .val (.double gl), .second, .unset, .unset, .unset, .unset, .unset, .unset, .unset] [(.int (cmpValue (FP.dcmp li FP.dconst0) .l))])) τ
        refine XS.ifNo X51.here hx rfl (Jvm.hb hby d4_15) rfl ((if0 _ _).trans (tlt qB).2.2.2) ?_
        refine XS.iconst X51.here hx rfl (Jvm.hb hby d4_18) ?_
        refine XS.goto X51.here hx rfl (pc0 := 19) (pc' := 23) rfl (Jvm.hb hby d4_19) (by decide) (by decide) ?_
        refine XS.istore X51.here hx rfl (Jvm.hb hby d4_23) rfl (l' := #[.val (.ref a), .val (.double ot), .second, .val (.double gl), .second, .val (.int (1 : Int32)), .unset, .unset, .unset, .unset, .unset, .unset]) rfl ?_
        refine XS.aloadN X51.here hx rfl (Jvm.hb hby d4_25) rfl rfl ?_
        exact st54 τ kt)
      obtain ⟨_, vm56, _, -, X56, ⟨rfl, rfl⟩, st56⟩ := Jvm.LawKit.callS X54 hx (y := (⟨"java/lang/Math", "min", "(DD)D"⟩ : MethodName)) hown (mvT hZ (own_W42 hw)) (mvT hZ (own_W43 hw)) (mvT hZ (own_W44 hw)) (mvT hZ (own_W45 hw)) (by decide) (Jvm.Free.Fl.Abs.minD_pays (W := 0) us (own_X gl) (mvT hZ (own_W45 hw)) (by decide) (by decide)) (g := (mkF m 34 #[.val (.ref a), .val (.double ot), .second, .val (.double gl), .second, .val (.int (1 : Int32)), .unset, .unset, .unset, .unset, .unset, .unset] [(.double (own_X gl)), (.double us)])) rfl (by rw [hml]; rfl) (argsL := [(.double us), (.double (own_X gl))]) (rest := []) (lenOf own_pd__DD_D rfl) rfl (by show 2 * 0 + _ ≤ _; exact Nat.le_of_eq rfl) (Jvm.hb hby d4_34) (fun _ _ => ⟨(by decide : 0 ≤ _), (by decide : 0 ≤ _), rfl, n1, n2⟩)
      dsimp only [Pt.U, Pt.locs, Pt.cells, Pt.slots] at X56 st56
      have e56 : (T54.setVm vm56).heap = h0 := eq54
      have pre57 := fun (τ : State) kt => pre55 τ (by
        show Steps p.tables e below (T54.setTop (mkF m 29 #[.val (.ref a), .val (.double ot), .second, .val (.double gl), .second, .val (.int (1 : Int32)), .unset, .unset, .unset, .unset, .unset, .unset] [(.double us)])) τ
        refine X54.ldc2DoubleC hx hown (mvT hZ (own_W41 hw)) (g := (mkF m 29 #[.val (.ref a), .val (.double ot), .second, .val (.double gl), .second, .val (.int (1 : Int32)), .unset, .unset, .unset, .unset, .unset, .unset] [(.double us)])) rfl (Jvm.hb hby d4_29) _ ?_
        refine own_dloadN X54.here hx rfl (Jvm.hb hby d4_32) rfl ?_
        refine own_dmul X54.here hx rfl (Jvm.hb hby d4_33) rfl (n2) ?_
        exact st56 τ kt)
      obtain ⟨_, T58, L58, X58, ⟨rfl, Nq58, eq58⟩, st58⟩ := own_virt (y := own_mn3) (b := a) X56 hx hZ hown (own_W53 hw) (own_W54 hw) (own_W56 hw) (own_W55 hw) (by decide) (rm_limit l Z a0 hw [] a li h0 n0 (Nat.le_trans Z0 KK0.1) F_limit) (own_W57 hw) (own_W7 hw) 0 (by decide) (by decide) E7 e56 (mkF m 45 #[.val (.ref a), .val (.double ot), .second, .val (.double gl), .second, .val (.int (1 : Int32)), .val (.double (own_U us gl)), .second, .unset, .unset, .unset, .unset] [(.ref a)]) rfl (by rw [hml]; rfl) [] [] rfl (lenOf own_pd___D rfl) rfl (Nat.le_refl _) (Jvm.hb hby d4_45) (by decide) (by decide)
      have N58 := Fr.app N54 Nq58
      have pre59 := fun (τ : State) kt => pre57 τ (by
        show Steps p.tables e below ((T54.setVm vm56).setTop (mkF m 37 #[.val (.ref a), .val (.double ot), .second, .val (.double gl), .second, .val (.int (1 : Int32)), .unset, .unset, .unset, .unset, .unset, .unset] [(.double (own_U us gl))])) τ
        refine own_dstore X56.here hx rfl (Jvm.hb hby d4_37) rfl (l' := #[.val (.ref a), .val (.double ot), .second, .val (.double gl), .second, .val (.int (1 : Int32)), .val (.double (own_U us gl)), .second, .unset, .unset, .unset, .unset]) rfl ?_
        refine XS.iload X56.here hx rfl (Jvm.hb hby d4_39) rfl ?_
        refine XS.ifNo X56.here hx rfl (Jvm.hb hby d4_41) rfl ((if0 _ _).trans (feq (by decide)).1) ?_
        refine XS.aloadN X56.here hx rfl (Jvm.hb hby d4_44) rfl rfl ?_
        exact st58 τ kt)
      obtain ⟨_, T60, L60, X60, ⟨rfl, Nq60, eq60⟩, st60⟩ := own_virt (y := own_mn0) (b := a) X58 hx hZ hown (own_W31 hw) (own_W32 hw) (own_W34 hw) (own_W33 hw) (by decide) (rm_fastest l Z a0 hw [] a fa h0 n0 (Nat.le_trans Z0 KK0.1) F_fastest) (own_W35 hw) (own_W7 hw) 2 (by decide) (by decide) E7 eq58 (mkF m 49 #[.val (.ref a), .val (.double ot), .second, .val (.double gl), .second, .val (.int (1 : Int32)), .val (.double (own_U us gl)), .second, .unset, .unset, .unset, .unset] [(.ref a), (.double li)]) rfl (by rw [hml]; rfl) [] [(.double li)] rfl (lenOf own_pd___D rfl) rfl (Nat.le_refl _) (Jvm.hb hby d4_49) (by decide) (by decide)
      have N60 := Fr.app N58 Nq60
      have pre61 := fun (τ : State) kt => pre59 τ (by
        show Steps p.tables e below (T58.setTop (mkF m 48 #[.val (.ref a), .val (.double ot), .second, .val (.double gl), .second, .val (.int (1 : Int32)), .val (.double (own_U us gl)), .second, .unset, .unset, .unset, .unset] [(.double li)])) τ
        refine XS.aloadN X58.here hx rfl (Jvm.hb hby d4_48) rfl rfl ?_
        exact st60 τ kt)
      obtain ⟨_, T62, L62, X62, ⟨rfl, Nq62, eq62⟩, st62⟩ := own_virt (y := own_mn2) (b := a) X60 hx hZ hown (own_W46 hw) (own_W47 hw) (own_W49 hw) (own_W48 hw) (by decide) (rm_held l Z a0 hw [] a he h0 n0 (Nat.le_trans Z0 KK0.1) F_held) (own_W50 hw) (own_W7 hw) 0 (by decide) (by decide) E7 eq60 (mkF m 63 #[.val (.ref a), .val (.double ot), .second, .val (.double gl), .second, .val (.int (1 : Int32)), .val (.double (own_U us gl)), .second, .val (.double (FP.ddiv li fa)), .second, .unset, .unset] [(.ref a)]) rfl (by rw [hml]; rfl) [] [] rfl (lenOf own_pd___D rfl) rfl (Nat.le_refl _) (Jvm.hb hby d4_63) (by decide) (by decide)
      have N62 := Fr.app N60 Nq62
      have pre63 := fun (τ : State) kt => pre61 τ (by
        show Steps p.tables e below (T60.setTop (mkF m 52 #[.val (.ref a), .val (.double ot), .second, .val (.double gl), .second, .val (.int (1 : Int32)), .val (.double (own_U us gl)), .second, .unset, .unset, .unset, .unset] [(.double fa), (.double li)])) τ
        refine own_ddiv X60.here hx rfl (Jvm.hb hby d4_52) rfl (n4 qA qB) ?_
        refine XS.goto X60.here hx rfl (pc0 := 53) (pc' := 60) rfl (Jvm.hb hby d4_53) (by decide) (by decide) ?_
        refine own_dstore X60.here hx rfl (Jvm.hb hby d4_60) rfl (l' := #[.val (.ref a), .val (.double ot), .second, .val (.double gl), .second, .val (.int (1 : Int32)), .val (.double (own_U us gl)), .second, .val (.double (FP.ddiv li fa)), .second, .unset, .unset]) rfl ?_
        refine XS.aloadN X60.here hx rfl (Jvm.hb hby d4_62) rfl rfl ?_
        exact st62 τ kt)
      have pre64 := fun (τ : State) kt => pre63 τ (by
        show Steps p.tables e below (T62.setTop (mkF m 66 #[.val (.ref a), .val (.double ot), .second, .val (.double gl), .second, .val (.int (1 : Int32)), .val (.double (own_U us gl)), .second, .val (.double (FP.ddiv li fa)), .second, .unset, .unset] [(.double he)])) τ
        refine X62.ldc2DoubleC hx hown (mvT hZ (own_W51 hw)) (g := (mkF m 66 #[.val (.ref a), .val (.double ot), .second, .val (.double gl), .second, .val (.int (1 : Int32)), .val (.double (own_U us gl)), .second, .val (.double (FP.ddiv li fa)), .second, .unset, .unset] [(.double he)])) rfl (Jvm.hb hby d4_66) _ ?_
        refine own_dcmp X62.here hx rfl (Jvm.hb hby d4_69) rfl ?_
        exact kt)
      have hL : own_L8 li us fa gl = (FP.ddiv li fa) := by
        unfold own_L8
        rw [if_neg qA]
        rw [if_pos qB]
      by_cases qH : (cmpValue (FP.dcmp he (4602678819172646912 : UInt64)) .l) < (0 : Int32)
      · skip
        obtain ⟨_, T65, L65, X65, ⟨rfl, Nq65, eq65⟩, st65⟩ := own_virt (y := own_mn2) (b := a) X62 hx hZ hown (own_W46 hw) (own_W47 hw) (own_W49 hw) (own_W48 hw) (by decide) (rm_held l Z a0 hw [] a he h0 n0 (Nat.le_trans Z0 KK0.1) F_held) (own_W50 hw) (own_W7 hw) 0 (by decide) (by decide) E7 eq62 (mkF m 86 #[.val (.ref a), .val (.double ot), .second, .val (.double gl), .second, .val (.int (1 : Int32)), .val (.double (own_U us gl)), .second, .val (.double (FP.ddiv li fa)), .second, .unset, .unset] [(.ref a)]) rfl (by rw [hml]; rfl) [] [] rfl (lenOf own_pd___D rfl) rfl (Nat.le_refl _) (Jvm.hb hby d4_86) (by decide) (by decide)
        have N65 := Fr.app N62 Nq65
        have pre66 := fun (τ : State) kt => pre64 τ (by
          show Steps p.tables e below (T62.setTop (mkF m 70 #[.val (.ref a), .val (.double ot), .second, .val (.double gl), .second, .val (.int (1 : Int32)), .val (.double (own_U us gl)), .second, .val (.double (FP.ddiv li fa)), .second, .unset, .unset] [(.int (cmpValue (FP.dcmp he (4602678819172646912 : UInt64)) .l))])) τ
          refine XS.ifYes X62.here hx rfl (pc0 := 70) (pc' := 85) rfl (Jvm.hb hby d4_70) rfl ((if0 _ _).trans (tlt qH).1) (by decide) (by decide) ?_
          refine XS.aloadN X62.here hx rfl (Jvm.hb hby d4_85) rfl rfl ?_
          exact st65 τ kt)
        obtain ⟨_, T67, L67, X67, ⟨rfl, Nq67, eq67⟩, st67⟩ := own_virt (y := own_mn1) (b := a) X65 hx hZ hown (own_W36 hw) (own_W37 hw) (own_W39 hw) (own_W38 hw) (by decide) (rm_used l Z a0 hw [] a us h0 n0 (Nat.le_trans Z0 KK0.1) F_used) (own_W40 hw) (own_W7 hw) 0 (by decide) (by decide) E7 eq65 (mkF m 121 #[.val (.ref a), .val (.double ot), .second, .val (.double gl), .second, .val (.int (1 : Int32)), .val (.double (own_U us gl)), .second, .val (.double (FP.ddiv li fa)), .second, .unset, .unset] [(.ref a)]) rfl (by rw [hml]; rfl) [] [] rfl (lenOf own_pd___D rfl) rfl (Nat.le_refl _) (Jvm.hb hby d4_121) (by decide) (by decide)
        have N67 := Fr.app N65 Nq67
        have pre68 := fun (τ : State) kt => pre66 τ (by
          show Steps p.tables e below (T65.setTop (mkF m 89 #[.val (.ref a), .val (.double ot), .second, .val (.double gl), .second, .val (.int (1 : Int32)), .val (.double (own_U us gl)), .second, .val (.double (FP.ddiv li fa)), .second, .unset, .unset] [(.double he)])) τ
          refine X65.ldc2DoubleC hx hown (mvT hZ (own_W51 hw)) (g := (mkF m 89 #[.val (.ref a), .val (.double ot), .second, .val (.double gl), .second, .val (.int (1 : Int32)), .val (.double (own_U us gl)), .second, .val (.double (FP.ddiv li fa)), .second, .unset, .unset] [(.double he)])) rfl (Jvm.hb hby d4_89) _ ?_
          refine own_dcmp X65.here hx rfl (Jvm.hb hby d4_92) rfl ?_
          refine XS.ifYes X65.here hx rfl (pc0 := 93) (pc' := 120) rfl (Jvm.hb hby d4_93) rfl ((if0 _ _).trans (tlt qH).1) (by decide) (by decide) ?_
          refine XS.aloadN X65.here hx rfl (Jvm.hb hby d4_120) rfl rfl ?_
          exact st67 τ kt)
        have pre69 := fun (τ : State) kt => pre68 τ (by
          show Steps p.tables e below (T67.setTop (mkF m 124 #[.val (.ref a), .val (.double ot), .second, .val (.double gl), .second, .val (.int (1 : Int32)), .val (.double (own_U us gl)), .second, .val (.double (FP.ddiv li fa)), .second, .unset, .unset] [(.double us)])) τ
          refine own_dconst1 X67.here hx rfl (Jvm.hb hby d4_124) ?_
          refine own_dcmp X67.here hx rfl (Jvm.hb hby d4_125) rfl ?_
          exact kt)
        by_cases qS : (cmpValue (FP.dcmp us FP.dconst1) .g) < (0 : Int32)
        · skip
          have hr : own_wt li us fa he ot gl = FP.dconst0 := by
            unfold own_wt
            rw [if_pos qH]
            rw [if_pos qS]
          have pre70 := fun (τ : State) kt => pre69 τ (by
            show Steps p.tables e below (T67.setTop (mkF m 126 #[.val (.ref a), .val (.double ot), .second, .val (.double gl), .second, .val (.int (1 : Int32)), .val (.double (own_U us gl)), .second, .val (.double (FP.ddiv li fa)), .second, .unset, .unset] [(.int (cmpValue (FP.dcmp us FP.dconst1) .g))])) τ
            refine XS.ifNo X67.here hx rfl (Jvm.hb hby d4_126) rfl ((if0 _ _).trans (tlt qS).2.1) ?_
            refine own_dconst0 X67.here hx rfl (Jvm.hb hby d4_129) ?_
            refine own_dstore X67.here hx rfl (Jvm.hb hby d4_130) rfl (l' := #[.val (.ref a), .val (.double ot), .second, .val (.double gl), .second, .val (.int (1 : Int32)), .val (.double (own_U us gl)), .second, .val (.double (FP.ddiv li fa)), .second, .val (.double FP.dconst0), .second]) rfl ?_
            refine XS.goto X67.here hx rfl (pc0 := 132) (pc' := 170) rfl (Jvm.hb hby d4_132) (by decide) (by decide) ?_
            refine own_dload X67.here hx rfl (Jvm.hb hby d4_170) rfl ?_
            exact kt)
          obtain ⟨fs, hrL, hrun, hended, hW, hsame⟩ := X67.leave (v := some (.double FP.dconst0)) (fun h => by rw [Bd.returns] at h; cases h)
          refine ⟨_, _, cast (congrFun hPS _) (pre70 _ ?_), hrun, hended, _, _, rfl, ?_, ⟨_, rfl⟩, hW, hsame.mono (by decide) (by decide)⟩
          · show Steps p.tables e below (T67.setTop (mkF m 172 #[.val (.ref a), .val (.double ot), .second, .val (.double gl), .second, .val (.int (1 : Int32)), .val (.double (own_U us gl)), .second, .val (.double (FP.ddiv li fa)), .second, .val (.double FP.dconst0), .second] [(.double FP.dconst0)])) _
            exact own_retD X67 hx Bd.returns (Jvm.hb hby d4_172) hrL
          · show QR (own_wt li us fa he ot gl) h0 n0 _ T67.heap _
            rw [eq67]
            exact ⟨congrArg (fun z => some (Value.double z)) hr.symm, N67, rfl⟩
        · skip
          have pre71 := fun (τ : State) kt => pre69 τ (by
            show Steps p.tables e below (T67.setTop (mkF m 126 #[.val (.ref a), .val (.double ot), .second, .val (.double gl), .second, .val (.int (1 : Int32)), .val (.double (own_U us gl)), .second, .val (.double (FP.ddiv li fa)), .second, .unset, .unset] [(.int (cmpValue (FP.dcmp us FP.dconst1) .g))])) τ
            refine XS.ifYes X67.here hx rfl (pc0 := 126) (pc' := 135) rfl (Jvm.hb hby d4_126) rfl ((if0 _ _).trans (flt qS).2.1) (by decide) (by decide) ?_
            refine own_dloadN X67.here hx rfl (Jvm.hb hby d4_135) rfl ?_
            refine own_dconst0 X67.here hx rfl (Jvm.hb hby d4_136) ?_
            refine own_dcmp X67.here hx rfl (Jvm.hb hby d4_137) rfl ?_
            exact kt)
          by_cases qO : (0 : Int32) < (cmpValue (FP.dcmp ot FP.dconst0) .l)
          · skip
            obtain ⟨_, vm72, _, -, X72, ⟨rfl, rfl⟩, st72⟩ := Jvm.LawKit.callS X67 hx (y := (⟨"java/lang/Math", "min", "(DD)D"⟩ : MethodName)) hown (mvT hZ (own_W42 hw)) (mvT hZ (own_W43 hw)) (mvT hZ (own_W44 hw)) (mvT hZ (own_W45 hw)) (by decide) (Jvm.Free.Fl.Abs.minD_pays (W := 0) (FP.ddiv (FP.dmul (own_U us gl) ot) (FP.dsub gl (own_U us gl))) (FP.ddiv li fa) (mvT hZ (own_W45 hw)) (by decide) (by decide)) (g := (mkF m 152 #[.val (.ref a), .val (.double ot), .second, .val (.double gl), .second, .val (.int (1 : Int32)), .val (.double (own_U us gl)), .second, .val (.double (FP.ddiv li fa)), .second, .unset, .unset] [(.double (FP.ddiv li fa)), (.double (FP.ddiv (FP.dmul (own_U us gl) ot) (FP.dsub gl (own_U us gl))))])) rfl (by rw [hml]; rfl) (argsL := [(.double (FP.ddiv (FP.dmul (own_U us gl) ot) (FP.dsub gl (own_U us gl)))), (.double (FP.ddiv li fa))]) (rest := []) (lenOf own_pd__DD_D rfl) rfl (by show 2 * 0 + _ ≤ _; exact Nat.le_of_eq rfl) (Jvm.hb hby d4_152) (fun _ _ => ⟨(by decide : 0 ≤ _), (by decide : 0 ≤ _), rfl, (n5 qS qO).2.2.1, (n4 qA qB)⟩)
            dsimp only [Pt.U, Pt.locs, Pt.cells, Pt.slots] at X72 st72
            have e72 : (T67.setVm vm72).heap = h0 := eq67
            have pre73 := fun (τ : State) kt => pre71 τ (by
              show Steps p.tables e below (T67.setTop (mkF m 138 #[.val (.ref a), .val (.double ot), .second, .val (.double gl), .second, .val (.int (1 : Int32)), .val (.double (own_U us gl)), .second, .val (.double (FP.ddiv li fa)), .second, .unset, .unset] [(.int (cmpValue (FP.dcmp ot FP.dconst0) .l))])) τ
              refine XS.ifNo X67.here hx rfl (Jvm.hb hby d4_138) rfl ((if0 _ _).trans (tlt qO).2.2.2) ?_
              refine own_dload X67.here hx rfl (Jvm.hb hby d4_141) rfl ?_
              refine own_dloadN X67.here hx rfl (Jvm.hb hby d4_143) rfl ?_
              refine own_dmul X67.here hx rfl (Jvm.hb hby d4_144) rfl ((n5 qS qO).1) ?_
              refine own_dloadN X67.here hx rfl (Jvm.hb hby d4_145) rfl ?_
              refine own_dload X67.here hx rfl (Jvm.hb hby d4_146) rfl ?_
              refine own_dsub X67.here hx rfl (Jvm.hb hby d4_148) rfl ((n5 qS qO).2.1) ?_
              refine own_ddiv X67.here hx rfl (Jvm.hb hby d4_149) rfl ((n5 qS qO).2.2.1) ?_
              refine own_dload X67.here hx rfl (Jvm.hb hby d4_150) rfl ?_
              exact st72 τ kt)
            obtain ⟨_, vm74, _, -, X74, ⟨rfl, rfl⟩, st74⟩ := Jvm.LawKit.callS X72 hx (y := (⟨"java/lang/Math", "max", "(DD)D"⟩ : MethodName)) hown (mvT hZ (own_W58 hw)) (mvT hZ (own_W59 hw)) (mvT hZ (own_W44 hw)) (mvT hZ (own_W60 hw)) (by decide) (Jvm.Free.Fl.Abs.maxD_pays (W := 0) (Native.java_lang_Math.nans.pick64 false (own_quo us ot gl) (FP.ddiv li fa)) (FP.ddiv (own_U us gl) gl) (mvT hZ (own_W60 hw)) (by decide) (by decide)) (g := (mkF m 159 #[.val (.ref a), .val (.double ot), .second, .val (.double gl), .second, .val (.int (1 : Int32)), .val (.double (own_U us gl)), .second, .val (.double (FP.ddiv li fa)), .second, .unset, .unset] [(.double (FP.ddiv (own_U us gl) gl)), (.double (Native.java_lang_Math.nans.pick64 false (own_quo us ot gl) (FP.ddiv li fa)))])) rfl (by rw [hml]; rfl) (argsL := [(.double (Native.java_lang_Math.nans.pick64 false (own_quo us ot gl) (FP.ddiv li fa))), (.double (FP.ddiv (own_U us gl) gl))]) (rest := []) (lenOf own_pd__DD_D rfl) rfl (by show 2 * 0 + _ ≤ _; exact Nat.le_of_eq rfl) (Jvm.hb hby d4_159) (fun _ _ => ⟨(by decide : 0 ≤ _), (by decide : 0 ≤ _), rfl, own_pick_no (n5 qS qO).2.2.1 (n4 qA qB), (n5 qS qO).2.2.2⟩)
            dsimp only [Pt.U, Pt.locs, Pt.cells, Pt.slots] at X74 st74
            have e74 : ((T67.setVm vm72).setVm vm74).heap = h0 := e72
            have pre75 := fun (τ : State) kt => pre73 τ (by
              show Steps p.tables e below ((T67.setVm vm72).setTop (mkF m 155 #[.val (.ref a), .val (.double ot), .second, .val (.double gl), .second, .val (.int (1 : Int32)), .val (.double (own_U us gl)), .second, .val (.double (FP.ddiv li fa)), .second, .unset, .unset] [(.double (Native.java_lang_Math.nans.pick64 false (own_quo us ot gl) (FP.ddiv li fa)))])) τ
              refine own_dload X72.here hx rfl (Jvm.hb hby d4_155) rfl ?_
              refine own_dloadN X72.here hx rfl (Jvm.hb hby d4_157) rfl ?_
              refine own_ddiv X72.here hx rfl (Jvm.hb hby d4_158) rfl ((n5 qS qO).2.2.2) ?_
              exact st74 τ kt)
            have hr : own_wt li us fa he ot gl = (Native.java_lang_Math.nans.pick64 true (Native.java_lang_Math.nans.pick64 false (own_quo us ot gl) (FP.ddiv li fa)) (FP.ddiv (own_U us gl) gl)) := by
              unfold own_wt
              rw [if_pos qH]
              rw [if_neg qS]
              rw [show own_tail (own_L8 li us fa gl) us ot gl = _ from if_pos qO]
              rw [hL]
            have pre76 := fun (τ : State) kt => pre75 τ (by
              show Steps p.tables e below (((T67.setVm vm72).setVm vm74).setTop (mkF m 162 #[.val (.ref a), .val (.double ot), .second, .val (.double gl), .second, .val (.int (1 : Int32)), .val (.double (own_U us gl)), .second, .val (.double (FP.ddiv li fa)), .second, .unset, .unset] [(.double (Native.java_lang_Math.nans.pick64 true (Native.java_lang_Math.nans.pick64 false (own_quo us ot gl) (FP.ddiv li fa)) (FP.ddiv (own_U us gl) gl)))])) τ
              refine own_dstore X74.here hx rfl (Jvm.hb hby d4_162) rfl (l' := #[.val (.ref a), .val (.double ot), .second, .val (.double gl), .second, .val (.int (1 : Int32)), .val (.double (own_U us gl)), .second, .val (.double (FP.ddiv li fa)), .second, .val (.double (Native.java_lang_Math.nans.pick64 true (Native.java_lang_Math.nans.pick64 false (own_quo us ot gl) (FP.ddiv li fa)) (FP.ddiv (own_U us gl) gl))), .second]) rfl ?_
              refine XS.goto X74.here hx rfl (pc0 := 164) (pc' := 170) rfl (Jvm.hb hby d4_164) (by decide) (by decide) ?_
              refine own_dload X74.here hx rfl (Jvm.hb hby d4_170) rfl ?_
              exact kt)
            obtain ⟨fs, hrL, hrun, hended, hW, hsame⟩ := X74.leave (v := some (.double (Native.java_lang_Math.nans.pick64 true (Native.java_lang_Math.nans.pick64 false (own_quo us ot gl) (FP.ddiv li fa)) (FP.ddiv (own_U us gl) gl)))) (fun h => by rw [Bd.returns] at h; cases h)
            refine ⟨_, _, cast (congrFun hPS _) (pre76 _ ?_), hrun, hended, _, _, rfl, ?_, ⟨_, rfl⟩, hW, hsame.mono (by decide) (by decide)⟩
            · show Steps p.tables e below (((T67.setVm vm72).setVm vm74).setTop (mkF m 172 #[.val (.ref a), .val (.double ot), .second, .val (.double gl), .second, .val (.int (1 : Int32)), .val (.double (own_U us gl)), .second, .val (.double (FP.ddiv li fa)), .second, .val (.double (Native.java_lang_Math.nans.pick64 true (Native.java_lang_Math.nans.pick64 false (own_quo us ot gl) (FP.ddiv li fa)) (FP.ddiv (own_U us gl) gl))), .second] [(.double (Native.java_lang_Math.nans.pick64 true (Native.java_lang_Math.nans.pick64 false (own_quo us ot gl) (FP.ddiv li fa)) (FP.ddiv (own_U us gl) gl)))])) _
              exact own_retD X74 hx Bd.returns (Jvm.hb hby d4_172) hrL
            · show QR (own_wt li us fa he ot gl) h0 n0 _ ((T67.setVm vm72).setVm vm74).heap _
              rw [e74]
              exact ⟨congrArg (fun z => some (Value.double z)) hr.symm, N67, rfl⟩
          · skip
            have hr : own_wt li us fa he ot gl = FP.dconst1 := by
              unfold own_wt
              rw [if_pos qH]
              rw [if_neg qS]
              rw [show own_tail (own_L8 li us fa gl) us ot gl = _ from if_neg qO]
            have pre77 := fun (τ : State) kt => pre71 τ (by
              show Steps p.tables e below (T67.setTop (mkF m 138 #[.val (.ref a), .val (.double ot), .second, .val (.double gl), .second, .val (.int (1 : Int32)), .val (.double (own_U us gl)), .second, .val (.double (FP.ddiv li fa)), .second, .unset, .unset] [(.int (cmpValue (FP.dcmp ot FP.dconst0) .l))])) τ
              refine XS.ifYes X67.here hx rfl (pc0 := 138) (pc' := 167) rfl (Jvm.hb hby d4_138) rfl ((if0 _ _).trans (flt qO).2.2.2) (by decide) (by decide) ?_
              refine own_dconst1 X67.here hx rfl (Jvm.hb hby d4_167) ?_
              refine own_dstore X67.here hx rfl (Jvm.hb hby d4_168) rfl (l' := #[.val (.ref a), .val (.double ot), .second, .val (.double gl), .second, .val (.int (1 : Int32)), .val (.double (own_U us gl)), .second, .val (.double (FP.ddiv li fa)), .second, .val (.double FP.dconst1), .second]) rfl ?_
              refine own_dload X67.here hx rfl (Jvm.hb hby d4_170) rfl ?_
              exact kt)
            obtain ⟨fs, hrL, hrun, hended, hW, hsame⟩ := X67.leave (v := some (.double FP.dconst1)) (fun h => by rw [Bd.returns] at h; cases h)
            refine ⟨_, _, cast (congrFun hPS _) (pre77 _ ?_), hrun, hended, _, _, rfl, ?_, ⟨_, rfl⟩, hW, hsame.mono (by decide) (by decide)⟩
            · show Steps p.tables e below (T67.setTop (mkF m 172 #[.val (.ref a), .val (.double ot), .second, .val (.double gl), .second, .val (.int (1 : Int32)), .val (.double (own_U us gl)), .second, .val (.double (FP.ddiv li fa)), .second, .val (.double FP.dconst1), .second] [(.double FP.dconst1)])) _
              exact own_retD X67 hx Bd.returns (Jvm.hb hby d4_172) hrL
            · show QR (own_wt li us fa he ot gl) h0 n0 _ T67.heap _
              rw [eq67]
              exact ⟨congrArg (fun z => some (Value.double z)) hr.symm, N67, rfl⟩
      · skip
        have hr : own_wt li us fa he ot gl = (FP.ddiv li fa) := by
          unfold own_wt
          rw [if_neg qH]
          rw [if_pos ⟨qA, qB⟩]
          rw [hL]
        have pre78 := fun (τ : State) kt => pre64 τ (by
          show Steps p.tables e below (T62.setTop (mkF m 70 #[.val (.ref a), .val (.double ot), .second, .val (.double gl), .second, .val (.int (1 : Int32)), .val (.double (own_U us gl)), .second, .val (.double (FP.ddiv li fa)), .second, .unset, .unset] [(.int (cmpValue (FP.dcmp he (4602678819172646912 : UInt64)) .l))])) τ
          refine XS.ifNo X62.here hx rfl (Jvm.hb hby d4_70) rfl ((if0 _ _).trans (flt qH).1) ?_
          refine XS.iload X62.here hx rfl (Jvm.hb hby d4_73) rfl ?_
          refine XS.ifNo X62.here hx rfl (Jvm.hb hby d4_75) rfl ((if0 _ _).trans (feq (by decide)).1) ?_
          refine own_dload X62.here hx rfl (Jvm.hb hby d4_78) rfl ?_
          refine own_dstore X62.here hx rfl (Jvm.hb hby d4_80) rfl (l' := #[.val (.ref a), .val (.double ot), .second, .val (.double gl), .second, .val (.int (1 : Int32)), .val (.double (own_U us gl)), .second, .val (.double (FP.ddiv li fa)), .second, .val (.double (FP.ddiv li fa)), .second]) rfl ?_
          refine XS.goto X62.here hx rfl (pc0 := 82) (pc' := 170) rfl (Jvm.hb hby d4_82) (by decide) (by decide) ?_
          refine own_dload X62.here hx rfl (Jvm.hb hby d4_170) rfl ?_
          exact kt)
        obtain ⟨fs, hrL, hrun, hended, hW, hsame⟩ := X62.leave (v := some (.double (FP.ddiv li fa))) (fun h => by rw [Bd.returns] at h; cases h)
        refine ⟨_, _, cast (congrFun hPS _) (pre78 _ ?_), hrun, hended, _, _, rfl, ?_, ⟨_, rfl⟩, hW, hsame.mono (by decide) (by decide)⟩
        · show Steps p.tables e below (T62.setTop (mkF m 172 #[.val (.ref a), .val (.double ot), .second, .val (.double gl), .second, .val (.int (1 : Int32)), .val (.double (own_U us gl)), .second, .val (.double (FP.ddiv li fa)), .second, .val (.double (FP.ddiv li fa)), .second] [(.double (FP.ddiv li fa))])) _
          exact own_retD X62 hx Bd.returns (Jvm.hb hby d4_172) hrL
        · show QR (own_wt li us fa he ot gl) h0 n0 _ T62.heap _
          rw [eq62]
          exact ⟨congrArg (fun z => some (Value.double z)) hr.symm, N62, rfl⟩
    · skip
      obtain ⟨_, T79, L79, X79, ⟨rfl, Nq79, eq79⟩, st79⟩ := own_virt (y := own_mn1) (b := a) X51 hx hZ hown (own_W36 hw) (own_W37 hw) (own_W39 hw) (own_W38 hw) (by decide) (rm_used l Z a0 hw [] a us h0 n0 (Nat.le_trans Z0 KK0.1) F_used) (own_W40 hw) (own_W7 hw) 0 (by decide) (by decide) E7 eq51 (mkF m 26 #[.val (.ref a), .val (.double ot), .second, .val (.double gl), .second, .val (.int (0 : Int32)), .unset, .unset, .unset, .unset, .unset, .unset] [(.ref a)]) rfl (by rw [hml]; rfl) [] [] rfl (lenOf own_pd___D rfl) rfl (Nat.le_refl _) (Jvm.hb hby d4_26) (by decide) (by decide)
      have N79 := Fr.app N51 Nq79
      have pre80 := fun (τ : State) kt => pre53 τ (by
        show Steps p.tables e below (T51.setTop (mkF m 15 #[.val (.ref a), .val (.double ot), .second, .val (.double gl), .second, .unset, .unset, .unset, .unset, .unset, .unset, .unset] [(.int (cmpValue (FP.dcmp li FP.dconst0) .l))])) τ
        refine XS.ifYes X51.here hx rfl (pc0 := 15) (pc' := 22) rfl (Jvm.hb hby d4_15) rfl ((if0 _ _).trans (flt qB).2.2.2) (by decide) (by decide) ?_
        refine XS.iconst X51.here hx rfl (Jvm.hb hby d4_22) ?_
        refine XS.istore X51.here hx rfl (Jvm.hb hby d4_23) rfl (l' := #[.val (.ref a), .val (.double ot), .second, .val (.double gl), .second, .val (.int (0 : Int32)), .unset, .unset, .unset, .unset, .unset, .unset]) rfl ?_
        refine XS.aloadN X51.here hx rfl (Jvm.hb hby d4_25) rfl rfl ?_
        exact st79 τ kt)
      obtain ⟨_, vm81, _, -, X81, ⟨rfl, rfl⟩, st81⟩ := Jvm.LawKit.callS X79 hx (y := (⟨"java/lang/Math", "min", "(DD)D"⟩ : MethodName)) hown (mvT hZ (own_W42 hw)) (mvT hZ (own_W43 hw)) (mvT hZ (own_W44 hw)) (mvT hZ (own_W45 hw)) (by decide) (Jvm.Free.Fl.Abs.minD_pays (W := 0) us (own_X gl) (mvT hZ (own_W45 hw)) (by decide) (by decide)) (g := (mkF m 34 #[.val (.ref a), .val (.double ot), .second, .val (.double gl), .second, .val (.int (0 : Int32)), .unset, .unset, .unset, .unset, .unset, .unset] [(.double (own_X gl)), (.double us)])) rfl (by rw [hml]; rfl) (argsL := [(.double us), (.double (own_X gl))]) (rest := []) (lenOf own_pd__DD_D rfl) rfl (by show 2 * 0 + _ ≤ _; exact Nat.le_of_eq rfl) (Jvm.hb hby d4_34) (fun _ _ => ⟨(by decide : 0 ≤ _), (by decide : 0 ≤ _), rfl, n1, n2⟩)
      dsimp only [Pt.U, Pt.locs, Pt.cells, Pt.slots] at X81 st81
      have e81 : (T79.setVm vm81).heap = h0 := eq79
      have pre82 := fun (τ : State) kt => pre80 τ (by
        show Steps p.tables e below (T79.setTop (mkF m 29 #[.val (.ref a), .val (.double ot), .second, .val (.double gl), .second, .val (.int (0 : Int32)), .unset, .unset, .unset, .unset, .unset, .unset] [(.double us)])) τ
        refine X79.ldc2DoubleC hx hown (mvT hZ (own_W41 hw)) (g := (mkF m 29 #[.val (.ref a), .val (.double ot), .second, .val (.double gl), .second, .val (.int (0 : Int32)), .unset, .unset, .unset, .unset, .unset, .unset] [(.double us)])) rfl (Jvm.hb hby d4_29) _ ?_
        refine own_dloadN X79.here hx rfl (Jvm.hb hby d4_32) rfl ?_
        refine own_dmul X79.here hx rfl (Jvm.hb hby d4_33) rfl (n2) ?_
        exact st81 τ kt)
      obtain ⟨_, T83, L83, X83, ⟨rfl, Nq83, eq83⟩, st83⟩ := own_virt (y := own_mn2) (b := a) X81 hx hZ hown (own_W46 hw) (own_W47 hw) (own_W49 hw) (own_W48 hw) (by decide) (rm_held l Z a0 hw [] a he h0 n0 (Nat.le_trans Z0 KK0.1) F_held) (own_W50 hw) (own_W7 hw) 0 (by decide) (by decide) E7 e81 (mkF m 63 #[.val (.ref a), .val (.double ot), .second, .val (.double gl), .second, .val (.int (0 : Int32)), .val (.double (own_U us gl)), .second, .val (.double (FP.ddiv (own_U us gl) FP.dconst1)), .second, .unset, .unset] [(.ref a)]) rfl (by rw [hml]; rfl) [] [] rfl (lenOf own_pd___D rfl) rfl (Nat.le_refl _) (Jvm.hb hby d4_63) (by decide) (by decide)
      have N83 := Fr.app N79 Nq83
      have pre84 := fun (τ : State) kt => pre82 τ (by
        show Steps p.tables e below ((T79.setVm vm81).setTop (mkF m 37 #[.val (.ref a), .val (.double ot), .second, .val (.double gl), .second, .val (.int (0 : Int32)), .unset, .unset, .unset, .unset, .unset, .unset] [(.double (own_U us gl))])) τ
        refine own_dstore X81.here hx rfl (Jvm.hb hby d4_37) rfl (l' := #[.val (.ref a), .val (.double ot), .second, .val (.double gl), .second, .val (.int (0 : Int32)), .val (.double (own_U us gl)), .second, .unset, .unset, .unset, .unset]) rfl ?_
        refine XS.iload X81.here hx rfl (Jvm.hb hby d4_39) rfl ?_
        refine XS.ifYes X81.here hx rfl (pc0 := 41) (pc' := 56) rfl (Jvm.hb hby d4_41) rfl ((if0 _ _).trans (teq rfl).1) (by decide) (by decide) ?_
        refine own_dload X81.here hx rfl (Jvm.hb hby d4_56) rfl ?_
        refine own_dconst1 X81.here hx rfl (Jvm.hb hby d4_58) ?_
        refine own_ddiv X81.here hx rfl (Jvm.hb hby d4_59) rfl (n3) ?_
        refine own_dstore X81.here hx rfl (Jvm.hb hby d4_60) rfl (l' := #[.val (.ref a), .val (.double ot), .second, .val (.double gl), .second, .val (.int (0 : Int32)), .val (.double (own_U us gl)), .second, .val (.double (FP.ddiv (own_U us gl) FP.dconst1)), .second, .unset, .unset]) rfl ?_
        refine XS.aloadN X81.here hx rfl (Jvm.hb hby d4_62) rfl rfl ?_
        exact st83 τ kt)
      have pre85 := fun (τ : State) kt => pre84 τ (by
        show Steps p.tables e below (T83.setTop (mkF m 66 #[.val (.ref a), .val (.double ot), .second, .val (.double gl), .second, .val (.int (0 : Int32)), .val (.double (own_U us gl)), .second, .val (.double (FP.ddiv (own_U us gl) FP.dconst1)), .second, .unset, .unset] [(.double he)])) τ
        refine X83.ldc2DoubleC hx hown (mvT hZ (own_W51 hw)) (g := (mkF m 66 #[.val (.ref a), .val (.double ot), .second, .val (.double gl), .second, .val (.int (0 : Int32)), .val (.double (own_U us gl)), .second, .val (.double (FP.ddiv (own_U us gl) FP.dconst1)), .second, .unset, .unset] [(.double he)])) rfl (Jvm.hb hby d4_66) _ ?_
        refine own_dcmp X83.here hx rfl (Jvm.hb hby d4_69) rfl ?_
        exact kt)
      have hL : own_L8 li us fa gl = (FP.ddiv (own_U us gl) FP.dconst1) := by
        unfold own_L8
        rw [if_neg qA]
        rw [if_neg qB]
      by_cases qH : (cmpValue (FP.dcmp he (4602678819172646912 : UInt64)) .l) < (0 : Int32)
      · skip
        obtain ⟨_, T86, L86, X86, ⟨rfl, Nq86, eq86⟩, st86⟩ := own_virt (y := own_mn2) (b := a) X83 hx hZ hown (own_W46 hw) (own_W47 hw) (own_W49 hw) (own_W48 hw) (by decide) (rm_held l Z a0 hw [] a he h0 n0 (Nat.le_trans Z0 KK0.1) F_held) (own_W50 hw) (own_W7 hw) 0 (by decide) (by decide) E7 eq83 (mkF m 86 #[.val (.ref a), .val (.double ot), .second, .val (.double gl), .second, .val (.int (0 : Int32)), .val (.double (own_U us gl)), .second, .val (.double (FP.ddiv (own_U us gl) FP.dconst1)), .second, .unset, .unset] [(.ref a)]) rfl (by rw [hml]; rfl) [] [] rfl (lenOf own_pd___D rfl) rfl (Nat.le_refl _) (Jvm.hb hby d4_86) (by decide) (by decide)
        have N86 := Fr.app N83 Nq86
        have pre87 := fun (τ : State) kt => pre85 τ (by
          show Steps p.tables e below (T83.setTop (mkF m 70 #[.val (.ref a), .val (.double ot), .second, .val (.double gl), .second, .val (.int (0 : Int32)), .val (.double (own_U us gl)), .second, .val (.double (FP.ddiv (own_U us gl) FP.dconst1)), .second, .unset, .unset] [(.int (cmpValue (FP.dcmp he (4602678819172646912 : UInt64)) .l))])) τ
          refine XS.ifYes X83.here hx rfl (pc0 := 70) (pc' := 85) rfl (Jvm.hb hby d4_70) rfl ((if0 _ _).trans (tlt qH).1) (by decide) (by decide) ?_
          refine XS.aloadN X83.here hx rfl (Jvm.hb hby d4_85) rfl rfl ?_
          exact st86 τ kt)
        obtain ⟨_, T88, L88, X88, ⟨rfl, Nq88, eq88⟩, st88⟩ := own_virt (y := own_mn1) (b := a) X86 hx hZ hown (own_W36 hw) (own_W37 hw) (own_W39 hw) (own_W38 hw) (by decide) (rm_used l Z a0 hw [] a us h0 n0 (Nat.le_trans Z0 KK0.1) F_used) (own_W40 hw) (own_W7 hw) 0 (by decide) (by decide) E7 eq86 (mkF m 121 #[.val (.ref a), .val (.double ot), .second, .val (.double gl), .second, .val (.int (0 : Int32)), .val (.double (own_U us gl)), .second, .val (.double (FP.ddiv (own_U us gl) FP.dconst1)), .second, .unset, .unset] [(.ref a)]) rfl (by rw [hml]; rfl) [] [] rfl (lenOf own_pd___D rfl) rfl (Nat.le_refl _) (Jvm.hb hby d4_121) (by decide) (by decide)
        have N88 := Fr.app N86 Nq88
        have pre89 := fun (τ : State) kt => pre87 τ (by
          show Steps p.tables e below (T86.setTop (mkF m 89 #[.val (.ref a), .val (.double ot), .second, .val (.double gl), .second, .val (.int (0 : Int32)), .val (.double (own_U us gl)), .second, .val (.double (FP.ddiv (own_U us gl) FP.dconst1)), .second, .unset, .unset] [(.double he)])) τ
          refine X86.ldc2DoubleC hx hown (mvT hZ (own_W51 hw)) (g := (mkF m 89 #[.val (.ref a), .val (.double ot), .second, .val (.double gl), .second, .val (.int (0 : Int32)), .val (.double (own_U us gl)), .second, .val (.double (FP.ddiv (own_U us gl) FP.dconst1)), .second, .unset, .unset] [(.double he)])) rfl (Jvm.hb hby d4_89) _ ?_
          refine own_dcmp X86.here hx rfl (Jvm.hb hby d4_92) rfl ?_
          refine XS.ifYes X86.here hx rfl (pc0 := 93) (pc' := 120) rfl (Jvm.hb hby d4_93) rfl ((if0 _ _).trans (tlt qH).1) (by decide) (by decide) ?_
          refine XS.aloadN X86.here hx rfl (Jvm.hb hby d4_120) rfl rfl ?_
          exact st88 τ kt)
        have pre90 := fun (τ : State) kt => pre89 τ (by
          show Steps p.tables e below (T88.setTop (mkF m 124 #[.val (.ref a), .val (.double ot), .second, .val (.double gl), .second, .val (.int (0 : Int32)), .val (.double (own_U us gl)), .second, .val (.double (FP.ddiv (own_U us gl) FP.dconst1)), .second, .unset, .unset] [(.double us)])) τ
          refine own_dconst1 X88.here hx rfl (Jvm.hb hby d4_124) ?_
          refine own_dcmp X88.here hx rfl (Jvm.hb hby d4_125) rfl ?_
          exact kt)
        by_cases qS : (cmpValue (FP.dcmp us FP.dconst1) .g) < (0 : Int32)
        · skip
          have hr : own_wt li us fa he ot gl = FP.dconst0 := by
            unfold own_wt
            rw [if_pos qH]
            rw [if_pos qS]
          have pre91 := fun (τ : State) kt => pre90 τ (by
            show Steps p.tables e below (T88.setTop (mkF m 126 #[.val (.ref a), .val (.double ot), .second, .val (.double gl), .second, .val (.int (0 : Int32)), .val (.double (own_U us gl)), .second, .val (.double (FP.ddiv (own_U us gl) FP.dconst1)), .second, .unset, .unset] [(.int (cmpValue (FP.dcmp us FP.dconst1) .g))])) τ
            refine XS.ifNo X88.here hx rfl (Jvm.hb hby d4_126) rfl ((if0 _ _).trans (tlt qS).2.1) ?_
            refine own_dconst0 X88.here hx rfl (Jvm.hb hby d4_129) ?_
            refine own_dstore X88.here hx rfl (Jvm.hb hby d4_130) rfl (l' := #[.val (.ref a), .val (.double ot), .second, .val (.double gl), .second, .val (.int (0 : Int32)), .val (.double (own_U us gl)), .second, .val (.double (FP.ddiv (own_U us gl) FP.dconst1)), .second, .val (.double FP.dconst0), .second]) rfl ?_
            refine XS.goto X88.here hx rfl (pc0 := 132) (pc' := 170) rfl (Jvm.hb hby d4_132) (by decide) (by decide) ?_
            refine own_dload X88.here hx rfl (Jvm.hb hby d4_170) rfl ?_
            exact kt)
          obtain ⟨fs, hrL, hrun, hended, hW, hsame⟩ := X88.leave (v := some (.double FP.dconst0)) (fun h => by rw [Bd.returns] at h; cases h)
          refine ⟨_, _, cast (congrFun hPS _) (pre91 _ ?_), hrun, hended, _, _, rfl, ?_, ⟨_, rfl⟩, hW, hsame.mono (by decide) (by decide)⟩
          · show Steps p.tables e below (T88.setTop (mkF m 172 #[.val (.ref a), .val (.double ot), .second, .val (.double gl), .second, .val (.int (0 : Int32)), .val (.double (own_U us gl)), .second, .val (.double (FP.ddiv (own_U us gl) FP.dconst1)), .second, .val (.double FP.dconst0), .second] [(.double FP.dconst0)])) _
            exact own_retD X88 hx Bd.returns (Jvm.hb hby d4_172) hrL
          · show QR (own_wt li us fa he ot gl) h0 n0 _ T88.heap _
            rw [eq88]
            exact ⟨congrArg (fun z => some (Value.double z)) hr.symm, N88, rfl⟩
        · skip
          have pre92 := fun (τ : State) kt => pre90 τ (by
            show Steps p.tables e below (T88.setTop (mkF m 126 #[.val (.ref a), .val (.double ot), .second, .val (.double gl), .second, .val (.int (0 : Int32)), .val (.double (own_U us gl)), .second, .val (.double (FP.ddiv (own_U us gl) FP.dconst1)), .second, .unset, .unset] [(.int (cmpValue (FP.dcmp us FP.dconst1) .g))])) τ
            refine XS.ifYes X88.here hx rfl (pc0 := 126) (pc' := 135) rfl (Jvm.hb hby d4_126) rfl ((if0 _ _).trans (flt qS).2.1) (by decide) (by decide) ?_
            refine own_dloadN X88.here hx rfl (Jvm.hb hby d4_135) rfl ?_
            refine own_dconst0 X88.here hx rfl (Jvm.hb hby d4_136) ?_
            refine own_dcmp X88.here hx rfl (Jvm.hb hby d4_137) rfl ?_
            exact kt)
          by_cases qO : (0 : Int32) < (cmpValue (FP.dcmp ot FP.dconst0) .l)
          · skip
            obtain ⟨_, vm93, _, -, X93, ⟨rfl, rfl⟩, st93⟩ := Jvm.LawKit.callS X88 hx (y := (⟨"java/lang/Math", "min", "(DD)D"⟩ : MethodName)) hown (mvT hZ (own_W42 hw)) (mvT hZ (own_W43 hw)) (mvT hZ (own_W44 hw)) (mvT hZ (own_W45 hw)) (by decide) (Jvm.Free.Fl.Abs.minD_pays (W := 0) (FP.ddiv (FP.dmul (own_U us gl) ot) (FP.dsub gl (own_U us gl))) (FP.ddiv (own_U us gl) FP.dconst1) (mvT hZ (own_W45 hw)) (by decide) (by decide)) (g := (mkF m 152 #[.val (.ref a), .val (.double ot), .second, .val (.double gl), .second, .val (.int (0 : Int32)), .val (.double (own_U us gl)), .second, .val (.double (FP.ddiv (own_U us gl) FP.dconst1)), .second, .unset, .unset] [(.double (FP.ddiv (own_U us gl) FP.dconst1)), (.double (FP.ddiv (FP.dmul (own_U us gl) ot) (FP.dsub gl (own_U us gl))))])) rfl (by rw [hml]; rfl) (argsL := [(.double (FP.ddiv (FP.dmul (own_U us gl) ot) (FP.dsub gl (own_U us gl)))), (.double (FP.ddiv (own_U us gl) FP.dconst1))]) (rest := []) (lenOf own_pd__DD_D rfl) rfl (by show 2 * 0 + _ ≤ _; exact Nat.le_of_eq rfl) (Jvm.hb hby d4_152) (fun _ _ => ⟨(by decide : 0 ≤ _), (by decide : 0 ≤ _), rfl, (n5 qS qO).2.2.1, n3⟩)
            dsimp only [Pt.U, Pt.locs, Pt.cells, Pt.slots] at X93 st93
            have e93 : (T88.setVm vm93).heap = h0 := eq88
            have pre94 := fun (τ : State) kt => pre92 τ (by
              show Steps p.tables e below (T88.setTop (mkF m 138 #[.val (.ref a), .val (.double ot), .second, .val (.double gl), .second, .val (.int (0 : Int32)), .val (.double (own_U us gl)), .second, .val (.double (FP.ddiv (own_U us gl) FP.dconst1)), .second, .unset, .unset] [(.int (cmpValue (FP.dcmp ot FP.dconst0) .l))])) τ
              refine XS.ifNo X88.here hx rfl (Jvm.hb hby d4_138) rfl ((if0 _ _).trans (tlt qO).2.2.2) ?_
              refine own_dload X88.here hx rfl (Jvm.hb hby d4_141) rfl ?_
              refine own_dloadN X88.here hx rfl (Jvm.hb hby d4_143) rfl ?_
              refine own_dmul X88.here hx rfl (Jvm.hb hby d4_144) rfl ((n5 qS qO).1) ?_
              refine own_dloadN X88.here hx rfl (Jvm.hb hby d4_145) rfl ?_
              refine own_dload X88.here hx rfl (Jvm.hb hby d4_146) rfl ?_
              refine own_dsub X88.here hx rfl (Jvm.hb hby d4_148) rfl ((n5 qS qO).2.1) ?_
              refine own_ddiv X88.here hx rfl (Jvm.hb hby d4_149) rfl ((n5 qS qO).2.2.1) ?_
              refine own_dload X88.here hx rfl (Jvm.hb hby d4_150) rfl ?_
              exact st93 τ kt)
            obtain ⟨_, vm95, _, -, X95, ⟨rfl, rfl⟩, st95⟩ := Jvm.LawKit.callS X93 hx (y := (⟨"java/lang/Math", "max", "(DD)D"⟩ : MethodName)) hown (mvT hZ (own_W58 hw)) (mvT hZ (own_W59 hw)) (mvT hZ (own_W44 hw)) (mvT hZ (own_W60 hw)) (by decide) (Jvm.Free.Fl.Abs.maxD_pays (W := 0) (Native.java_lang_Math.nans.pick64 false (own_quo us ot gl) (FP.ddiv (own_U us gl) FP.dconst1)) (FP.ddiv (own_U us gl) gl) (mvT hZ (own_W60 hw)) (by decide) (by decide)) (g := (mkF m 159 #[.val (.ref a), .val (.double ot), .second, .val (.double gl), .second, .val (.int (0 : Int32)), .val (.double (own_U us gl)), .second, .val (.double (FP.ddiv (own_U us gl) FP.dconst1)), .second, .unset, .unset] [(.double (FP.ddiv (own_U us gl) gl)), (.double (Native.java_lang_Math.nans.pick64 false (own_quo us ot gl) (FP.ddiv (own_U us gl) FP.dconst1)))])) rfl (by rw [hml]; rfl) (argsL := [(.double (Native.java_lang_Math.nans.pick64 false (own_quo us ot gl) (FP.ddiv (own_U us gl) FP.dconst1))), (.double (FP.ddiv (own_U us gl) gl))]) (rest := []) (lenOf own_pd__DD_D rfl) rfl (by show 2 * 0 + _ ≤ _; exact Nat.le_of_eq rfl) (Jvm.hb hby d4_159) (fun _ _ => ⟨(by decide : 0 ≤ _), (by decide : 0 ≤ _), rfl, own_pick_no (n5 qS qO).2.2.1 n3, (n5 qS qO).2.2.2⟩)
            dsimp only [Pt.U, Pt.locs, Pt.cells, Pt.slots] at X95 st95
            have e95 : ((T88.setVm vm93).setVm vm95).heap = h0 := e93
            have pre96 := fun (τ : State) kt => pre94 τ (by
              show Steps p.tables e below ((T88.setVm vm93).setTop (mkF m 155 #[.val (.ref a), .val (.double ot), .second, .val (.double gl), .second, .val (.int (0 : Int32)), .val (.double (own_U us gl)), .second, .val (.double (FP.ddiv (own_U us gl) FP.dconst1)), .second, .unset, .unset] [(.double (Native.java_lang_Math.nans.pick64 false (own_quo us ot gl) (FP.ddiv (own_U us gl) FP.dconst1)))])) τ
              refine own_dload X93.here hx rfl (Jvm.hb hby d4_155) rfl ?_
              refine own_dloadN X93.here hx rfl (Jvm.hb hby d4_157) rfl ?_
              refine own_ddiv X93.here hx rfl (Jvm.hb hby d4_158) rfl ((n5 qS qO).2.2.2) ?_
              exact st95 τ kt)
            have hr : own_wt li us fa he ot gl = (Native.java_lang_Math.nans.pick64 true (Native.java_lang_Math.nans.pick64 false (own_quo us ot gl) (FP.ddiv (own_U us gl) FP.dconst1)) (FP.ddiv (own_U us gl) gl)) := by
              unfold own_wt
              rw [if_pos qH]
              rw [if_neg qS]
              rw [show own_tail (own_L8 li us fa gl) us ot gl = _ from if_pos qO]
              rw [hL]
            have pre97 := fun (τ : State) kt => pre96 τ (by
              show Steps p.tables e below (((T88.setVm vm93).setVm vm95).setTop (mkF m 162 #[.val (.ref a), .val (.double ot), .second, .val (.double gl), .second, .val (.int (0 : Int32)), .val (.double (own_U us gl)), .second, .val (.double (FP.ddiv (own_U us gl) FP.dconst1)), .second, .unset, .unset] [(.double (Native.java_lang_Math.nans.pick64 true (Native.java_lang_Math.nans.pick64 false (own_quo us ot gl) (FP.ddiv (own_U us gl) FP.dconst1)) (FP.ddiv (own_U us gl) gl)))])) τ
              refine own_dstore X95.here hx rfl (Jvm.hb hby d4_162) rfl (l' := #[.val (.ref a), .val (.double ot), .second, .val (.double gl), .second, .val (.int (0 : Int32)), .val (.double (own_U us gl)), .second, .val (.double (FP.ddiv (own_U us gl) FP.dconst1)), .second, .val (.double (Native.java_lang_Math.nans.pick64 true (Native.java_lang_Math.nans.pick64 false (own_quo us ot gl) (FP.ddiv (own_U us gl) FP.dconst1)) (FP.ddiv (own_U us gl) gl))), .second]) rfl ?_
              refine XS.goto X95.here hx rfl (pc0 := 164) (pc' := 170) rfl (Jvm.hb hby d4_164) (by decide) (by decide) ?_
              refine own_dload X95.here hx rfl (Jvm.hb hby d4_170) rfl ?_
              exact kt)
            obtain ⟨fs, hrL, hrun, hended, hW, hsame⟩ := X95.leave (v := some (.double (Native.java_lang_Math.nans.pick64 true (Native.java_lang_Math.nans.pick64 false (own_quo us ot gl) (FP.ddiv (own_U us gl) FP.dconst1)) (FP.ddiv (own_U us gl) gl)))) (fun h => by rw [Bd.returns] at h; cases h)
            refine ⟨_, _, cast (congrFun hPS _) (pre97 _ ?_), hrun, hended, _, _, rfl, ?_, ⟨_, rfl⟩, hW, hsame.mono (by decide) (by decide)⟩
            · show Steps p.tables e below (((T88.setVm vm93).setVm vm95).setTop (mkF m 172 #[.val (.ref a), .val (.double ot), .second, .val (.double gl), .second, .val (.int (0 : Int32)), .val (.double (own_U us gl)), .second, .val (.double (FP.ddiv (own_U us gl) FP.dconst1)), .second, .val (.double (Native.java_lang_Math.nans.pick64 true (Native.java_lang_Math.nans.pick64 false (own_quo us ot gl) (FP.ddiv (own_U us gl) FP.dconst1)) (FP.ddiv (own_U us gl) gl))), .second] [(.double (Native.java_lang_Math.nans.pick64 true (Native.java_lang_Math.nans.pick64 false (own_quo us ot gl) (FP.ddiv (own_U us gl) FP.dconst1)) (FP.ddiv (own_U us gl) gl)))])) _
              exact own_retD X95 hx Bd.returns (Jvm.hb hby d4_172) hrL
            · show QR (own_wt li us fa he ot gl) h0 n0 _ ((T88.setVm vm93).setVm vm95).heap _
              rw [e95]
              exact ⟨congrArg (fun z => some (Value.double z)) hr.symm, N88, rfl⟩
          · skip
            have hr : own_wt li us fa he ot gl = FP.dconst1 := by
              unfold own_wt
              rw [if_pos qH]
              rw [if_neg qS]
              rw [show own_tail (own_L8 li us fa gl) us ot gl = _ from if_neg qO]
            have pre98 := fun (τ : State) kt => pre92 τ (by
              show Steps p.tables e below (T88.setTop (mkF m 138 #[.val (.ref a), .val (.double ot), .second, .val (.double gl), .second, .val (.int (0 : Int32)), .val (.double (own_U us gl)), .second, .val (.double (FP.ddiv (own_U us gl) FP.dconst1)), .second, .unset, .unset] [(.int (cmpValue (FP.dcmp ot FP.dconst0) .l))])) τ
              refine XS.ifYes X88.here hx rfl (pc0 := 138) (pc' := 167) rfl (Jvm.hb hby d4_138) rfl ((if0 _ _).trans (flt qO).2.2.2) (by decide) (by decide) ?_
              refine own_dconst1 X88.here hx rfl (Jvm.hb hby d4_167) ?_
              refine own_dstore X88.here hx rfl (Jvm.hb hby d4_168) rfl (l' := #[.val (.ref a), .val (.double ot), .second, .val (.double gl), .second, .val (.int (0 : Int32)), .val (.double (own_U us gl)), .second, .val (.double (FP.ddiv (own_U us gl) FP.dconst1)), .second, .val (.double FP.dconst1), .second]) rfl ?_
              refine own_dload X88.here hx rfl (Jvm.hb hby d4_170) rfl ?_
              exact kt)
            obtain ⟨fs, hrL, hrun, hended, hW, hsame⟩ := X88.leave (v := some (.double FP.dconst1)) (fun h => by rw [Bd.returns] at h; cases h)
            refine ⟨_, _, cast (congrFun hPS _) (pre98 _ ?_), hrun, hended, _, _, rfl, ?_, ⟨_, rfl⟩, hW, hsame.mono (by decide) (by decide)⟩
            · show Steps p.tables e below (T88.setTop (mkF m 172 #[.val (.ref a), .val (.double ot), .second, .val (.double gl), .second, .val (.int (0 : Int32)), .val (.double (own_U us gl)), .second, .val (.double (FP.ddiv (own_U us gl) FP.dconst1)), .second, .val (.double FP.dconst1), .second] [(.double FP.dconst1)])) _
              exact own_retD X88 hx Bd.returns (Jvm.hb hby d4_172) hrL
            · show QR (own_wt li us fa he ot gl) h0 n0 _ T88.heap _
              rw [eq88]
              exact ⟨congrArg (fun z => some (Value.double z)) hr.symm, N88, rfl⟩
      · skip
        obtain ⟨_, T99, L99, X99, ⟨rfl, Nq99, eq99⟩, st99⟩ := own_virt (y := own_mn2) (b := a) X83 hx hZ hown (own_W46 hw) (own_W47 hw) (own_W49 hw) (own_W48 hw) (by decide) (rm_held l Z a0 hw [] a he h0 n0 (Nat.le_trans Z0 KK0.1) F_held) (own_W50 hw) (own_W7 hw) 0 (by decide) (by decide) E7 eq83 (mkF m 86 #[.val (.ref a), .val (.double ot), .second, .val (.double gl), .second, .val (.int (0 : Int32)), .val (.double (own_U us gl)), .second, .val (.double (FP.ddiv (own_U us gl) FP.dconst1)), .second, .unset, .unset] [(.ref a)]) rfl (by rw [hml]; rfl) [] [] rfl (lenOf own_pd___D rfl) rfl (Nat.le_refl _) (Jvm.hb hby d4_86) (by decide) (by decide)
        have N99 := Fr.app N83 Nq99
        have pre100 := fun (τ : State) kt => pre85 τ (by
          show Steps p.tables e below (T83.setTop (mkF m 70 #[.val (.ref a), .val (.double ot), .second, .val (.double gl), .second, .val (.int (0 : Int32)), .val (.double (own_U us gl)), .second, .val (.double (FP.ddiv (own_U us gl) FP.dconst1)), .second, .unset, .unset] [(.int (cmpValue (FP.dcmp he (4602678819172646912 : UInt64)) .l))])) τ
          refine XS.ifNo X83.here hx rfl (Jvm.hb hby d4_70) rfl ((if0 _ _).trans (flt qH).1) ?_
          refine XS.iload X83.here hx rfl (Jvm.hb hby d4_73) rfl ?_
          refine XS.ifYes X83.here hx rfl (pc0 := 75) (pc' := 85) rfl (Jvm.hb hby d4_75) rfl ((if0 _ _).trans (teq rfl).1) (by decide) (by decide) ?_
          refine XS.aloadN X83.here hx rfl (Jvm.hb hby d4_85) rfl rfl ?_
          exact st99 τ kt)
        obtain ⟨_, T101, L101, X101, ⟨rfl, Nq101, eq101⟩, st101⟩ := own_virt (y := own_mn3) (b := a) X99 hx hZ hown (own_W53 hw) (own_W54 hw) (own_W56 hw) (own_W55 hw) (by decide) (rm_limit l Z a0 hw [] a li h0 n0 (Nat.le_trans Z0 KK0.1) F_limit) (own_W57 hw) (own_W7 hw) 0 (by decide) (by decide) E7 eq99 (mkF m 97 #[.val (.ref a), .val (.double ot), .second, .val (.double gl), .second, .val (.int (0 : Int32)), .val (.double (own_U us gl)), .second, .val (.double (FP.ddiv (own_U us gl) FP.dconst1)), .second, .unset, .unset] [(.ref a)]) rfl (by rw [hml]; rfl) [] [] rfl (lenOf own_pd___D rfl) rfl (Nat.le_refl _) (Jvm.hb hby d4_97) (by decide) (by decide)
        have N101 := Fr.app N99 Nq101
        have pre102 := fun (τ : State) kt => pre100 τ (by
          show Steps p.tables e below (T99.setTop (mkF m 89 #[.val (.ref a), .val (.double ot), .second, .val (.double gl), .second, .val (.int (0 : Int32)), .val (.double (own_U us gl)), .second, .val (.double (FP.ddiv (own_U us gl) FP.dconst1)), .second, .unset, .unset] [(.double he)])) τ
          refine X99.ldc2DoubleC hx hown (mvT hZ (own_W51 hw)) (g := (mkF m 89 #[.val (.ref a), .val (.double ot), .second, .val (.double gl), .second, .val (.int (0 : Int32)), .val (.double (own_U us gl)), .second, .val (.double (FP.ddiv (own_U us gl) FP.dconst1)), .second, .unset, .unset] [(.double he)])) rfl (Jvm.hb hby d4_89) _ ?_
          refine own_dcmp X99.here hx rfl (Jvm.hb hby d4_92) rfl ?_
          refine XS.ifNo X99.here hx rfl (Jvm.hb hby d4_93) rfl ((if0 _ _).trans (flt qH).1) ?_
          refine XS.aloadN X99.here hx rfl (Jvm.hb hby d4_96) rfl rfl ?_
          exact st101 τ kt)
        have pre103 := fun (τ : State) kt => pre102 τ (by
          show Steps p.tables e below (T101.setTop (mkF m 100 #[.val (.ref a), .val (.double ot), .second, .val (.double gl), .second, .val (.int (0 : Int32)), .val (.double (own_U us gl)), .second, .val (.double (FP.ddiv (own_U us gl) FP.dconst1)), .second, .unset, .unset] [(.double li)])) τ
          refine own_dconst0 X101.here hx rfl (Jvm.hb hby d4_100) ?_
          refine own_dcmp X101.here hx rfl (Jvm.hb hby d4_101) rfl ?_
          exact kt)
        by_cases qZ : (cmpValue (FP.dcmp li FP.dconst0) .l) = (0 : Int32)
        · skip
          have hr : own_wt li us fa he ot gl = FP.dconst1 := by
            unfold own_wt
            rw [if_neg qH]
            rw [if_neg (fun q => qB q.2)]
            rw [if_pos qZ]
          have pre104 := fun (τ : State) kt => pre103 τ (by
            show Steps p.tables e below (T101.setTop (mkF m 102 #[.val (.ref a), .val (.double ot), .second, .val (.double gl), .second, .val (.int (0 : Int32)), .val (.double (own_U us gl)), .second, .val (.double (FP.ddiv (own_U us gl) FP.dconst1)), .second, .unset, .unset] [(.int (cmpValue (FP.dcmp li FP.dconst0) .l))])) τ
            refine XS.ifYes X101.here hx rfl (pc0 := 102) (pc' := 114) rfl (Jvm.hb hby d4_102) rfl ((if0 _ _).trans (teq qZ).1) (by decide) (by decide) ?_
            refine own_dconst1 X101.here hx rfl (Jvm.hb hby d4_114) ?_
            refine own_dstore X101.here hx rfl (Jvm.hb hby d4_115) rfl (l' := #[.val (.ref a), .val (.double ot), .second, .val (.double gl), .second, .val (.int (0 : Int32)), .val (.double (own_U us gl)), .second, .val (.double (FP.ddiv (own_U us gl) FP.dconst1)), .second, .val (.double FP.dconst1), .second]) rfl ?_
            refine XS.goto X101.here hx rfl (pc0 := 117) (pc' := 170) rfl (Jvm.hb hby d4_117) (by decide) (by decide) ?_
            refine own_dload X101.here hx rfl (Jvm.hb hby d4_170) rfl ?_
            exact kt)
          obtain ⟨fs, hrL, hrun, hended, hW, hsame⟩ := X101.leave (v := some (.double FP.dconst1)) (fun h => by rw [Bd.returns] at h; cases h)
          refine ⟨_, _, cast (congrFun hPS _) (pre104 _ ?_), hrun, hended, _, _, rfl, ?_, ⟨_, rfl⟩, hW, hsame.mono (by decide) (by decide)⟩
          · show Steps p.tables e below (T101.setTop (mkF m 172 #[.val (.ref a), .val (.double ot), .second, .val (.double gl), .second, .val (.int (0 : Int32)), .val (.double (own_U us gl)), .second, .val (.double (FP.ddiv (own_U us gl) FP.dconst1)), .second, .val (.double FP.dconst1), .second] [(.double FP.dconst1)])) _
            exact own_retD X101 hx Bd.returns (Jvm.hb hby d4_172) hrL
          · show QR (own_wt li us fa he ot gl) h0 n0 _ T101.heap _
            rw [eq101]
            exact ⟨congrArg (fun z => some (Value.double z)) hr.symm, N101, rfl⟩
        · skip
          obtain ⟨_, T105, L105, X105, ⟨rfl, Nq105, eq105⟩, st105⟩ := own_virt (y := own_mn1) (b := a) X101 hx hZ hown (own_W36 hw) (own_W37 hw) (own_W39 hw) (own_W38 hw) (by decide) (rm_used l Z a0 hw [] a us h0 n0 (Nat.le_trans Z0 KK0.1) F_used) (own_W40 hw) (own_W7 hw) 0 (by decide) (by decide) E7 eq101 (mkF m 106 #[.val (.ref a), .val (.double ot), .second, .val (.double gl), .second, .val (.int (0 : Int32)), .val (.double (own_U us gl)), .second, .val (.double (FP.ddiv (own_U us gl) FP.dconst1)), .second, .unset, .unset] [(.ref a)]) rfl (by rw [hml]; rfl) [] [] rfl (lenOf own_pd___D rfl) rfl (Nat.le_refl _) (Jvm.hb hby d4_106) (by decide) (by decide)
          have N105 := Fr.app N101 Nq105
          have pre106 := fun (τ : State) kt => pre103 τ (by
            show Steps p.tables e below (T101.setTop (mkF m 102 #[.val (.ref a), .val (.double ot), .second, .val (.double gl), .second, .val (.int (0 : Int32)), .val (.double (own_U us gl)), .second, .val (.double (FP.ddiv (own_U us gl) FP.dconst1)), .second, .unset, .unset] [(.int (cmpValue (FP.dcmp li FP.dconst0) .l))])) τ
            refine XS.ifNo X101.here hx rfl (Jvm.hb hby d4_102) rfl ((if0 _ _).trans (feq qZ).1) ?_
            refine XS.aloadN X101.here hx rfl (Jvm.hb hby d4_105) rfl rfl ?_
            exact st105 τ kt)
          have pre107 := fun (τ : State) kt => pre106 τ (by
            show Steps p.tables e below (T105.setTop (mkF m 109 #[.val (.ref a), .val (.double ot), .second, .val (.double gl), .second, .val (.int (0 : Int32)), .val (.double (own_U us gl)), .second, .val (.double (FP.ddiv (own_U us gl) FP.dconst1)), .second, .unset, .unset] [(.double us)])) τ
            refine own_dconst1 X105.here hx rfl (Jvm.hb hby d4_109) ?_
            refine own_dcmp X105.here hx rfl (Jvm.hb hby d4_110) rfl ?_
            exact kt)
          by_cases qS : (cmpValue (FP.dcmp us FP.dconst1) .g) < (0 : Int32)
          · skip
            have hr : own_wt li us fa he ot gl = FP.dconst1 := by
              unfold own_wt
              rw [if_neg qH]
              rw [if_neg (fun q => qB q.2)]
              rw [if_neg qZ]
              rw [if_pos qS]
            have pre108 := fun (τ : State) kt => pre107 τ (by
              show Steps p.tables e below (T105.setTop (mkF m 111 #[.val (.ref a), .val (.double ot), .second, .val (.double gl), .second, .val (.int (0 : Int32)), .val (.double (own_U us gl)), .second, .val (.double (FP.ddiv (own_U us gl) FP.dconst1)), .second, .unset, .unset] [(.int (cmpValue (FP.dcmp us FP.dconst1) .g))])) τ
              refine XS.ifNo X105.here hx rfl (Jvm.hb hby d4_111) rfl ((if0 _ _).trans (tlt qS).2.1) ?_
              refine own_dconst1 X105.here hx rfl (Jvm.hb hby d4_114) ?_
              refine own_dstore X105.here hx rfl (Jvm.hb hby d4_115) rfl (l' := #[.val (.ref a), .val (.double ot), .second, .val (.double gl), .second, .val (.int (0 : Int32)), .val (.double (own_U us gl)), .second, .val (.double (FP.ddiv (own_U us gl) FP.dconst1)), .second, .val (.double FP.dconst1), .second]) rfl ?_
              refine XS.goto X105.here hx rfl (pc0 := 117) (pc' := 170) rfl (Jvm.hb hby d4_117) (by decide) (by decide) ?_
              refine own_dload X105.here hx rfl (Jvm.hb hby d4_170) rfl ?_
              exact kt)
            obtain ⟨fs, hrL, hrun, hended, hW, hsame⟩ := X105.leave (v := some (.double FP.dconst1)) (fun h => by rw [Bd.returns] at h; cases h)
            refine ⟨_, _, cast (congrFun hPS _) (pre108 _ ?_), hrun, hended, _, _, rfl, ?_, ⟨_, rfl⟩, hW, hsame.mono (by decide) (by decide)⟩
            · show Steps p.tables e below (T105.setTop (mkF m 172 #[.val (.ref a), .val (.double ot), .second, .val (.double gl), .second, .val (.int (0 : Int32)), .val (.double (own_U us gl)), .second, .val (.double (FP.ddiv (own_U us gl) FP.dconst1)), .second, .val (.double FP.dconst1), .second] [(.double FP.dconst1)])) _
              exact own_retD X105 hx Bd.returns (Jvm.hb hby d4_172) hrL
            · show QR (own_wt li us fa he ot gl) h0 n0 _ T105.heap _
              rw [eq105]
              exact ⟨congrArg (fun z => some (Value.double z)) hr.symm, N105, rfl⟩
          · skip
            obtain ⟨_, T109, L109, X109, ⟨rfl, Nq109, eq109⟩, st109⟩ := own_virt (y := own_mn1) (b := a) X105 hx hZ hown (own_W36 hw) (own_W37 hw) (own_W39 hw) (own_W38 hw) (by decide) (rm_used l Z a0 hw [] a us h0 n0 (Nat.le_trans Z0 KK0.1) F_used) (own_W40 hw) (own_W7 hw) 0 (by decide) (by decide) E7 eq105 (mkF m 121 #[.val (.ref a), .val (.double ot), .second, .val (.double gl), .second, .val (.int (0 : Int32)), .val (.double (own_U us gl)), .second, .val (.double (FP.ddiv (own_U us gl) FP.dconst1)), .second, .unset, .unset] [(.ref a)]) rfl (by rw [hml]; rfl) [] [] rfl (lenOf own_pd___D rfl) rfl (Nat.le_refl _) (Jvm.hb hby d4_121) (by decide) (by decide)
            have N109 := Fr.app N105 Nq109
            have pre110 := fun (τ : State) kt => pre107 τ (by
              show Steps p.tables e below (T105.setTop (mkF m 111 #[.val (.ref a), .val (.double ot), .second, .val (.double gl), .second, .val (.int (0 : Int32)), .val (.double (own_U us gl)), .second, .val (.double (FP.ddiv (own_U us gl) FP.dconst1)), .second, .unset, .unset] [(.int (cmpValue (FP.dcmp us FP.dconst1) .g))])) τ
              refine XS.ifYes X105.here hx rfl (pc0 := 111) (pc' := 120) rfl (Jvm.hb hby d4_111) rfl ((if0 _ _).trans (flt qS).2.1) (by decide) (by decide) ?_
              refine XS.aloadN X105.here hx rfl (Jvm.hb hby d4_120) rfl rfl ?_
              exact st109 τ kt)
            have pre111 := fun (τ : State) kt => pre110 τ (by
              show Steps p.tables e below (T109.setTop (mkF m 124 #[.val (.ref a), .val (.double ot), .second, .val (.double gl), .second, .val (.int (0 : Int32)), .val (.double (own_U us gl)), .second, .val (.double (FP.ddiv (own_U us gl) FP.dconst1)), .second, .unset, .unset] [(.double us)])) τ
              refine own_dconst1 X109.here hx rfl (Jvm.hb hby d4_124) ?_
              refine own_dcmp X109.here hx rfl (Jvm.hb hby d4_125) rfl ?_
              refine XS.ifYes X109.here hx rfl (pc0 := 126) (pc' := 135) rfl (Jvm.hb hby d4_126) rfl ((if0 _ _).trans (flt qS).2.1) (by decide) (by decide) ?_
              refine own_dloadN X109.here hx rfl (Jvm.hb hby d4_135) rfl ?_
              refine own_dconst0 X109.here hx rfl (Jvm.hb hby d4_136) ?_
              refine own_dcmp X109.here hx rfl (Jvm.hb hby d4_137) rfl ?_
              exact kt)
            by_cases qO : (0 : Int32) < (cmpValue (FP.dcmp ot FP.dconst0) .l)
            · skip
              obtain ⟨_, vm112, _, -, X112, ⟨rfl, rfl⟩, st112⟩ := Jvm.LawKit.callS X109 hx (y := (⟨"java/lang/Math", "min", "(DD)D"⟩ : MethodName)) hown (mvT hZ (own_W42 hw)) (mvT hZ (own_W43 hw)) (mvT hZ (own_W44 hw)) (mvT hZ (own_W45 hw)) (by decide) (Jvm.Free.Fl.Abs.minD_pays (W := 0) (FP.ddiv (FP.dmul (own_U us gl) ot) (FP.dsub gl (own_U us gl))) (FP.ddiv (own_U us gl) FP.dconst1) (mvT hZ (own_W45 hw)) (by decide) (by decide)) (g := (mkF m 152 #[.val (.ref a), .val (.double ot), .second, .val (.double gl), .second, .val (.int (0 : Int32)), .val (.double (own_U us gl)), .second, .val (.double (FP.ddiv (own_U us gl) FP.dconst1)), .second, .unset, .unset] [(.double (FP.ddiv (own_U us gl) FP.dconst1)), (.double (FP.ddiv (FP.dmul (own_U us gl) ot) (FP.dsub gl (own_U us gl))))])) rfl (by rw [hml]; rfl) (argsL := [(.double (FP.ddiv (FP.dmul (own_U us gl) ot) (FP.dsub gl (own_U us gl)))), (.double (FP.ddiv (own_U us gl) FP.dconst1))]) (rest := []) (lenOf own_pd__DD_D rfl) rfl (by show 2 * 0 + _ ≤ _; exact Nat.le_of_eq rfl) (Jvm.hb hby d4_152) (fun _ _ => ⟨(by decide : 0 ≤ _), (by decide : 0 ≤ _), rfl, (n5 qS qO).2.2.1, n3⟩)
              dsimp only [Pt.U, Pt.locs, Pt.cells, Pt.slots] at X112 st112
              have e112 : (T109.setVm vm112).heap = h0 := eq109
              have pre113 := fun (τ : State) kt => pre111 τ (by
                show Steps p.tables e below (T109.setTop (mkF m 138 #[.val (.ref a), .val (.double ot), .second, .val (.double gl), .second, .val (.int (0 : Int32)), .val (.double (own_U us gl)), .second, .val (.double (FP.ddiv (own_U us gl) FP.dconst1)), .second, .unset, .unset] [(.int (cmpValue (FP.dcmp ot FP.dconst0) .l))])) τ
                refine XS.ifNo X109.here hx rfl (Jvm.hb hby d4_138) rfl ((if0 _ _).trans (tlt qO).2.2.2) ?_
                refine own_dload X109.here hx rfl (Jvm.hb hby d4_141) rfl ?_
                refine own_dloadN X109.here hx rfl (Jvm.hb hby d4_143) rfl ?_
                refine own_dmul X109.here hx rfl (Jvm.hb hby d4_144) rfl ((n5 qS qO).1) ?_
                refine own_dloadN X109.here hx rfl (Jvm.hb hby d4_145) rfl ?_
                refine own_dload X109.here hx rfl (Jvm.hb hby d4_146) rfl ?_
                refine own_dsub X109.here hx rfl (Jvm.hb hby d4_148) rfl ((n5 qS qO).2.1) ?_
                refine own_ddiv X109.here hx rfl (Jvm.hb hby d4_149) rfl ((n5 qS qO).2.2.1) ?_
                refine own_dload X109.here hx rfl (Jvm.hb hby d4_150) rfl ?_
                exact st112 τ kt)
              obtain ⟨_, vm114, _, -, X114, ⟨rfl, rfl⟩, st114⟩ := Jvm.LawKit.callS X112 hx (y := (⟨"java/lang/Math", "max", "(DD)D"⟩ : MethodName)) hown (mvT hZ (own_W58 hw)) (mvT hZ (own_W59 hw)) (mvT hZ (own_W44 hw)) (mvT hZ (own_W60 hw)) (by decide) (Jvm.Free.Fl.Abs.maxD_pays (W := 0) (Native.java_lang_Math.nans.pick64 false (own_quo us ot gl) (FP.ddiv (own_U us gl) FP.dconst1)) (FP.ddiv (own_U us gl) gl) (mvT hZ (own_W60 hw)) (by decide) (by decide)) (g := (mkF m 159 #[.val (.ref a), .val (.double ot), .second, .val (.double gl), .second, .val (.int (0 : Int32)), .val (.double (own_U us gl)), .second, .val (.double (FP.ddiv (own_U us gl) FP.dconst1)), .second, .unset, .unset] [(.double (FP.ddiv (own_U us gl) gl)), (.double (Native.java_lang_Math.nans.pick64 false (own_quo us ot gl) (FP.ddiv (own_U us gl) FP.dconst1)))])) rfl (by rw [hml]; rfl) (argsL := [(.double (Native.java_lang_Math.nans.pick64 false (own_quo us ot gl) (FP.ddiv (own_U us gl) FP.dconst1))), (.double (FP.ddiv (own_U us gl) gl))]) (rest := []) (lenOf own_pd__DD_D rfl) rfl (by show 2 * 0 + _ ≤ _; exact Nat.le_of_eq rfl) (Jvm.hb hby d4_159) (fun _ _ => ⟨(by decide : 0 ≤ _), (by decide : 0 ≤ _), rfl, own_pick_no (n5 qS qO).2.2.1 n3, (n5 qS qO).2.2.2⟩)
              dsimp only [Pt.U, Pt.locs, Pt.cells, Pt.slots] at X114 st114
              have e114 : ((T109.setVm vm112).setVm vm114).heap = h0 := e112
              have pre115 := fun (τ : State) kt => pre113 τ (by
                show Steps p.tables e below ((T109.setVm vm112).setTop (mkF m 155 #[.val (.ref a), .val (.double ot), .second, .val (.double gl), .second, .val (.int (0 : Int32)), .val (.double (own_U us gl)), .second, .val (.double (FP.ddiv (own_U us gl) FP.dconst1)), .second, .unset, .unset] [(.double (Native.java_lang_Math.nans.pick64 false (own_quo us ot gl) (FP.ddiv (own_U us gl) FP.dconst1)))])) τ
                refine own_dload X112.here hx rfl (Jvm.hb hby d4_155) rfl ?_
                refine own_dloadN X112.here hx rfl (Jvm.hb hby d4_157) rfl ?_
                refine own_ddiv X112.here hx rfl (Jvm.hb hby d4_158) rfl ((n5 qS qO).2.2.2) ?_
                exact st114 τ kt)
              have hr : own_wt li us fa he ot gl = (Native.java_lang_Math.nans.pick64 true (Native.java_lang_Math.nans.pick64 false (own_quo us ot gl) (FP.ddiv (own_U us gl) FP.dconst1)) (FP.ddiv (own_U us gl) gl)) := by
                unfold own_wt
                rw [if_neg qH]
                rw [if_neg (fun q => qB q.2)]
                rw [if_neg qZ]
                rw [if_neg qS]
                rw [show own_tail (own_L8 li us fa gl) us ot gl = _ from if_pos qO]
                rw [hL]
              have pre116 := fun (τ : State) kt => pre115 τ (by
                show Steps p.tables e below (((T109.setVm vm112).setVm vm114).setTop (mkF m 162 #[.val (.ref a), .val (.double ot), .second, .val (.double gl), .second, .val (.int (0 : Int32)), .val (.double (own_U us gl)), .second, .val (.double (FP.ddiv (own_U us gl) FP.dconst1)), .second, .unset, .unset] [(.double (Native.java_lang_Math.nans.pick64 true (Native.java_lang_Math.nans.pick64 false (own_quo us ot gl) (FP.ddiv (own_U us gl) FP.dconst1)) (FP.ddiv (own_U us gl) gl)))])) τ
                refine own_dstore X114.here hx rfl (Jvm.hb hby d4_162) rfl (l' := #[.val (.ref a), .val (.double ot), .second, .val (.double gl), .second, .val (.int (0 : Int32)), .val (.double (own_U us gl)), .second, .val (.double (FP.ddiv (own_U us gl) FP.dconst1)), .second, .val (.double (Native.java_lang_Math.nans.pick64 true (Native.java_lang_Math.nans.pick64 false (own_quo us ot gl) (FP.ddiv (own_U us gl) FP.dconst1)) (FP.ddiv (own_U us gl) gl))), .second]) rfl ?_
                refine XS.goto X114.here hx rfl (pc0 := 164) (pc' := 170) rfl (Jvm.hb hby d4_164) (by decide) (by decide) ?_
                refine own_dload X114.here hx rfl (Jvm.hb hby d4_170) rfl ?_
                exact kt)
              obtain ⟨fs, hrL, hrun, hended, hW, hsame⟩ := X114.leave (v := some (.double (Native.java_lang_Math.nans.pick64 true (Native.java_lang_Math.nans.pick64 false (own_quo us ot gl) (FP.ddiv (own_U us gl) FP.dconst1)) (FP.ddiv (own_U us gl) gl)))) (fun h => by rw [Bd.returns] at h; cases h)
              refine ⟨_, _, cast (congrFun hPS _) (pre116 _ ?_), hrun, hended, _, _, rfl, ?_, ⟨_, rfl⟩, hW, hsame.mono (by decide) (by decide)⟩
              · show Steps p.tables e below (((T109.setVm vm112).setVm vm114).setTop (mkF m 172 #[.val (.ref a), .val (.double ot), .second, .val (.double gl), .second, .val (.int (0 : Int32)), .val (.double (own_U us gl)), .second, .val (.double (FP.ddiv (own_U us gl) FP.dconst1)), .second, .val (.double (Native.java_lang_Math.nans.pick64 true (Native.java_lang_Math.nans.pick64 false (own_quo us ot gl) (FP.ddiv (own_U us gl) FP.dconst1)) (FP.ddiv (own_U us gl) gl))), .second] [(.double (Native.java_lang_Math.nans.pick64 true (Native.java_lang_Math.nans.pick64 false (own_quo us ot gl) (FP.ddiv (own_U us gl) FP.dconst1)) (FP.ddiv (own_U us gl) gl)))])) _
                exact own_retD X114 hx Bd.returns (Jvm.hb hby d4_172) hrL
              · show QR (own_wt li us fa he ot gl) h0 n0 _ ((T109.setVm vm112).setVm vm114).heap _
                rw [e114]
                exact ⟨congrArg (fun z => some (Value.double z)) hr.symm, N109, rfl⟩
            · skip
              have hr : own_wt li us fa he ot gl = FP.dconst1 := by
                unfold own_wt
                rw [if_neg qH]
                rw [if_neg (fun q => qB q.2)]
                rw [if_neg qZ]
                rw [if_neg qS]
                rw [show own_tail (own_L8 li us fa gl) us ot gl = _ from if_neg qO]
              have pre117 := fun (τ : State) kt => pre111 τ (by
                show Steps p.tables e below (T109.setTop (mkF m 138 #[.val (.ref a), .val (.double ot), .second, .val (.double gl), .second, .val (.int (0 : Int32)), .val (.double (own_U us gl)), .second, .val (.double (FP.ddiv (own_U us gl) FP.dconst1)), .second, .unset, .unset] [(.int (cmpValue (FP.dcmp ot FP.dconst0) .l))])) τ
                refine XS.ifYes X109.here hx rfl (pc0 := 138) (pc' := 167) rfl (Jvm.hb hby d4_138) rfl ((if0 _ _).trans (flt qO).2.2.2) (by decide) (by decide) ?_
                refine own_dconst1 X109.here hx rfl (Jvm.hb hby d4_167) ?_
                refine own_dstore X109.here hx rfl (Jvm.hb hby d4_168) rfl (l' := #[.val (.ref a), .val (.double ot), .second, .val (.double gl), .second, .val (.int (0 : Int32)), .val (.double (own_U us gl)), .second, .val (.double (FP.ddiv (own_U us gl) FP.dconst1)), .second, .val (.double FP.dconst1), .second]) rfl ?_
                refine own_dload X109.here hx rfl (Jvm.hb hby d4_170) rfl ?_
                exact kt)
              obtain ⟨fs, hrL, hrun, hended, hW, hsame⟩ := X109.leave (v := some (.double FP.dconst1)) (fun h => by rw [Bd.returns] at h; cases h)
              refine ⟨_, _, cast (congrFun hPS _) (pre117 _ ?_), hrun, hended, _, _, rfl, ?_, ⟨_, rfl⟩, hW, hsame.mono (by decide) (by decide)⟩
              · show Steps p.tables e below (T109.setTop (mkF m 172 #[.val (.ref a), .val (.double ot), .second, .val (.double gl), .second, .val (.int (0 : Int32)), .val (.double (own_U us gl)), .second, .val (.double (FP.ddiv (own_U us gl) FP.dconst1)), .second, .val (.double FP.dconst1), .second] [(.double FP.dconst1)])) _
                exact own_retD X109 hx Bd.returns (Jvm.hb hby d4_172) hrL
              · show QR (own_wt li us fa he ot gl) h0 n0 _ T109.heap _
                rw [eq109]
                exact ⟨congrArg (fun z => some (Value.double z)) hr.symm, N109, rfl⟩
theorem d2_0 : decode jdk_30_method_1_code 0 = .ok (.aload_n 0, 1) := by decide +kernel
theorem d2_1 : decode jdk_30_method_1_code 1 = .ok (.invokespecial 1, 3) := by decide +kernel
theorem d2_4 : decode jdk_30_method_1_code 4 = .ok (.return_, 1) := by decide +kernel
theorem own_pn_java_lang_Record : plainName "java/lang/Record" = true := by first | (simp [plainName, overriddenIn]; done) | decide +kernel
theorem own_ef2 (m : MethodId) (x0 : Addr) : entryFrame m #[(.ref x0)] 1 = mkF m 0 #[.val (.ref x0)] [] := by first | (simp [entryFrame, mkF, argsToLocals, Value.category]; done) | rfl
set_option maxRecDepth 65536 in
set_option maxHeartbeats 40000000 in
theorem rmR (l : Launch) (Z : State) (a0 : Array Value) (hw : ∀ d ∈ tables_1, d.before a0 Z = true) (ws : List Jvm.Cond) (a : Addr)  (h0 : Heap) (n0 : Nat) (Z0 : n0 ≤ h0.size)  :
    MetFree l (⟨"java/lang/Record", "<init>", "()V"⟩ : MethodName) (head1 (Jvm.Cond.code (⟨"java/lang/Record", "<init>", "()V"⟩ : MethodName) jdk_30_method_1_code 1 none :: ws) ({ frames := 1, cells := 0, slots := 0, locals := 12 } : Room)) (fun α U => α = #[(.ref a)] ∧ Z.Warmed39 U.vm ∧ U.heap = h0) (fun _ _ _ _ _ => True) (fun _ U ω U' => ∃ ν Λ, ω = .returned ν ∧ QU h0 n0 ν U'.heap Λ ∧ FrameEnd U ω U' Λ ({ frames := 1, cells := 0, slots := 0, locals := 12 } : Room).cells ({ frames := 1, cells := 0, slots := 0, locals := 12 } : Room).slots) := by
  refine MetFree.of_bodySF (plainFor_of_name own_pn_java_lang_Record) hisR ?_
  intro p e s m args below meth c s₁ Bd hml0 hP hK
  obtain ⟨rfl, hZ, hh⟩ := hP
  have hx := Bd.exec
  have hby := Bd.bytes
  have hml : c.maxLocals = 1 := hml0
  have hown : s.vm.findClass "java/lang/Record" = some m.cls := findClass_of_methodNamed Bd.named
  have hnm := (name_of_methodNamed Bd.named Bd.method).1
  have X0 : Stand p l e ({ frames := 1, cells := 0, slots := 0, locals := 12 } : Room) s m #[(.ref a)] below meth c s₁ [] 0 0 := Stand.of_body Bd
  have e0 : s₁.heap = h0 := by rw [← hh, Bd.state]; rfl
  have N0 := Fr.nil n0
  have KK0 : Keep h0 h0 [] := Keep.refl h0 []
  obtain ⟨PS, hPS⟩ : ∃ P : State → Prop, P = fun τ => Steps p.tables e below (s₁.setTop (entryFrame m #[(.ref a)] 1)) τ := ⟨_, rfl⟩
  have pre0 : ∀ τ, Steps p.tables e below (s₁.setTop (mkF m 0 #[.val (.ref a)] [])) τ → PS τ := by rw [hPS]; exact fun τ κ => castTop (own_ef2 m a) κ
  obtain ⟨T118, X118, e118, st118⟩ := initO X0 hx hZ hown (own_W16 hw) (own_W17 hw) (own_W18 hw) e0 (g := (mkF m 1 #[.val (.ref a)] [(.ref a)])) rfl (by rw [hml]; rfl) rfl (Jvm.hb hby d2_1) (by decide) (W := 0) (by show 2 * 0 + _ ≤ _; exact Nat.le_of_eq rfl) (by decide)
  have pre119 := fun (τ : State) kt => pre0 τ (by
    show Steps p.tables e below (s₁.setTop (mkF m 0 #[.val (.ref a)] [])) τ
    refine XS.aloadN X0.here hx rfl (Jvm.hb hby d2_0) rfl rfl ?_
    exact st118 τ kt)
  obtain ⟨fs, hrL, hrun, hended, hW, hsame⟩ := X118.leave (v := none) (fun _ => rfl)
  refine ⟨_, _, cast (congrFun hPS _) (pre119 _ ?_), hrun, hended, _, _, rfl, ?_, ⟨_, rfl⟩, hW, hsame.mono (by decide) (by decide)⟩
  · show Steps p.tables e below (T118.setTop (mkF m 4 #[.val (.ref a)] [])) _
    exact X118.returnOut hx Bd.returns (Jvm.hb hby d2_4) hrL
  · show QU h0 n0 _ T118.heap _
    rw [e118]
    exact ⟨rfl, N0, rfl⟩
def QM (Z : State) (a : Addr) (li us fa he : UInt64) (h0 : Heap) (n0 : Nat) (v : Option Value) (h : Heap) (L : List Loc) : Prop := v = none ∧ Fr n0 L ∧ Keep h0 h [a] ∧ Fld Z h a "com/example/meter/meter/demand/Measure" "limit" "D" (.double li) ∧ Fld Z h a "com/example/meter/meter/demand/Measure" "used" "D" (.double us) ∧ Fld Z h a "com/example/meter/meter/demand/Measure" "fastest" "D" (.double fa) ∧ Fld Z h a "com/example/meter/meter/demand/Measure" "held" "D" (.double he)
theorem d1_0 : decode prog_5_method_1_code 0 = .ok (.aload_n 0, 1) := by decide +kernel
theorem d1_1 : decode prog_5_method_1_code 1 = .ok (.invokespecial 1, 3) := by decide +kernel
theorem d1_4 : decode prog_5_method_1_code 4 = .ok (.aload_n 0, 1) := by decide +kernel
theorem d1_5 : decode prog_5_method_1_code 5 = .ok (.dload_n 1, 1) := by decide +kernel
theorem d1_6 : decode prog_5_method_1_code 6 = .ok (.putfield 7, 3) := by decide +kernel
theorem d1_9 : decode prog_5_method_1_code 9 = .ok (.aload_n 0, 1) := by decide +kernel
theorem d1_10 : decode prog_5_method_1_code 10 = .ok (.dload_n 3, 1) := by decide +kernel
theorem d1_11 : decode prog_5_method_1_code 11 = .ok (.putfield 13, 3) := by decide +kernel
theorem d1_14 : decode prog_5_method_1_code 14 = .ok (.aload_n 0, 1) := by decide +kernel
theorem d1_15 : decode prog_5_method_1_code 15 = .ok (.dload 5, 2) := by decide +kernel
theorem d1_17 : decode prog_5_method_1_code 17 = .ok (.putfield 16, 3) := by decide +kernel
theorem d1_20 : decode prog_5_method_1_code 20 = .ok (.aload_n 0, 1) := by decide +kernel
theorem d1_21 : decode prog_5_method_1_code 21 = .ok (.dload 7, 2) := by decide +kernel
theorem d1_23 : decode prog_5_method_1_code 23 = .ok (.putfield 19, 3) := by decide +kernel
theorem d1_26 : decode prog_5_method_1_code 26 = .ok (.return_, 1) := by decide +kernel
theorem own_ef1 (m : MethodId) (x0 : Addr) (x1 : UInt64) (x2 : UInt64) (x3 : UInt64) (x4 : UInt64) : entryFrame m #[(.ref x0), (.double x1), (.double x2), (.double x3), (.double x4)] 9 = mkF m 0 #[.val (.ref x0), .val (.double x1), .second, .val (.double x2), .second, .val (.double x3), .second, .val (.double x4), .second] [] := by first | (simp [entryFrame, mkF, argsToLocals, Value.category]; done) | rfl
set_option maxRecDepth 65536 in
set_option maxHeartbeats 40000000 in
theorem rmM (l : Launch) (Z : State) (a0 : Array Value) (hw : ∀ d ∈ tables_1, d.before a0 Z = true) (ws : List Jvm.Cond) (a : Addr) (li : UInt64) (us : UInt64) (fa : UInt64) (he : UInt64)  (h0 : Heap) (n0 : Nat) (Z0 : n0 ≤ h0.size) (E7 : Exa Z h0 a "com/example/meter/meter/demand/Measure") (F0 : Fld Z h0 a "com/example/meter/meter/demand/Measure" "limit" "D" (.double (0 : UInt64))) (F1 : Fld Z h0 a "com/example/meter/meter/demand/Measure" "used" "D" (.double (0 : UInt64))) (F2 : Fld Z h0 a "com/example/meter/meter/demand/Measure" "fastest" "D" (.double (0 : UInt64))) (F3 : Fld Z h0 a "com/example/meter/meter/demand/Measure" "held" "D" (.double (0 : UInt64))) (ga : n0 ≤ a) :
    MetFree l (⟨"com/example/meter/meter/demand/Measure", "<init>", "(DDDD)V"⟩ : MethodName) (head1 (Jvm.Cond.code (⟨"com/example/meter/meter/demand/Measure", "<init>", "(DDDD)V"⟩ : MethodName) prog_5_method_1_code 9 none :: ws) ({ frames := 2, cells := 0, slots := 0, locals := 24 } : Room)) (fun α U => α = #[(.ref a), (.double li), (.double us), (.double fa), (.double he)] ∧ Z.Warmed39 U.vm ∧ U.heap = h0) (fun _ _ _ _ _ => True) (fun _ U ω U' => ∃ ν Λ, ω = .returned ν ∧ QM Z a li us fa he h0 n0 ν U'.heap Λ ∧ FrameEnd U ω U' Λ ({ frames := 2, cells := 0, slots := 0, locals := 24 } : Room).cells ({ frames := 2, cells := 0, slots := 0, locals := 24 } : Room).slots) := by
  refine MetFree.of_bodySF (plainFor_of_name own_pn_com_example_meter_meter_demand_Measure) hisR ?_
  intro p e s m args below meth c s₁ Bd hml0 hP hK
  obtain ⟨rfl, hZ, hh⟩ := hP
  have hx := Bd.exec
  have hby := Bd.bytes
  have hml : c.maxLocals = 9 := hml0
  have hown : s.vm.findClass "com/example/meter/meter/demand/Measure" = some m.cls := findClass_of_methodNamed Bd.named
  have hnm := (name_of_methodNamed Bd.named Bd.method).1
  have X0 : Stand p l e ({ frames := 2, cells := 0, slots := 0, locals := 24 } : Room) s m #[(.ref a), (.double li), (.double us), (.double fa), (.double he)] below meth c s₁ [] 0 0 := Stand.of_body Bd
  have e0 : s₁.heap = h0 := by rw [← hh, Bd.state]; rfl
  have N0 := Fr.nil n0
  have KK0 : Keep h0 h0 [a] := Keep.refl h0 [a]
  obtain ⟨PS, hPS⟩ : ∃ P : State → Prop, P = fun τ => Steps p.tables e below (s₁.setTop (entryFrame m #[(.ref a), (.double li), (.double us), (.double fa), (.double he)] 9)) τ := ⟨_, rfl⟩
  have pre0 : ∀ τ, Steps p.tables e below (s₁.setTop (mkF m 0 #[.val (.ref a), .val (.double li), .second, .val (.double us), .second, .val (.double fa), .second, .val (.double he), .second] [])) τ → PS τ := by rw [hPS]; exact fun τ κ => castTop (own_ef1 m a li us fa he) κ
  obtain ⟨_, T120, L120, X120, ⟨rfl, Nq120, eq120⟩, st120⟩ := own_spec (y := own_mn4) (b := a) X0 hx hZ rfl hown (own_W11 hw) (own_W12 hw) (by decide) (rmR l Z a0 hw [] a h0 n0 Z0) (own_W15 hw) (own_W14 hw) 0 (by decide) (by decide) e0 (mkF m 1 #[.val (.ref a), .val (.double li), .second, .val (.double us), .second, .val (.double fa), .second, .val (.double he), .second] [(.ref a)]) rfl (by rw [hml]; rfl) [] [] rfl (lenOf own_pd___V rfl) rfl (Nat.le_refl _) (Jvm.hb hby d1_1) (by decide) (by decide)
  have N120 := Fr.app N0 Nq120
  have pre121 := fun (τ : State) kt => pre0 τ (by
    show Steps p.tables e below (s₁.setTop (mkF m 0 #[.val (.ref a), .val (.double li), .second, .val (.double us), .second, .val (.double fa), .second, .val (.double he), .second] [])) τ
    refine XS.aloadN X0.here hx rfl (Jvm.hb hby d1_0) rfl rfl ?_
    exact st120 τ kt)
  obtain ⟨T122, h122, X122, e122, W122, st122⟩ := putF X120 hx hZ hown (host := "") (Or.inl (own_W19 hw)) Via.refl eq120 F0 E7 (Or.inr ⟨(own_W20 hw), rfl, hnm⟩) (own_W6 hw) (ty := .double) (by decide) rfl rfl (g := (mkF m 6 #[.val (.ref a), .val (.double li), .second, .val (.double us), .second, .val (.double fa), .second, .val (.double he), .second] [(.double li), (.ref a)])) rfl rfl (Jvm.hb hby d1_6)
  have fw122 := Fld.same W122 F0
  have N122 := Fr.snoc X122 N120 ga
  have K122 : Keep h0 h122 [a] := KK0.wr W122 (Or.inl (by simp))
  have pre123 := fun (τ : State) kt => pre121 τ (by
    show Steps p.tables e below (T120.setTop (mkF m 4 #[.val (.ref a), .val (.double li), .second, .val (.double us), .second, .val (.double fa), .second, .val (.double he), .second] [])) τ
    refine XS.aloadN X120.here hx rfl (Jvm.hb hby d1_4) rfl rfl ?_
    refine own_dloadN X120.here hx rfl (Jvm.hb hby d1_5) rfl ?_
    exact st122 τ kt)
  have f125 := (F1.other W122 (Or.inr (slot_ne (Or.inr (own_W22 hw)) (Or.inr (own_W20 hw)) (by decide) (t := .double) (t' := .double) (by decide) (by decide))))
  have f126 := E7.wr W122
  obtain ⟨T124, h124, X124, e124, W124, st124⟩ := putF X122 hx hZ hown (host := "") (Or.inl (own_W21 hw)) Via.refl e122 f125 f126 (Or.inr ⟨(own_W22 hw), rfl, hnm⟩) (own_W6 hw) (ty := .double) (by decide) rfl rfl (g := (mkF m 11 #[.val (.ref a), .val (.double li), .second, .val (.double us), .second, .val (.double fa), .second, .val (.double he), .second] [(.double us), (.ref a)])) rfl rfl (Jvm.hb hby d1_11)
  have fw124 := Fld.same W124 f125
  have N124 := Fr.snoc X124 N122 ga
  have K124 : Keep h0 h124 [a] := K122.wr W124 (Or.inl (by simp))
  have pre127 := fun (τ : State) kt => pre123 τ (by
    show Steps p.tables e below (T122.setTop (mkF m 9 #[.val (.ref a), .val (.double li), .second, .val (.double us), .second, .val (.double fa), .second, .val (.double he), .second] [])) τ
    refine XS.aloadN X122.here hx rfl (Jvm.hb hby d1_9) rfl rfl ?_
    refine own_dloadN X122.here hx rfl (Jvm.hb hby d1_10) rfl ?_
    exact st124 τ kt)
  have f129 := (F2.other W122 (Or.inr (slot_ne (Or.inr (own_W24 hw)) (Or.inr (own_W20 hw)) (by decide) (t := .double) (t' := .double) (by decide) (by decide))))
  have f130 := (f129.other W124 (Or.inr (slot_ne (Or.inr (own_W24 hw)) (Or.inr (own_W22 hw)) (by decide) (t := .double) (t' := .double) (by decide) (by decide))))
  have f131 := f126.wr W124
  obtain ⟨T128, h128, X128, e128, W128, st128⟩ := putF X124 hx hZ hown (host := "") (Or.inl (own_W23 hw)) Via.refl e124 f130 f131 (Or.inr ⟨(own_W24 hw), rfl, hnm⟩) (own_W6 hw) (ty := .double) (by decide) rfl rfl (g := (mkF m 17 #[.val (.ref a), .val (.double li), .second, .val (.double us), .second, .val (.double fa), .second, .val (.double he), .second] [(.double fa), (.ref a)])) rfl rfl (Jvm.hb hby d1_17)
  have fw128 := Fld.same W128 f130
  have N128 := Fr.snoc X128 N124 ga
  have K128 : Keep h0 h128 [a] := K124.wr W128 (Or.inl (by simp))
  have pre132 := fun (τ : State) kt => pre127 τ (by
    show Steps p.tables e below (T124.setTop (mkF m 14 #[.val (.ref a), .val (.double li), .second, .val (.double us), .second, .val (.double fa), .second, .val (.double he), .second] [])) τ
    refine XS.aloadN X124.here hx rfl (Jvm.hb hby d1_14) rfl rfl ?_
    refine own_dload X124.here hx rfl (Jvm.hb hby d1_15) rfl ?_
    exact st128 τ kt)
  have f134 := (F3.other W122 (Or.inr (slot_ne (Or.inr (own_W26 hw)) (Or.inr (own_W20 hw)) (by decide) (t := .double) (t' := .double) (by decide) (by decide))))
  have f135 := (f134.other W124 (Or.inr (slot_ne (Or.inr (own_W26 hw)) (Or.inr (own_W22 hw)) (by decide) (t := .double) (t' := .double) (by decide) (by decide))))
  have f136 := (f135.other W128 (Or.inr (slot_ne (Or.inr (own_W26 hw)) (Or.inr (own_W24 hw)) (by decide) (t := .double) (t' := .double) (by decide) (by decide))))
  have f137 := f131.wr W128
  obtain ⟨T133, h133, X133, e133, W133, st133⟩ := putF X128 hx hZ hown (host := "") (Or.inl (own_W25 hw)) Via.refl e128 f136 f137 (Or.inr ⟨(own_W26 hw), rfl, hnm⟩) (own_W6 hw) (ty := .double) (by decide) rfl rfl (g := (mkF m 23 #[.val (.ref a), .val (.double li), .second, .val (.double us), .second, .val (.double fa), .second, .val (.double he), .second] [(.double he), (.ref a)])) rfl rfl (Jvm.hb hby d1_23)
  have fw133 := Fld.same W133 f136
  have N133 := Fr.snoc X133 N128 ga
  have K133 : Keep h0 h133 [a] := K128.wr W133 (Or.inl (by simp))
  have pre138 := fun (τ : State) kt => pre132 τ (by
    show Steps p.tables e below (T128.setTop (mkF m 20 #[.val (.ref a), .val (.double li), .second, .val (.double us), .second, .val (.double fa), .second, .val (.double he), .second] [])) τ
    refine XS.aloadN X128.here hx rfl (Jvm.hb hby d1_20) rfl rfl ?_
    refine own_dload X128.here hx rfl (Jvm.hb hby d1_21) rfl ?_
    exact st133 τ kt)
  have f139 := (fw122.other W124 (Or.inr (slot_ne (Or.inr (own_W20 hw)) (Or.inr (own_W22 hw)) (by decide) (t := .double) (t' := .double) (by decide) (by decide))))
  have f140 := (f139.other W128 (Or.inr (slot_ne (Or.inr (own_W20 hw)) (Or.inr (own_W24 hw)) (by decide) (t := .double) (t' := .double) (by decide) (by decide))))
  have f141 := (f140.other W133 (Or.inr (slot_ne (Or.inr (own_W20 hw)) (Or.inr (own_W26 hw)) (by decide) (t := .double) (t' := .double) (by decide) (by decide))))
  have f142 := (fw124.other W128 (Or.inr (slot_ne (Or.inr (own_W22 hw)) (Or.inr (own_W24 hw)) (by decide) (t := .double) (t' := .double) (by decide) (by decide))))
  have f143 := (f142.other W133 (Or.inr (slot_ne (Or.inr (own_W22 hw)) (Or.inr (own_W26 hw)) (by decide) (t := .double) (t' := .double) (by decide) (by decide))))
  have f144 := (fw128.other W133 (Or.inr (slot_ne (Or.inr (own_W24 hw)) (Or.inr (own_W26 hw)) (by decide) (t := .double) (t' := .double) (by decide) (by decide))))
  obtain ⟨fs, hrL, hrun, hended, hW, hsame⟩ := X133.leave (v := none) (fun _ => rfl)
  refine ⟨_, _, cast (congrFun hPS _) (pre138 _ ?_), hrun, hended, _, _, rfl, ?_, ⟨_, rfl⟩, hW, hsame.mono (by decide) (by decide)⟩
  · show Steps p.tables e below (T133.setTop (mkF m 26 #[.val (.ref a), .val (.double li), .second, .val (.double us), .second, .val (.double fa), .second, .val (.double he), .second] [])) _
    exact X133.returnOut hx Bd.returns (Jvm.hb hby d1_26) hrL
  · show QM Z a li us fa he h0 n0 _ T133.heap _
    rw [e133]
    exact ⟨rfl, N133, K133, f141, f143, f144, fw133⟩
theorem d11_0 : decode method_3_code 0 = .ok (.lload_n 1, 1) := by decide +kernel
theorem d11_1 : decode method_3_code 1 = .ok (.lload 7, 2) := by decide +kernel
theorem d11_3 : decode method_3_code 3 = .ok (.lmul, 1) := by decide +kernel
theorem d11_4 : decode method_3_code 4 = .ok (.l2d, 1) := by decide +kernel
theorem d11_5 : decode method_3_code 5 = .ok (.lload 9, 2) := by decide +kernel
theorem d11_7 : decode method_3_code 7 = .ok (.l2d, 1) := by decide +kernel
theorem d11_8 : decode method_3_code 8 = .ok (.ddiv, 1) := by decide +kernel
theorem d11_9 : decode method_3_code 9 = .ok (.dstore 11, 2) := by decide +kernel
theorem d11_11 : decode method_3_code 11 = .ok (.lload_n 1, 1) := by decide +kernel
theorem d11_12 : decode method_3_code 12 = .ok (.l2d, 1) := by decide +kernel
theorem d11_13 : decode method_3_code 13 = .ok (.lload_n 3, 1) := by decide +kernel
theorem d11_14 : decode method_3_code 14 = .ok (.l2d, 1) := by decide +kernel
theorem d11_15 : decode method_3_code 15 = .ok (.ddiv, 1) := by decide +kernel
theorem d11_16 : decode method_3_code 16 = .ok (.dstore 13, 2) := by decide +kernel
theorem d11_18 : decode method_3_code 18 = .ok (.iload_n 0, 1) := by decide +kernel
theorem d11_19 : decode method_3_code 19 = .ok (.ifCond .eq 52, 3) := by decide +kernel
theorem d11_22 : decode method_3_code 22 = .ok (.lload_n 1, 1) := by decide +kernel
theorem d11_23 : decode method_3_code 23 = .ok (.lload 7, 2) := by decide +kernel
theorem d11_25 : decode method_3_code 25 = .ok (.lmul, 1) := by decide +kernel
theorem d11_26 : decode method_3_code 26 = .ok (.lload 5, 2) := by decide +kernel
theorem d11_28 : decode method_3_code 28 = .ok (.lload 9, 2) := by decide +kernel
theorem d11_30 : decode method_3_code 30 = .ok (.lmul, 1) := by decide +kernel
theorem d11_31 : decode method_3_code 31 = .ok (.lcmp, 1) := by decide +kernel
theorem d11_32 : decode method_3_code 32 = .ok (.ifCond .gt 21, 3) := by decide +kernel
theorem d11_35 : decode method_3_code 35 = .ok (.lload 7, 2) := by decide +kernel
theorem d11_37 : decode method_3_code 37 = .ok (.lload_n 3, 1) := by decide +kernel
theorem d11_38 : decode method_3_code 38 = .ok (.lmul, 1) := by decide +kernel
theorem d11_39 : decode method_3_code 39 = .ok (.lload 9, 2) := by decide +kernel
theorem d11_41 : decode method_3_code 41 = .ok (.lcmp, 1) := by decide +kernel
theorem d11_42 : decode method_3_code 42 = .ok (.ifCond .lt 8, 3) := by decide +kernel
theorem d11_45 : decode method_3_code 45 = .ok (.dload 11, 2) := by decide +kernel
theorem d11_47 : decode method_3_code 47 = .ok (.goto 5, 3) := by decide +kernel
theorem d11_50 : decode method_3_code 50 = .ok (.dload 13, 2) := by decide +kernel
theorem d11_52 : decode method_3_code 52 = .ok (.dreturn, 1) := by decide +kernel
theorem d11_53 : decode method_3_code 53 = .ok (.lload 5, 2) := by decide +kernel
theorem d11_55 : decode method_3_code 55 = .ok (.lload_n 3, 1) := by decide +kernel
theorem d11_56 : decode method_3_code 56 = .ok (.lmul, 1) := by decide +kernel
theorem d11_57 : decode method_3_code 57 = .ok (.lload_n 1, 1) := by decide +kernel
theorem d11_58 : decode method_3_code 58 = .ok (.lcmp, 1) := by decide +kernel
theorem d11_59 : decode method_3_code 59 = .ok (.ifCond .lt 9, 3) := by decide +kernel
theorem d11_62 : decode method_3_code 62 = .ok (.lload 5, 2) := by decide +kernel
theorem d11_64 : decode method_3_code 64 = .ok (.l2d, 1) := by decide +kernel
theorem d11_65 : decode method_3_code 65 = .ok (.goto 5, 3) := by decide +kernel
theorem d11_68 : decode method_3_code 68 = .ok (.dload 13, 2) := by decide +kernel
theorem d11_70 : decode method_3_code 70 = .ok (.dreturn, 1) := by decide +kernel
theorem d11_71 : decode method_3_code 71 = .ok (.lload 7, 2) := by decide +kernel
theorem d11_73 : decode method_3_code 73 = .ok (.lload 9, 2) := by decide +kernel
theorem d11_75 : decode method_3_code 75 = .ok (.lcmp, 1) := by decide +kernel
theorem d11_76 : decode method_3_code 76 = .ok (.ifCond .gt 21, 3) := by decide +kernel
theorem d11_79 : decode method_3_code 79 = .ok (.lload 7, 2) := by decide +kernel
theorem d11_81 : decode method_3_code 81 = .ok (.lload_n 3, 1) := by decide +kernel
theorem d11_82 : decode method_3_code 82 = .ok (.lmul, 1) := by decide +kernel
theorem d11_83 : decode method_3_code 83 = .ok (.lload 9, 2) := by decide +kernel
theorem d11_85 : decode method_3_code 85 = .ok (.lcmp, 1) := by decide +kernel
theorem d11_86 : decode method_3_code 86 = .ok (.ifCond .lt 8, 3) := by decide +kernel
theorem d11_89 : decode method_3_code 89 = .ok (.dload 11, 2) := by decide +kernel
theorem d11_91 : decode method_3_code 91 = .ok (.goto 5, 3) := by decide +kernel
theorem d11_94 : decode method_3_code 94 = .ok (.dload 13, 2) := by decide +kernel
theorem d11_96 : decode method_3_code 96 = .ok (.dreturn, 1) := by decide +kernel
theorem d11_97 : decode method_3_code 97 = .ok (.lload_n 1, 1) := by decide +kernel
theorem d11_98 : decode method_3_code 98 = .ok (.l2d, 1) := by decide +kernel
theorem d11_99 : decode method_3_code 99 = .ok (.dreturn, 1) := by decide +kernel
theorem own_pn_com_example_meter_meter_allocation_FlowShareWeightPinLaw : plainName "com/example/meter/meter/allocation/FlowShareWeightPinLaw" = true := by first | (simp [plainName, overriddenIn]; done) | decide +kernel
theorem own_ef11 (m : MethodId) (x0 : Int32) (x1 : Int64) (x2 : Int64) (x3 : Int64) (x4 : Int64) (x5 : Int64) : entryFrame m #[(.int x0), (.long x1), (.long x2), (.long x3), (.long x4), (.long x5)] 15 = mkF m 0 #[.val (.int x0), .val (.long x1), .second, .val (.long x2), .second, .val (.long x3), .second, .val (.long x4), .second, .val (.long x5), .second, .unset, .unset, .unset, .unset] [] := by first | (simp [entryFrame, mkF, argsToLocals, Value.category]; done) | rfl
set_option maxRecDepth 65536 in
set_option maxHeartbeats 40000000 in
theorem rmSh (l : Launch) (Z : State) (a0 : Array Value) (hw : ∀ d ∈ tables_1, d.before a0 Z = true) (ws : List Jvm.Cond) (ct : Int32) (vD : Int64) (vG : Int64) (vm : Int64) (vc : Int64) (vp : Int64)  (h0 : Heap) (n0 : Nat) (Z0 : n0 ≤ h0.size) (k1 : Jvm.Free.Fl.NoNaN64 (FP.ddiv (FP.l2d (vD * vc)) (FP.l2d vp))) (k2 : Jvm.Free.Fl.NoNaN64 (FP.ddiv (FP.l2d vD) (FP.l2d vG))) :
    MetFree l (⟨"com/example/meter/meter/allocation/FlowShareWeightPinLaw", "share", "(ZJJJJJ)D"⟩ : MethodName) (head1 (Jvm.Cond.code (⟨"com/example/meter/meter/allocation/FlowShareWeightPinLaw", "share", "(ZJJJJJ)D"⟩ : MethodName) method_3_code 15 (some .double) :: ws) ({ frames := 0, cells := 0, slots := 0, locals := 0 } : Room)) (fun α U => α = #[(.int ct), (.long vD), (.long vG), (.long vm), (.long vc), (.long vp)] ∧ Z.Warmed39 U.vm ∧ U.heap = h0) (fun _ _ _ _ _ => True) (fun _ U ω U' => ∃ ν Λ, ω = .returned ν ∧ QR (own_share ct vD vG vm vc vp) h0 n0 ν U'.heap Λ ∧ FrameEnd U ω U' Λ ({ frames := 0, cells := 0, slots := 0, locals := 0 } : Room).cells ({ frames := 0, cells := 0, slots := 0, locals := 0 } : Room).slots) := by
  refine MetFree.of_bodySF (plainFor_of_name own_pn_com_example_meter_meter_allocation_FlowShareWeightPinLaw) hisR ?_
  intro p e s m args below meth c s₁ Bd hml0 hP hK
  obtain ⟨rfl, hZ, hh⟩ := hP
  have hx := Bd.exec
  have hby := Bd.bytes
  have hml : c.maxLocals = 15 := hml0
  have hown : s.vm.findClass "com/example/meter/meter/allocation/FlowShareWeightPinLaw" = some m.cls := findClass_of_methodNamed Bd.named
  have hnm := (name_of_methodNamed Bd.named Bd.method).1
  have X0 : Stand p l e ({ frames := 0, cells := 0, slots := 0, locals := 0 } : Room) s m #[(.int ct), (.long vD), (.long vG), (.long vm), (.long vc), (.long vp)] below meth c s₁ [] 0 0 := Stand.of_body Bd
  have e0 : s₁.heap = h0 := by rw [← hh, Bd.state]; rfl
  have N0 := Fr.nil n0
  have KK0 : Keep h0 h0 [] := Keep.refl h0 []
  obtain ⟨PS, hPS⟩ : ∃ P : State → Prop, P = fun τ => Steps p.tables e below (s₁.setTop (entryFrame m #[(.int ct), (.long vD), (.long vG), (.long vm), (.long vc), (.long vp)] 15)) τ := ⟨_, rfl⟩
  have pre0 : ∀ τ, Steps p.tables e below (s₁.setTop (mkF m 0 #[.val (.int ct), .val (.long vD), .second, .val (.long vG), .second, .val (.long vm), .second, .val (.long vc), .second, .val (.long vp), .second, .unset, .unset, .unset, .unset] [])) τ → PS τ := by rw [hPS]; exact fun τ κ => castTop (own_ef11 m ct vD vG vm vc vp) κ
  have pre145 := fun (τ : State) kt => pre0 τ (by
    show Steps p.tables e below (s₁.setTop (mkF m 0 #[.val (.int ct), .val (.long vD), .second, .val (.long vG), .second, .val (.long vm), .second, .val (.long vc), .second, .val (.long vp), .second, .unset, .unset, .unset, .unset] [])) τ
    refine XT.lloadN X0.here hx rfl (Jvm.hb hby d11_0) rfl ?_
    refine XT.lload X0.here hx rfl (Jvm.hb hby d11_1) rfl ?_
    refine XT.lmul X0.here hx rfl (Jvm.hb hby d11_3) rfl ?_
    refine own_l2d X0.here hx rfl (Jvm.hb hby d11_4) rfl ?_
    refine XT.lload X0.here hx rfl (Jvm.hb hby d11_5) rfl ?_
    refine own_l2d X0.here hx rfl (Jvm.hb hby d11_7) rfl ?_
    refine own_ddiv X0.here hx rfl (Jvm.hb hby d11_8) rfl (k1) ?_
    refine own_dstore X0.here hx rfl (Jvm.hb hby d11_9) rfl (l' := #[.val (.int ct), .val (.long vD), .second, .val (.long vG), .second, .val (.long vm), .second, .val (.long vc), .second, .val (.long vp), .second, .val (.double (FP.ddiv (FP.l2d (vD * vc)) (FP.l2d vp))), .second, .unset, .unset]) rfl ?_
    refine XT.lloadN X0.here hx rfl (Jvm.hb hby d11_11) rfl ?_
    refine own_l2d X0.here hx rfl (Jvm.hb hby d11_12) rfl ?_
    refine XT.lloadN X0.here hx rfl (Jvm.hb hby d11_13) rfl ?_
    refine own_l2d X0.here hx rfl (Jvm.hb hby d11_14) rfl ?_
    refine own_ddiv X0.here hx rfl (Jvm.hb hby d11_15) rfl (k2) ?_
    refine own_dstore X0.here hx rfl (Jvm.hb hby d11_16) rfl (l' := #[.val (.int ct), .val (.long vD), .second, .val (.long vG), .second, .val (.long vm), .second, .val (.long vc), .second, .val (.long vp), .second, .val (.double (FP.ddiv (FP.l2d (vD * vc)) (FP.l2d vp))), .second, .val (.double (FP.ddiv (FP.l2d vD) (FP.l2d vG))), .second]) rfl ?_
    refine XS.iloadN X0.here hx rfl (Jvm.hb hby d11_18) rfl ?_
    exact kt)
  by_cases q1 : ct = (0 : Int32)
  · skip
    have pre146 := fun (τ : State) kt => pre145 τ (by
      show Steps p.tables e below (s₁.setTop (mkF m 19 #[.val (.int ct), .val (.long vD), .second, .val (.long vG), .second, .val (.long vm), .second, .val (.long vc), .second, .val (.long vp), .second, .val (.double (FP.ddiv (FP.l2d (vD * vc)) (FP.l2d vp))), .second, .val (.double (FP.ddiv (FP.l2d vD) (FP.l2d vG))), .second] [(.int ct)])) τ
      refine XS.ifYes X0.here hx rfl (pc0 := 19) (pc' := 71) rfl (Jvm.hb hby d11_19) rfl ((if0 _ _).trans (teq q1).1) (by decide) (by decide) ?_
      refine XT.lload X0.here hx rfl (Jvm.hb hby d11_71) rfl ?_
      refine XT.lload X0.here hx rfl (Jvm.hb hby d11_73) rfl ?_
      refine XT.lcmp X0.here hx rfl (Jvm.hb hby d11_75) rfl ?_
      exact kt)
    by_cases q2 : (0 : Int32) < (XT.cmpL vc vp)
    · skip
      have hr : own_share ct vD vG vm vc vp = (FP.l2d vD) := by unfold own_share; rw [if_pos q1, if_pos q2]
      have pre147 := fun (τ : State) kt => pre146 τ (by
        show Steps p.tables e below (s₁.setTop (mkF m 76 #[.val (.int ct), .val (.long vD), .second, .val (.long vG), .second, .val (.long vm), .second, .val (.long vc), .second, .val (.long vp), .second, .val (.double (FP.ddiv (FP.l2d (vD * vc)) (FP.l2d vp))), .second, .val (.double (FP.ddiv (FP.l2d vD) (FP.l2d vG))), .second] [(.int (XT.cmpL vc vp))])) τ
        refine XS.ifYes X0.here hx rfl (pc0 := 76) (pc' := 97) rfl (Jvm.hb hby d11_76) rfl ((if0 _ _).trans (tlt q2).2.2.1) (by decide) (by decide) ?_
        refine XT.lloadN X0.here hx rfl (Jvm.hb hby d11_97) rfl ?_
        refine own_l2d X0.here hx rfl (Jvm.hb hby d11_98) rfl ?_
        exact kt)
      obtain ⟨fs, hrL, hrun, hended, hW, hsame⟩ := X0.leave (v := some (.double (FP.l2d vD))) (fun h => by rw [Bd.returns] at h; cases h)
      refine ⟨_, _, cast (congrFun hPS _) (pre147 _ ?_), hrun, hended, _, _, rfl, ?_, ⟨_, rfl⟩, hW, hsame.mono (by decide) (by decide)⟩
      · show Steps p.tables e below (s₁.setTop (mkF m 99 #[.val (.int ct), .val (.long vD), .second, .val (.long vG), .second, .val (.long vm), .second, .val (.long vc), .second, .val (.long vp), .second, .val (.double (FP.ddiv (FP.l2d (vD * vc)) (FP.l2d vp))), .second, .val (.double (FP.ddiv (FP.l2d vD) (FP.l2d vG))), .second] [(.double (FP.l2d vD))])) _
        exact own_retD X0 hx Bd.returns (Jvm.hb hby d11_99) hrL
      · show QR (own_share ct vD vG vm vc vp) h0 n0 _ s₁.heap _
        rw [e0]
        exact ⟨congrArg (fun z => some (Value.double z)) hr.symm, N0, rfl⟩
    · skip
      have pre148 := fun (τ : State) kt => pre146 τ (by
        show Steps p.tables e below (s₁.setTop (mkF m 76 #[.val (.int ct), .val (.long vD), .second, .val (.long vG), .second, .val (.long vm), .second, .val (.long vc), .second, .val (.long vp), .second, .val (.double (FP.ddiv (FP.l2d (vD * vc)) (FP.l2d vp))), .second, .val (.double (FP.ddiv (FP.l2d vD) (FP.l2d vG))), .second] [(.int (XT.cmpL vc vp))])) τ
        refine XS.ifNo X0.here hx rfl (Jvm.hb hby d11_76) rfl ((if0 _ _).trans (flt q2).2.2.1) ?_
        refine XT.lload X0.here hx rfl (Jvm.hb hby d11_79) rfl ?_
        refine XT.lloadN X0.here hx rfl (Jvm.hb hby d11_81) rfl ?_
        refine XT.lmul X0.here hx rfl (Jvm.hb hby d11_82) rfl ?_
        refine XT.lload X0.here hx rfl (Jvm.hb hby d11_83) rfl ?_
        refine XT.lcmp X0.here hx rfl (Jvm.hb hby d11_85) rfl ?_
        exact kt)
      by_cases q3 : (XT.cmpL (vc * vG) vp) < (0 : Int32)
      · skip
        have hr : own_share ct vD vG vm vc vp = (FP.ddiv (FP.l2d vD) (FP.l2d vG)) := by unfold own_share; rw [if_pos q1, if_neg q2, if_pos q3]
        have pre149 := fun (τ : State) kt => pre148 τ (by
          show Steps p.tables e below (s₁.setTop (mkF m 86 #[.val (.int ct), .val (.long vD), .second, .val (.long vG), .second, .val (.long vm), .second, .val (.long vc), .second, .val (.long vp), .second, .val (.double (FP.ddiv (FP.l2d (vD * vc)) (FP.l2d vp))), .second, .val (.double (FP.ddiv (FP.l2d vD) (FP.l2d vG))), .second] [(.int (XT.cmpL (vc * vG) vp))])) τ
          refine XS.ifYes X0.here hx rfl (pc0 := 86) (pc' := 94) rfl (Jvm.hb hby d11_86) rfl ((if0 _ _).trans (tlt q3).1) (by decide) (by decide) ?_
          refine own_dload X0.here hx rfl (Jvm.hb hby d11_94) rfl ?_
          exact kt)
        obtain ⟨fs, hrL, hrun, hended, hW, hsame⟩ := X0.leave (v := some (.double (FP.ddiv (FP.l2d vD) (FP.l2d vG)))) (fun h => by rw [Bd.returns] at h; cases h)
        refine ⟨_, _, cast (congrFun hPS _) (pre149 _ ?_), hrun, hended, _, _, rfl, ?_, ⟨_, rfl⟩, hW, hsame.mono (by decide) (by decide)⟩
        · show Steps p.tables e below (s₁.setTop (mkF m 96 #[.val (.int ct), .val (.long vD), .second, .val (.long vG), .second, .val (.long vm), .second, .val (.long vc), .second, .val (.long vp), .second, .val (.double (FP.ddiv (FP.l2d (vD * vc)) (FP.l2d vp))), .second, .val (.double (FP.ddiv (FP.l2d vD) (FP.l2d vG))), .second] [(.double (FP.ddiv (FP.l2d vD) (FP.l2d vG)))])) _
          exact own_retD X0 hx Bd.returns (Jvm.hb hby d11_96) hrL
        · show QR (own_share ct vD vG vm vc vp) h0 n0 _ s₁.heap _
          rw [e0]
          exact ⟨congrArg (fun z => some (Value.double z)) hr.symm, N0, rfl⟩
      · skip
        have hr : own_share ct vD vG vm vc vp = (FP.ddiv (FP.l2d (vD * vc)) (FP.l2d vp)) := by unfold own_share; rw [if_pos q1, if_neg q2, if_neg q3]
        have pre150 := fun (τ : State) kt => pre148 τ (by
          show Steps p.tables e below (s₁.setTop (mkF m 86 #[.val (.int ct), .val (.long vD), .second, .val (.long vG), .second, .val (.long vm), .second, .val (.long vc), .second, .val (.long vp), .second, .val (.double (FP.ddiv (FP.l2d (vD * vc)) (FP.l2d vp))), .second, .val (.double (FP.ddiv (FP.l2d vD) (FP.l2d vG))), .second] [(.int (XT.cmpL (vc * vG) vp))])) τ
          refine XS.ifNo X0.here hx rfl (Jvm.hb hby d11_86) rfl ((if0 _ _).trans (flt q3).1) ?_
          refine own_dload X0.here hx rfl (Jvm.hb hby d11_89) rfl ?_
          refine XS.goto X0.here hx rfl (pc0 := 91) (pc' := 96) rfl (Jvm.hb hby d11_91) (by decide) (by decide) ?_
          exact kt)
        obtain ⟨fs, hrL, hrun, hended, hW, hsame⟩ := X0.leave (v := some (.double (FP.ddiv (FP.l2d (vD * vc)) (FP.l2d vp)))) (fun h => by rw [Bd.returns] at h; cases h)
        refine ⟨_, _, cast (congrFun hPS _) (pre150 _ ?_), hrun, hended, _, _, rfl, ?_, ⟨_, rfl⟩, hW, hsame.mono (by decide) (by decide)⟩
        · show Steps p.tables e below (s₁.setTop (mkF m 96 #[.val (.int ct), .val (.long vD), .second, .val (.long vG), .second, .val (.long vm), .second, .val (.long vc), .second, .val (.long vp), .second, .val (.double (FP.ddiv (FP.l2d (vD * vc)) (FP.l2d vp))), .second, .val (.double (FP.ddiv (FP.l2d vD) (FP.l2d vG))), .second] [(.double (FP.ddiv (FP.l2d (vD * vc)) (FP.l2d vp)))])) _
          exact own_retD X0 hx Bd.returns (Jvm.hb hby d11_96) hrL
        · show QR (own_share ct vD vG vm vc vp) h0 n0 _ s₁.heap _
          rw [e0]
          exact ⟨congrArg (fun z => some (Value.double z)) hr.symm, N0, rfl⟩
  · skip
    have pre151 := fun (τ : State) kt => pre145 τ (by
      show Steps p.tables e below (s₁.setTop (mkF m 19 #[.val (.int ct), .val (.long vD), .second, .val (.long vG), .second, .val (.long vm), .second, .val (.long vc), .second, .val (.long vp), .second, .val (.double (FP.ddiv (FP.l2d (vD * vc)) (FP.l2d vp))), .second, .val (.double (FP.ddiv (FP.l2d vD) (FP.l2d vG))), .second] [(.int ct)])) τ
      refine XS.ifNo X0.here hx rfl (Jvm.hb hby d11_19) rfl ((if0 _ _).trans (feq q1).1) ?_
      refine XT.lloadN X0.here hx rfl (Jvm.hb hby d11_22) rfl ?_
      refine XT.lload X0.here hx rfl (Jvm.hb hby d11_23) rfl ?_
      refine XT.lmul X0.here hx rfl (Jvm.hb hby d11_25) rfl ?_
      refine XT.lload X0.here hx rfl (Jvm.hb hby d11_26) rfl ?_
      refine XT.lload X0.here hx rfl (Jvm.hb hby d11_28) rfl ?_
      refine XT.lmul X0.here hx rfl (Jvm.hb hby d11_30) rfl ?_
      refine XT.lcmp X0.here hx rfl (Jvm.hb hby d11_31) rfl ?_
      exact kt)
    by_cases q2 : (0 : Int32) < (XT.cmpL (vD * vc) (vm * vp))
    · skip
      have pre152 := fun (τ : State) kt => pre151 τ (by
        show Steps p.tables e below (s₁.setTop (mkF m 32 #[.val (.int ct), .val (.long vD), .second, .val (.long vG), .second, .val (.long vm), .second, .val (.long vc), .second, .val (.long vp), .second, .val (.double (FP.ddiv (FP.l2d (vD * vc)) (FP.l2d vp))), .second, .val (.double (FP.ddiv (FP.l2d vD) (FP.l2d vG))), .second] [(.int (XT.cmpL (vD * vc) (vm * vp)))])) τ
        refine XS.ifYes X0.here hx rfl (pc0 := 32) (pc' := 53) rfl (Jvm.hb hby d11_32) rfl ((if0 _ _).trans (tlt q2).2.2.1) (by decide) (by decide) ?_
        refine XT.lload X0.here hx rfl (Jvm.hb hby d11_53) rfl ?_
        refine XT.lloadN X0.here hx rfl (Jvm.hb hby d11_55) rfl ?_
        refine XT.lmul X0.here hx rfl (Jvm.hb hby d11_56) rfl ?_
        refine XT.lloadN X0.here hx rfl (Jvm.hb hby d11_57) rfl ?_
        refine XT.lcmp X0.here hx rfl (Jvm.hb hby d11_58) rfl ?_
        exact kt)
      by_cases q3 : (XT.cmpL (vm * vG) vD) < (0 : Int32)
      · skip
        have hr : own_share ct vD vG vm vc vp = (FP.ddiv (FP.l2d vD) (FP.l2d vG)) := by unfold own_share; rw [if_neg q1, if_pos q2, if_pos q3]
        have pre153 := fun (τ : State) kt => pre152 τ (by
          show Steps p.tables e below (s₁.setTop (mkF m 59 #[.val (.int ct), .val (.long vD), .second, .val (.long vG), .second, .val (.long vm), .second, .val (.long vc), .second, .val (.long vp), .second, .val (.double (FP.ddiv (FP.l2d (vD * vc)) (FP.l2d vp))), .second, .val (.double (FP.ddiv (FP.l2d vD) (FP.l2d vG))), .second] [(.int (XT.cmpL (vm * vG) vD))])) τ
          refine XS.ifYes X0.here hx rfl (pc0 := 59) (pc' := 68) rfl (Jvm.hb hby d11_59) rfl ((if0 _ _).trans (tlt q3).1) (by decide) (by decide) ?_
          refine own_dload X0.here hx rfl (Jvm.hb hby d11_68) rfl ?_
          exact kt)
        obtain ⟨fs, hrL, hrun, hended, hW, hsame⟩ := X0.leave (v := some (.double (FP.ddiv (FP.l2d vD) (FP.l2d vG)))) (fun h => by rw [Bd.returns] at h; cases h)
        refine ⟨_, _, cast (congrFun hPS _) (pre153 _ ?_), hrun, hended, _, _, rfl, ?_, ⟨_, rfl⟩, hW, hsame.mono (by decide) (by decide)⟩
        · show Steps p.tables e below (s₁.setTop (mkF m 70 #[.val (.int ct), .val (.long vD), .second, .val (.long vG), .second, .val (.long vm), .second, .val (.long vc), .second, .val (.long vp), .second, .val (.double (FP.ddiv (FP.l2d (vD * vc)) (FP.l2d vp))), .second, .val (.double (FP.ddiv (FP.l2d vD) (FP.l2d vG))), .second] [(.double (FP.ddiv (FP.l2d vD) (FP.l2d vG)))])) _
          exact own_retD X0 hx Bd.returns (Jvm.hb hby d11_70) hrL
        · show QR (own_share ct vD vG vm vc vp) h0 n0 _ s₁.heap _
          rw [e0]
          exact ⟨congrArg (fun z => some (Value.double z)) hr.symm, N0, rfl⟩
      · skip
        have hr : own_share ct vD vG vm vc vp = (FP.l2d vm) := by unfold own_share; rw [if_neg q1, if_pos q2, if_neg q3]
        have pre154 := fun (τ : State) kt => pre152 τ (by
          show Steps p.tables e below (s₁.setTop (mkF m 59 #[.val (.int ct), .val (.long vD), .second, .val (.long vG), .second, .val (.long vm), .second, .val (.long vc), .second, .val (.long vp), .second, .val (.double (FP.ddiv (FP.l2d (vD * vc)) (FP.l2d vp))), .second, .val (.double (FP.ddiv (FP.l2d vD) (FP.l2d vG))), .second] [(.int (XT.cmpL (vm * vG) vD))])) τ
          refine XS.ifNo X0.here hx rfl (Jvm.hb hby d11_59) rfl ((if0 _ _).trans (flt q3).1) ?_
          refine XT.lload X0.here hx rfl (Jvm.hb hby d11_62) rfl ?_
          refine own_l2d X0.here hx rfl (Jvm.hb hby d11_64) rfl ?_
          refine XS.goto X0.here hx rfl (pc0 := 65) (pc' := 70) rfl (Jvm.hb hby d11_65) (by decide) (by decide) ?_
          exact kt)
        obtain ⟨fs, hrL, hrun, hended, hW, hsame⟩ := X0.leave (v := some (.double (FP.l2d vm))) (fun h => by rw [Bd.returns] at h; cases h)
        refine ⟨_, _, cast (congrFun hPS _) (pre154 _ ?_), hrun, hended, _, _, rfl, ?_, ⟨_, rfl⟩, hW, hsame.mono (by decide) (by decide)⟩
        · show Steps p.tables e below (s₁.setTop (mkF m 70 #[.val (.int ct), .val (.long vD), .second, .val (.long vG), .second, .val (.long vm), .second, .val (.long vc), .second, .val (.long vp), .second, .val (.double (FP.ddiv (FP.l2d (vD * vc)) (FP.l2d vp))), .second, .val (.double (FP.ddiv (FP.l2d vD) (FP.l2d vG))), .second] [(.double (FP.l2d vm))])) _
          exact own_retD X0 hx Bd.returns (Jvm.hb hby d11_70) hrL
        · show QR (own_share ct vD vG vm vc vp) h0 n0 _ s₁.heap _
          rw [e0]
          exact ⟨congrArg (fun z => some (Value.double z)) hr.symm, N0, rfl⟩
    · skip
      have pre155 := fun (τ : State) kt => pre151 τ (by
        show Steps p.tables e below (s₁.setTop (mkF m 32 #[.val (.int ct), .val (.long vD), .second, .val (.long vG), .second, .val (.long vm), .second, .val (.long vc), .second, .val (.long vp), .second, .val (.double (FP.ddiv (FP.l2d (vD * vc)) (FP.l2d vp))), .second, .val (.double (FP.ddiv (FP.l2d vD) (FP.l2d vG))), .second] [(.int (XT.cmpL (vD * vc) (vm * vp)))])) τ
        refine XS.ifNo X0.here hx rfl (Jvm.hb hby d11_32) rfl ((if0 _ _).trans (flt q2).2.2.1) ?_
        refine XT.lload X0.here hx rfl (Jvm.hb hby d11_35) rfl ?_
        refine XT.lloadN X0.here hx rfl (Jvm.hb hby d11_37) rfl ?_
        refine XT.lmul X0.here hx rfl (Jvm.hb hby d11_38) rfl ?_
        refine XT.lload X0.here hx rfl (Jvm.hb hby d11_39) rfl ?_
        refine XT.lcmp X0.here hx rfl (Jvm.hb hby d11_41) rfl ?_
        exact kt)
      by_cases q3 : (XT.cmpL (vc * vG) vp) < (0 : Int32)
      · skip
        have hr : own_share ct vD vG vm vc vp = (FP.ddiv (FP.l2d vD) (FP.l2d vG)) := by unfold own_share; rw [if_neg q1, if_neg q2, if_pos q3]
        have pre156 := fun (τ : State) kt => pre155 τ (by
          show Steps p.tables e below (s₁.setTop (mkF m 42 #[.val (.int ct), .val (.long vD), .second, .val (.long vG), .second, .val (.long vm), .second, .val (.long vc), .second, .val (.long vp), .second, .val (.double (FP.ddiv (FP.l2d (vD * vc)) (FP.l2d vp))), .second, .val (.double (FP.ddiv (FP.l2d vD) (FP.l2d vG))), .second] [(.int (XT.cmpL (vc * vG) vp))])) τ
          refine XS.ifYes X0.here hx rfl (pc0 := 42) (pc' := 50) rfl (Jvm.hb hby d11_42) rfl ((if0 _ _).trans (tlt q3).1) (by decide) (by decide) ?_
          refine own_dload X0.here hx rfl (Jvm.hb hby d11_50) rfl ?_
          exact kt)
        obtain ⟨fs, hrL, hrun, hended, hW, hsame⟩ := X0.leave (v := some (.double (FP.ddiv (FP.l2d vD) (FP.l2d vG)))) (fun h => by rw [Bd.returns] at h; cases h)
        refine ⟨_, _, cast (congrFun hPS _) (pre156 _ ?_), hrun, hended, _, _, rfl, ?_, ⟨_, rfl⟩, hW, hsame.mono (by decide) (by decide)⟩
        · show Steps p.tables e below (s₁.setTop (mkF m 52 #[.val (.int ct), .val (.long vD), .second, .val (.long vG), .second, .val (.long vm), .second, .val (.long vc), .second, .val (.long vp), .second, .val (.double (FP.ddiv (FP.l2d (vD * vc)) (FP.l2d vp))), .second, .val (.double (FP.ddiv (FP.l2d vD) (FP.l2d vG))), .second] [(.double (FP.ddiv (FP.l2d vD) (FP.l2d vG)))])) _
          exact own_retD X0 hx Bd.returns (Jvm.hb hby d11_52) hrL
        · show QR (own_share ct vD vG vm vc vp) h0 n0 _ s₁.heap _
          rw [e0]
          exact ⟨congrArg (fun z => some (Value.double z)) hr.symm, N0, rfl⟩
      · skip
        have hr : own_share ct vD vG vm vc vp = (FP.ddiv (FP.l2d (vD * vc)) (FP.l2d vp)) := by unfold own_share; rw [if_neg q1, if_neg q2, if_neg q3]
        have pre157 := fun (τ : State) kt => pre155 τ (by
          show Steps p.tables e below (s₁.setTop (mkF m 42 #[.val (.int ct), .val (.long vD), .second, .val (.long vG), .second, .val (.long vm), .second, .val (.long vc), .second, .val (.long vp), .second, .val (.double (FP.ddiv (FP.l2d (vD * vc)) (FP.l2d vp))), .second, .val (.double (FP.ddiv (FP.l2d vD) (FP.l2d vG))), .second] [(.int (XT.cmpL (vc * vG) vp))])) τ
          refine XS.ifNo X0.here hx rfl (Jvm.hb hby d11_42) rfl ((if0 _ _).trans (flt q3).1) ?_
          refine own_dload X0.here hx rfl (Jvm.hb hby d11_45) rfl ?_
          refine XS.goto X0.here hx rfl (pc0 := 47) (pc' := 52) rfl (Jvm.hb hby d11_47) (by decide) (by decide) ?_
          exact kt)
        obtain ⟨fs, hrL, hrun, hended, hW, hsame⟩ := X0.leave (v := some (.double (FP.ddiv (FP.l2d (vD * vc)) (FP.l2d vp)))) (fun h => by rw [Bd.returns] at h; cases h)
        refine ⟨_, _, cast (congrFun hPS _) (pre157 _ ?_), hrun, hended, _, _, rfl, ?_, ⟨_, rfl⟩, hW, hsame.mono (by decide) (by decide)⟩
        · show Steps p.tables e below (s₁.setTop (mkF m 52 #[.val (.int ct), .val (.long vD), .second, .val (.long vG), .second, .val (.long vm), .second, .val (.long vc), .second, .val (.long vp), .second, .val (.double (FP.ddiv (FP.l2d (vD * vc)) (FP.l2d vp))), .second, .val (.double (FP.ddiv (FP.l2d vD) (FP.l2d vG))), .second] [(.double (FP.ddiv (FP.l2d (vD * vc)) (FP.l2d vp)))])) _
          exact own_retD X0 hx Bd.returns (Jvm.hb hby d11_52) hrL
        · show QR (own_share ct vD vG vm vc vp) h0 n0 _ s₁.heap _
          rw [e0]
          exact ⟨congrArg (fun z => some (Value.double z)) hr.symm, N0, rfl⟩
theorem own_ef0 (m : MethodId) (x0 : Int32) (x1 : Int32) (x2 : Int32) (x3 : Int32) (x4 : Int32) (x5 : Int32) : entryFrame m #[(.int x0), (.int x1), (.int x2), (.int x3), (.int x4), (.int x5)] maxLocals = mkF m 0 #[.val (.int x0), .val (.int x1), .val (.int x2), .val (.int x3), .val (.int x4), .val (.int x5), .unset, .unset, .unset, .unset, .unset, .unset, .unset, .unset, .unset, .unset, .unset, .unset, .unset, .unset, .unset, .unset, .unset, .unset, .unset, .unset, .unset, .unset, .unset, .unset, .unset, .unset, .unset, .unset, .unset, .unset, .unset, .unset, .unset, .unset, .unset, .unset, .unset] [] := by first | (simp [entryFrame, mkF, argsToLocals, Value.category, maxLocals]; done) | rfl
def Q0 (n0 : Nat) (v : Option Value) (h : Heap) (L : List Loc) : Prop := v = some (.int 1) ∧ Fr n0 L
set_option maxRecDepth 65536 in
set_option maxHeartbeats 40000000 in
theorem rm0 (l : Launch) (Z : State) (a0 : Array Value) (hw : ∀ d ∈ tables_1, d.before a0 Z = true) (ws : List Jvm.Cond) (aa : Int32) (gg : Int32) (d0 : Int32) (m0 : Int32) (f0 : Int32) (k0 : Int32)  (h0 : Heap) (n0 : Nat) (Z0 : n0 ≤ h0.size)  :
    MetFree l x (head1 (Jvm.Cond.code x code maxLocals ret :: ws) room_1) (fun α U => α = #[(.int aa), (.int gg), (.int d0), (.int m0), (.int f0), (.int k0)] ∧ Z.Warmed39 U.vm ∧ U.heap = h0) (fun _ _ _ _ _ => True) (fun _ U ω U' => ∃ ν Λ, ω = .returned ν ∧ Q0 n0 ν U'.heap Λ ∧ FrameEnd U ω U' Λ room_1.cells room_1.slots) := by
  refine MetFree.of_bodySF (plainFor_of_name own_pn_com_example_meter_meter_allocation_FlowShareWeightPinLaw) hisR ?_
  intro p e s m args below meth c s₁ Bd hml0 hP hK
  obtain ⟨rfl, hZ, hh⟩ := hP
  have hx := Bd.exec
  have hby := Bd.bytes
  have hml : c.maxLocals = 43 := hml0
  have hown : s.vm.findClass "com/example/meter/meter/allocation/FlowShareWeightPinLaw" = some m.cls := findClass_of_methodNamed Bd.named
  have hnm := (name_of_methodNamed Bd.named Bd.method).1
  have X0 : Stand p l e room_1 s m #[(.int aa), (.int gg), (.int d0), (.int m0), (.int f0), (.int k0)] below meth c s₁ [] 0 0 := Stand.of_body Bd
  have e0 : s₁.heap = h0 := by rw [← hh, Bd.state]; rfl
  have N0 := Fr.nil n0
  have KK0 : Keep h0 h0 [] := Keep.refl h0 []
  obtain ⟨PS, hPS⟩ : ∃ P : State → Prop, P = fun τ => Steps p.tables e below (s₁.setTop (entryFrame m #[(.int aa), (.int gg), (.int d0), (.int m0), (.int f0), (.int k0)] maxLocals)) τ := ⟨_, rfl⟩
  have pre0 : ∀ τ, Steps p.tables e below (s₁.setTop (mkF m 0 #[.val (.int aa), .val (.int gg), .val (.int d0), .val (.int m0), .val (.int f0), .val (.int k0), .unset, .unset, .unset, .unset, .unset, .unset, .unset, .unset, .unset, .unset, .unset, .unset, .unset, .unset, .unset, .unset, .unset, .unset, .unset, .unset, .unset, .unset, .unset, .unset, .unset, .unset, .unset, .unset, .unset, .unset, .unset, .unset, .unset, .unset, .unset, .unset, .unset] [])) τ → PS τ := by rw [hPS]; exact fun τ κ => castTop (own_ef0 m aa gg d0 m0 f0 k0) κ
  have pre158 := fun (τ : State) kt => pre0 τ (by
    show Steps p.tables e below (s₁.setTop (mkF m 0 #[.val (.int aa), .val (.int gg), .val (.int d0), .val (.int m0), .val (.int f0), .val (.int k0), .unset, .unset, .unset, .unset, .unset, .unset, .unset, .unset, .unset, .unset, .unset, .unset, .unset, .unset, .unset, .unset, .unset, .unset, .unset, .unset, .unset, .unset, .unset, .unset, .unset, .unset, .unset, .unset, .unset, .unset, .unset, .unset, .unset, .unset, .unset, .unset, .unset] [])) τ
    refine XS.iloadN X0.here hx rfl (Jvm.hb hby at_0) rfl ?_
    refine XS.iconst X0.here hx rfl (Jvm.hb hby at_1) ?_
    refine XS.iand X0.here hx rfl (Jvm.hb hby at_2) rfl ?_
    refine XS.istore X0.here hx rfl (Jvm.hb hby at_3) rfl (l' := #[.val (.int aa), .val (.int gg), .val (.int d0), .val (.int m0), .val (.int f0), .val (.int k0), .val (.int (aa &&& (3 : Int32))), .unset, .unset, .unset, .unset, .unset, .unset, .unset, .unset, .unset, .unset, .unset, .unset, .unset, .unset, .unset, .unset, .unset, .unset, .unset, .unset, .unset, .unset, .unset, .unset, .unset, .unset, .unset, .unset, .unset, .unset, .unset, .unset, .unset, .unset, .unset, .unset]) rfl ?_
    refine XS.iloadN X0.here hx rfl (Jvm.hb hby at_5) rfl ?_
    refine XS.iconst X0.here hx rfl (Jvm.hb hby at_6) ?_
    refine XT.iushr X0.here hx rfl (Jvm.hb hby at_7) rfl ?_
    refine XS.iconst X0.here hx rfl (Jvm.hb hby at_8) ?_
    refine XS.iand X0.here hx rfl (Jvm.hb hby at_9) rfl ?_
    refine XS.istore X0.here hx rfl (Jvm.hb hby at_10) rfl (l' := #[.val (.int aa), .val (.int gg), .val (.int d0), .val (.int m0), .val (.int f0), .val (.int k0), .val (.int (aa &&& (3 : Int32))), .val (.int ((XT.ushr aa (2 : Int32)) &&& (3 : Int32))), .unset, .unset, .unset, .unset, .unset, .unset, .unset, .unset, .unset, .unset, .unset, .unset, .unset, .unset, .unset, .unset, .unset, .unset, .unset, .unset, .unset, .unset, .unset, .unset, .unset, .unset, .unset, .unset, .unset, .unset, .unset, .unset, .unset, .unset, .unset]) rfl ?_
    exact kt)
  obtain ⟨hc, e_hc⟩ : ∃ z : Int32, z = (aa &&& (3 : Int32)) := ⟨_, rfl⟩
  have pre159 : ∀ τ, Steps p.tables e below (s₁.setTop (mkF m 12 #[.val (.int aa), .val (.int gg), .val (.int d0), .val (.int m0), .val (.int f0), .val (.int k0), .val (.int hc), .val (.int ((XT.ushr aa (2 : Int32)) &&& (3 : Int32))), .unset, .unset, .unset, .unset, .unset, .unset, .unset, .unset, .unset, .unset, .unset, .unset, .unset, .unset, .unset, .unset, .unset, .unset, .unset, .unset, .unset, .unset, .unset, .unset, .unset, .unset, .unset, .unset, .unset, .unset, .unset, .unset, .unset, .unset, .unset] [])) τ → PS τ := by rw [e_hc]; exact pre158
  obtain ⟨fk, e_fk⟩ : ∃ z : Int32, z = ((XT.ushr aa (2 : Int32)) &&& (3 : Int32)) := ⟨_, rfl⟩
  have pre160 : ∀ τ, Steps p.tables e below (s₁.setTop (mkF m 12 #[.val (.int aa), .val (.int gg), .val (.int d0), .val (.int m0), .val (.int f0), .val (.int k0), .val (.int hc), .val (.int fk), .unset, .unset, .unset, .unset, .unset, .unset, .unset, .unset, .unset, .unset, .unset, .unset, .unset, .unset, .unset, .unset, .unset, .unset, .unset, .unset, .unset, .unset, .unset, .unset, .unset, .unset, .unset, .unset, .unset, .unset, .unset, .unset, .unset, .unset, .unset] [])) τ → PS τ := by rw [e_fk]; exact pre159
  have hh4 : own_R4 hc := by rw [e_hc]; exact own_a3 _
  have hf4 : own_R4 fk := by rw [e_fk]; exact own_a3 _
  have pre161 := fun (τ : State) kt => pre160 τ (by
    show Steps p.tables e below (s₁.setTop (mkF m 12 #[.val (.int aa), .val (.int gg), .val (.int d0), .val (.int m0), .val (.int f0), .val (.int k0), .val (.int hc), .val (.int fk), .unset, .unset, .unset, .unset, .unset, .unset, .unset, .unset, .unset, .unset, .unset, .unset, .unset, .unset, .unset, .unset, .unset, .unset, .unset, .unset, .unset, .unset, .unset, .unset, .unset, .unset, .unset, .unset, .unset, .unset, .unset, .unset, .unset, .unset, .unset] [])) τ
    refine XS.iloadN X0.here hx rfl (Jvm.hb hby at_12) rfl ?_
    refine XS.iconst X0.here hx rfl (Jvm.hb hby at_13) ?_
    refine XT.iushr X0.here hx rfl (Jvm.hb hby at_14) rfl ?_
    refine XS.iconst X0.here hx rfl (Jvm.hb hby at_15) ?_
    refine XS.iand X0.here hx rfl (Jvm.hb hby at_16) rfl ?_
    exact kt)
  obtain ⟨lo, hj162, pre162⟩ : ∃ (lo : Int32), (True) ∧ ∀ τ, Steps p.tables e below (s₁.setTop (mkF m 25 #[.val (.int aa), .val (.int gg), .val (.int d0), .val (.int m0), .val (.int f0), .val (.int k0), .val (.int hc), .val (.int fk), .unset, .unset, .unset, .unset, .unset, .unset, .unset, .unset, .unset, .unset, .unset, .unset, .unset, .unset, .unset, .unset, .unset, .unset, .unset, .unset, .unset, .unset, .unset, .unset, .unset, .unset, .unset, .unset, .unset, .unset, .unset, .unset, .unset, .unset, .unset] [(.int lo)])) τ → PS τ := by
    by_cases q : ((XT.ushr aa (4 : Int32)) &&& (1 : Int32)) = (0 : Int32)
    · skip
      have pre163 := fun (τ : State) kt => pre161 τ (by
        show Steps p.tables e below (s₁.setTop (mkF m 17 #[.val (.int aa), .val (.int gg), .val (.int d0), .val (.int m0), .val (.int f0), .val (.int k0), .val (.int hc), .val (.int fk), .unset, .unset, .unset, .unset, .unset, .unset, .unset, .unset, .unset, .unset, .unset, .unset, .unset, .unset, .unset, .unset, .unset, .unset, .unset, .unset, .unset, .unset, .unset, .unset, .unset, .unset, .unset, .unset, .unset, .unset, .unset, .unset, .unset, .unset, .unset] [(.int ((XT.ushr aa (4 : Int32)) &&& (1 : Int32)))])) τ
        refine XS.ifYes X0.here hx rfl (pc0 := 17) (pc' := 24) rfl (Jvm.hb hby at_17) rfl ((if0 _ _).trans (teq q).1) (by decide) (by decide) ?_
        refine XS.iconst X0.here hx rfl (Jvm.hb hby at_24) ?_
        exact kt)
      exact ⟨(0 : Int32), trivial, pre163⟩
    · skip
      have pre164 := fun (τ : State) kt => pre161 τ (by
        show Steps p.tables e below (s₁.setTop (mkF m 17 #[.val (.int aa), .val (.int gg), .val (.int d0), .val (.int m0), .val (.int f0), .val (.int k0), .val (.int hc), .val (.int fk), .unset, .unset, .unset, .unset, .unset, .unset, .unset, .unset, .unset, .unset, .unset, .unset, .unset, .unset, .unset, .unset, .unset, .unset, .unset, .unset, .unset, .unset, .unset, .unset, .unset, .unset, .unset, .unset, .unset, .unset, .unset, .unset, .unset, .unset, .unset] [(.int ((XT.ushr aa (4 : Int32)) &&& (1 : Int32)))])) τ
        refine XS.ifNo X0.here hx rfl (Jvm.hb hby at_17) rfl ((if0 _ _).trans (feq q).1) ?_
        refine XS.iconst X0.here hx rfl (Jvm.hb hby at_20) ?_
        refine XS.goto X0.here hx rfl (pc0 := 21) (pc' := 25) rfl (Jvm.hb hby at_21) (by decide) (by decide) ?_
        exact kt)
      exact ⟨(1 : Int32), trivial, pre164⟩
  have pre165 := fun (τ : State) kt => pre162 τ (by
    show Steps p.tables e below (s₁.setTop (mkF m 25 #[.val (.int aa), .val (.int gg), .val (.int d0), .val (.int m0), .val (.int f0), .val (.int k0), .val (.int hc), .val (.int fk), .unset, .unset, .unset, .unset, .unset, .unset, .unset, .unset, .unset, .unset, .unset, .unset, .unset, .unset, .unset, .unset, .unset, .unset, .unset, .unset, .unset, .unset, .unset, .unset, .unset, .unset, .unset, .unset, .unset, .unset, .unset, .unset, .unset, .unset, .unset] [(.int lo)])) τ
    refine XS.istore X0.here hx rfl (Jvm.hb hby at_25) rfl (l' := #[.val (.int aa), .val (.int gg), .val (.int d0), .val (.int m0), .val (.int f0), .val (.int k0), .val (.int hc), .val (.int fk), .val (.int lo), .unset, .unset, .unset, .unset, .unset, .unset, .unset, .unset, .unset, .unset, .unset, .unset, .unset, .unset, .unset, .unset, .unset, .unset, .unset, .unset, .unset, .unset, .unset, .unset, .unset, .unset, .unset, .unset, .unset, .unset, .unset, .unset, .unset, .unset]) rfl ?_
    refine XS.iloadN X0.here hx rfl (Jvm.hb hby at_27) rfl ?_
    refine XS.iconst X0.here hx rfl (Jvm.hb hby at_28) ?_
    refine XT.iushr X0.here hx rfl (Jvm.hb hby at_29) rfl ?_
    refine XS.iconst X0.here hx rfl (Jvm.hb hby at_30) ?_
    refine XS.iand X0.here hx rfl (Jvm.hb hby at_31) rfl ?_
    refine XS.istore X0.here hx rfl (Jvm.hb hby at_32) rfl (l' := #[.val (.int aa), .val (.int gg), .val (.int d0), .val (.int m0), .val (.int f0), .val (.int k0), .val (.int hc), .val (.int fk), .val (.int lo), .val (.int ((XT.ushr aa (5 : Int32)) &&& (3 : Int32))), .unset, .unset, .unset, .unset, .unset, .unset, .unset, .unset, .unset, .unset, .unset, .unset, .unset, .unset, .unset, .unset, .unset, .unset, .unset, .unset, .unset, .unset, .unset, .unset, .unset, .unset, .unset, .unset, .unset, .unset, .unset, .unset, .unset]) rfl ?_
    exact kt)
  obtain ⟨uk, e_uk⟩ : ∃ z : Int32, z = ((XT.ushr aa (5 : Int32)) &&& (3 : Int32)) := ⟨_, rfl⟩
  have pre166 : ∀ τ, Steps p.tables e below (s₁.setTop (mkF m 34 #[.val (.int aa), .val (.int gg), .val (.int d0), .val (.int m0), .val (.int f0), .val (.int k0), .val (.int hc), .val (.int fk), .val (.int lo), .val (.int uk), .unset, .unset, .unset, .unset, .unset, .unset, .unset, .unset, .unset, .unset, .unset, .unset, .unset, .unset, .unset, .unset, .unset, .unset, .unset, .unset, .unset, .unset, .unset, .unset, .unset, .unset, .unset, .unset, .unset, .unset, .unset, .unset, .unset] [])) τ → PS τ := by rw [e_uk]; exact pre165
  have hu4 : own_R4 uk := by rw [e_uk]; exact own_a3 _
  have pre167 := fun (τ : State) kt => pre166 τ (by
    show Steps p.tables e below (s₁.setTop (mkF m 34 #[.val (.int aa), .val (.int gg), .val (.int d0), .val (.int m0), .val (.int f0), .val (.int k0), .val (.int hc), .val (.int fk), .val (.int lo), .val (.int uk), .unset, .unset, .unset, .unset, .unset, .unset, .unset, .unset, .unset, .unset, .unset, .unset, .unset, .unset, .unset, .unset, .unset, .unset, .unset, .unset, .unset, .unset, .unset, .unset, .unset, .unset, .unset, .unset, .unset, .unset, .unset, .unset, .unset] [])) τ
    refine XS.iloadN X0.here hx rfl (Jvm.hb hby at_34) rfl ?_
    refine XS.bipush X0.here hx rfl (Jvm.hb hby at_35) ?_
    refine XT.iushr X0.here hx rfl (Jvm.hb hby at_37) rfl ?_
    refine XS.iconst X0.here hx rfl (Jvm.hb hby at_38) ?_
    refine XS.iand X0.here hx rfl (Jvm.hb hby at_39) rfl ?_
    exact kt)
  obtain ⟨oo, hj168, pre168⟩ : ∃ (oo : Int32), (True) ∧ ∀ τ, Steps p.tables e below (s₁.setTop (mkF m 48 #[.val (.int aa), .val (.int gg), .val (.int d0), .val (.int m0), .val (.int f0), .val (.int k0), .val (.int hc), .val (.int fk), .val (.int lo), .val (.int uk), .unset, .unset, .unset, .unset, .unset, .unset, .unset, .unset, .unset, .unset, .unset, .unset, .unset, .unset, .unset, .unset, .unset, .unset, .unset, .unset, .unset, .unset, .unset, .unset, .unset, .unset, .unset, .unset, .unset, .unset, .unset, .unset, .unset] [(.int oo)])) τ → PS τ := by
    by_cases q : ((XT.ushr aa (7 : Int32)) &&& (1 : Int32)) = (0 : Int32)
    · skip
      have pre169 := fun (τ : State) kt => pre167 τ (by
        show Steps p.tables e below (s₁.setTop (mkF m 40 #[.val (.int aa), .val (.int gg), .val (.int d0), .val (.int m0), .val (.int f0), .val (.int k0), .val (.int hc), .val (.int fk), .val (.int lo), .val (.int uk), .unset, .unset, .unset, .unset, .unset, .unset, .unset, .unset, .unset, .unset, .unset, .unset, .unset, .unset, .unset, .unset, .unset, .unset, .unset, .unset, .unset, .unset, .unset, .unset, .unset, .unset, .unset, .unset, .unset, .unset, .unset, .unset, .unset] [(.int ((XT.ushr aa (7 : Int32)) &&& (1 : Int32)))])) τ
        refine XS.ifYes X0.here hx rfl (pc0 := 40) (pc' := 47) rfl (Jvm.hb hby at_40) rfl ((if0 _ _).trans (teq q).1) (by decide) (by decide) ?_
        refine XS.iconst X0.here hx rfl (Jvm.hb hby at_47) ?_
        exact kt)
      exact ⟨(0 : Int32), trivial, pre169⟩
    · skip
      have pre170 := fun (τ : State) kt => pre167 τ (by
        show Steps p.tables e below (s₁.setTop (mkF m 40 #[.val (.int aa), .val (.int gg), .val (.int d0), .val (.int m0), .val (.int f0), .val (.int k0), .val (.int hc), .val (.int fk), .val (.int lo), .val (.int uk), .unset, .unset, .unset, .unset, .unset, .unset, .unset, .unset, .unset, .unset, .unset, .unset, .unset, .unset, .unset, .unset, .unset, .unset, .unset, .unset, .unset, .unset, .unset, .unset, .unset, .unset, .unset, .unset, .unset, .unset, .unset, .unset, .unset] [(.int ((XT.ushr aa (7 : Int32)) &&& (1 : Int32)))])) τ
        refine XS.ifNo X0.here hx rfl (Jvm.hb hby at_40) rfl ((if0 _ _).trans (feq q).1) ?_
        refine XS.iconst X0.here hx rfl (Jvm.hb hby at_43) ?_
        refine XS.goto X0.here hx rfl (pc0 := 44) (pc' := 48) rfl (Jvm.hb hby at_44) (by decide) (by decide) ?_
        exact kt)
      exact ⟨(1 : Int32), trivial, pre170⟩
  have pre171 := fun (τ : State) kt => pre168 τ (by
    show Steps p.tables e below (s₁.setTop (mkF m 48 #[.val (.int aa), .val (.int gg), .val (.int d0), .val (.int m0), .val (.int f0), .val (.int k0), .val (.int hc), .val (.int fk), .val (.int lo), .val (.int uk), .unset, .unset, .unset, .unset, .unset, .unset, .unset, .unset, .unset, .unset, .unset, .unset, .unset, .unset, .unset, .unset, .unset, .unset, .unset, .unset, .unset, .unset, .unset, .unset, .unset, .unset, .unset, .unset, .unset, .unset, .unset, .unset, .unset] [(.int oo)])) τ
    refine XS.istore X0.here hx rfl (Jvm.hb hby at_48) rfl (l' := #[.val (.int aa), .val (.int gg), .val (.int d0), .val (.int m0), .val (.int f0), .val (.int k0), .val (.int hc), .val (.int fk), .val (.int lo), .val (.int uk), .val (.int oo), .unset, .unset, .unset, .unset, .unset, .unset, .unset, .unset, .unset, .unset, .unset, .unset, .unset, .unset, .unset, .unset, .unset, .unset, .unset, .unset, .unset, .unset, .unset, .unset, .unset, .unset, .unset, .unset, .unset, .unset, .unset, .unset]) rfl ?_
    refine XS.bipush X0.here hx rfl (Jvm.hb hby at_50) ?_
    refine XS.iloadN X0.here hx rfl (Jvm.hb hby at_52) rfl ?_
    refine X0.ldcInt hx hown (mvT hZ (own_W0 hw)) (g := (mkF m 53 #[.val (.int aa), .val (.int gg), .val (.int d0), .val (.int m0), .val (.int f0), .val (.int k0), .val (.int hc), .val (.int fk), .val (.int lo), .val (.int uk), .val (.int oo), .unset, .unset, .unset, .unset, .unset, .unset, .unset, .unset, .unset, .unset, .unset, .unset, .unset, .unset, .unset, .unset, .unset, .unset, .unset, .unset, .unset, .unset, .unset, .unset, .unset, .unset, .unset, .unset, .unset, .unset, .unset, .unset] [(.int gg), (.int (20 : Int32))])) rfl (Jvm.hb hby at_53) _ ?_
    refine XS.iand X0.here hx rfl (Jvm.hb hby at_55) rfl ?_
    refine XS.iadd X0.here hx rfl (Jvm.hb hby at_56) rfl ?_
    refine XT.i2l X0.here hx rfl (Jvm.hb hby at_57) rfl ?_
    refine XT.lstore X0.here hx rfl (Jvm.hb hby at_58) rfl (l' := #[.val (.int aa), .val (.int gg), .val (.int d0), .val (.int m0), .val (.int f0), .val (.int k0), .val (.int hc), .val (.int fk), .val (.int lo), .val (.int uk), .val (.int oo), .val (.long (((20 : Int32) + (gg &&& (65535 : Int32)))).toInt64), .second, .unset, .unset, .unset, .unset, .unset, .unset, .unset, .unset, .unset, .unset, .unset, .unset, .unset, .unset, .unset, .unset, .unset, .unset, .unset, .unset, .unset, .unset, .unset, .unset, .unset, .unset, .unset, .unset, .unset, .unset]) rfl ?_
    exact kt)
  obtain ⟨vG, e_vG⟩ : ∃ z : Int64, z = (((20 : Int32) + (gg &&& (65535 : Int32)))).toInt64 := ⟨_, rfl⟩
  have pre172 : ∀ τ, Steps p.tables e below (s₁.setTop (mkF m 60 #[.val (.int aa), .val (.int gg), .val (.int d0), .val (.int m0), .val (.int f0), .val (.int k0), .val (.int hc), .val (.int fk), .val (.int lo), .val (.int uk), .val (.int oo), .val (.long vG), .second, .unset, .unset, .unset, .unset, .unset, .unset, .unset, .unset, .unset, .unset, .unset, .unset, .unset, .unset, .unset, .unset, .unset, .unset, .unset, .unset, .unset, .unset, .unset, .unset, .unset, .unset, .unset, .unset, .unset, .unset] [])) τ → PS τ := by rw [e_vG]; exact pre171
  have hY : ¬ ((9 : Int64) * vG) / (10 : Int64) = 0 := by
    have g := own_ab (b := 20) (w := 65535) (x := gg) (by decide) (by decide) (by decide) (by decide)
    rw [← e_vG, show (20 : Int32).toInt = 20 by decide, show (65535 : Int32).toInt = 65535 by decide] at g
    exact (own_aD (X := 0) (by omega) (by omega) (by decide)).1
  have pre173 := fun (τ : State) kt => pre172 τ (by
    show Steps p.tables e below (s₁.setTop (mkF m 60 #[.val (.int aa), .val (.int gg), .val (.int d0), .val (.int m0), .val (.int f0), .val (.int k0), .val (.int hc), .val (.int fk), .val (.int lo), .val (.int uk), .val (.int oo), .val (.long vG), .second, .unset, .unset, .unset, .unset, .unset, .unset, .unset, .unset, .unset, .unset, .unset, .unset, .unset, .unset, .unset, .unset, .unset, .unset, .unset, .unset, .unset, .unset, .unset, .unset, .unset, .unset, .unset, .unset, .unset, .unset] [])) τ
    refine XT.lconst X0.here hx rfl (Jvm.hb hby at_60) ?_
    refine XS.iloadN X0.here hx rfl (Jvm.hb hby at_61) rfl ?_
    refine X0.ldcInt hx hown (mvT hZ (own_W1 hw)) (g := (mkF m 62 #[.val (.int aa), .val (.int gg), .val (.int d0), .val (.int m0), .val (.int f0), .val (.int k0), .val (.int hc), .val (.int fk), .val (.int lo), .val (.int uk), .val (.int oo), .val (.long vG), .second, .unset, .unset, .unset, .unset, .unset, .unset, .unset, .unset, .unset, .unset, .unset, .unset, .unset, .unset, .unset, .unset, .unset, .unset, .unset, .unset, .unset, .unset, .unset, .unset, .unset, .unset, .unset, .unset, .unset, .unset] [(.int d0), (.long (1 : Int64))])) rfl (Jvm.hb hby at_62) _ ?_
    refine XS.iand X0.here hx rfl (Jvm.hb hby at_64) rfl ?_
    refine XT.i2l X0.here hx rfl (Jvm.hb hby at_65) rfl ?_
    refine X0.ldc2Long hx hown (mvT hZ (own_W2 hw)) (g := (mkF m 66 #[.val (.int aa), .val (.int gg), .val (.int d0), .val (.int m0), .val (.int f0), .val (.int k0), .val (.int hc), .val (.int fk), .val (.int lo), .val (.int uk), .val (.int oo), .val (.long vG), .second, .unset, .unset, .unset, .unset, .unset, .unset, .unset, .unset, .unset, .unset, .unset, .unset, .unset, .unset, .unset, .unset, .unset, .unset, .unset, .unset, .unset, .unset, .unset, .unset, .unset, .unset, .unset, .unset, .unset, .unset] [(.long ((d0 &&& (2147483647 : Int32))).toInt64), (.long (1 : Int64))])) rfl (Jvm.hb hby at_66) _ ?_
    refine XT.lload X0.here hx rfl (Jvm.hb hby at_69) rfl ?_
    refine XT.lmul X0.here hx rfl (Jvm.hb hby at_71) rfl ?_
    refine X0.ldc2Long hx hown (mvT hZ (own_W3 hw)) (g := (mkF m 72 #[.val (.int aa), .val (.int gg), .val (.int d0), .val (.int m0), .val (.int f0), .val (.int k0), .val (.int hc), .val (.int fk), .val (.int lo), .val (.int uk), .val (.int oo), .val (.long vG), .second, .unset, .unset, .unset, .unset, .unset, .unset, .unset, .unset, .unset, .unset, .unset, .unset, .unset, .unset, .unset, .unset, .unset, .unset, .unset, .unset, .unset, .unset, .unset, .unset, .unset, .unset, .unset, .unset, .unset, .unset] [(.long ((9 : Int64) * vG)), (.long ((d0 &&& (2147483647 : Int32))).toInt64), (.long (1 : Int64))])) rfl (Jvm.hb hby at_72) _ ?_
    refine XT.ldiv X0.here hx rfl (Jvm.hb hby at_75) rfl (by decide) ?_
    refine XT.lrem X0.here hx rfl (Jvm.hb hby at_76) rfl (hY) ?_
    refine XT.ladd X0.here hx rfl (Jvm.hb hby at_77) rfl ?_
    refine XT.lstore X0.here hx rfl (Jvm.hb hby at_78) rfl (l' := #[.val (.int aa), .val (.int gg), .val (.int d0), .val (.int m0), .val (.int f0), .val (.int k0), .val (.int hc), .val (.int fk), .val (.int lo), .val (.int uk), .val (.int oo), .val (.long vG), .second, .val (.long ((1 : Int64) + (((d0 &&& (2147483647 : Int32))).toInt64 - (((d0 &&& (2147483647 : Int32))).toInt64 / (((9 : Int64) * vG) / (10 : Int64))) * (((9 : Int64) * vG) / (10 : Int64))))), .second, .unset, .unset, .unset, .unset, .unset, .unset, .unset, .unset, .unset, .unset, .unset, .unset, .unset, .unset, .unset, .unset, .unset, .unset, .unset, .unset, .unset, .unset, .unset, .unset, .unset, .unset, .unset, .unset]) rfl ?_
    exact kt)
  obtain ⟨vD, e_vD⟩ : ∃ z : Int64, z = ((1 : Int64) + (((d0 &&& (2147483647 : Int32))).toInt64 - (((d0 &&& (2147483647 : Int32))).toInt64 / (((9 : Int64) * vG) / (10 : Int64))) * (((9 : Int64) * vG) / (10 : Int64)))) := ⟨_, rfl⟩
  have pre174 : ∀ τ, Steps p.tables e below (s₁.setTop (mkF m 80 #[.val (.int aa), .val (.int gg), .val (.int d0), .val (.int m0), .val (.int f0), .val (.int k0), .val (.int hc), .val (.int fk), .val (.int lo), .val (.int uk), .val (.int oo), .val (.long vG), .second, .val (.long vD), .second, .unset, .unset, .unset, .unset, .unset, .unset, .unset, .unset, .unset, .unset, .unset, .unset, .unset, .unset, .unset, .unset, .unset, .unset, .unset, .unset, .unset, .unset, .unset, .unset, .unset, .unset, .unset, .unset] [])) τ → PS τ := by rw [e_vD]; exact pre173
  have pre175 := fun (τ : State) kt => pre174 τ (by
    show Steps p.tables e below (s₁.setTop (mkF m 80 #[.val (.int aa), .val (.int gg), .val (.int d0), .val (.int m0), .val (.int f0), .val (.int k0), .val (.int hc), .val (.int fk), .val (.int lo), .val (.int uk), .val (.int oo), .val (.long vG), .second, .val (.long vD), .second, .unset, .unset, .unset, .unset, .unset, .unset, .unset, .unset, .unset, .unset, .unset, .unset, .unset, .unset, .unset, .unset, .unset, .unset, .unset, .unset, .unset, .unset, .unset, .unset, .unset, .unset, .unset, .unset] [])) τ
    refine XS.iconst X0.here hx rfl (Jvm.hb hby at_80) ?_
    refine XS.iloadN X0.here hx rfl (Jvm.hb hby at_81) rfl ?_
    refine X0.ldcInt hx hown (mvT hZ (own_W0 hw)) (g := (mkF m 82 #[.val (.int aa), .val (.int gg), .val (.int d0), .val (.int m0), .val (.int f0), .val (.int k0), .val (.int hc), .val (.int fk), .val (.int lo), .val (.int uk), .val (.int oo), .val (.long vG), .second, .val (.long vD), .second, .unset, .unset, .unset, .unset, .unset, .unset, .unset, .unset, .unset, .unset, .unset, .unset, .unset, .unset, .unset, .unset, .unset, .unset, .unset, .unset, .unset, .unset, .unset, .unset, .unset, .unset, .unset, .unset] [(.int m0), (.int (1 : Int32))])) rfl (Jvm.hb hby at_82) _ ?_
    refine XS.iand X0.here hx rfl (Jvm.hb hby at_84) rfl ?_
    refine XS.iadd X0.here hx rfl (Jvm.hb hby at_85) rfl ?_
    refine XT.i2l X0.here hx rfl (Jvm.hb hby at_86) rfl ?_
    refine XT.lstore X0.here hx rfl (Jvm.hb hby at_87) rfl (l' := #[.val (.int aa), .val (.int gg), .val (.int d0), .val (.int m0), .val (.int f0), .val (.int k0), .val (.int hc), .val (.int fk), .val (.int lo), .val (.int uk), .val (.int oo), .val (.long vG), .second, .val (.long vD), .second, .val (.long (((1 : Int32) + (m0 &&& (65535 : Int32)))).toInt64), .second, .unset, .unset, .unset, .unset, .unset, .unset, .unset, .unset, .unset, .unset, .unset, .unset, .unset, .unset, .unset, .unset, .unset, .unset, .unset, .unset, .unset, .unset, .unset, .unset, .unset, .unset]) rfl ?_
    exact kt)
  obtain ⟨vm, e_vm⟩ : ∃ z : Int64, z = (((1 : Int32) + (m0 &&& (65535 : Int32)))).toInt64 := ⟨_, rfl⟩
  have pre176 : ∀ τ, Steps p.tables e below (s₁.setTop (mkF m 89 #[.val (.int aa), .val (.int gg), .val (.int d0), .val (.int m0), .val (.int f0), .val (.int k0), .val (.int hc), .val (.int fk), .val (.int lo), .val (.int uk), .val (.int oo), .val (.long vG), .second, .val (.long vD), .second, .val (.long vm), .second, .unset, .unset, .unset, .unset, .unset, .unset, .unset, .unset, .unset, .unset, .unset, .unset, .unset, .unset, .unset, .unset, .unset, .unset, .unset, .unset, .unset, .unset, .unset, .unset, .unset, .unset] [])) τ → PS τ := by rw [e_vm]; exact pre175
  have pre177 := fun (τ : State) kt => pre176 τ (by
    show Steps p.tables e below (s₁.setTop (mkF m 89 #[.val (.int aa), .val (.int gg), .val (.int d0), .val (.int m0), .val (.int f0), .val (.int k0), .val (.int hc), .val (.int fk), .val (.int lo), .val (.int uk), .val (.int oo), .val (.long vG), .second, .val (.long vD), .second, .val (.long vm), .second, .unset, .unset, .unset, .unset, .unset, .unset, .unset, .unset, .unset, .unset, .unset, .unset, .unset, .unset, .unset, .unset, .unset, .unset, .unset, .unset, .unset, .unset, .unset, .unset, .unset, .unset] [])) τ
    refine XS.iconst X0.here hx rfl (Jvm.hb hby at_89) ?_
    refine XS.iload X0.here hx rfl (Jvm.hb hby at_90) rfl ?_
    refine X0.ldcInt hx hown (mvT hZ (own_W0 hw)) (g := (mkF m 92 #[.val (.int aa), .val (.int gg), .val (.int d0), .val (.int m0), .val (.int f0), .val (.int k0), .val (.int hc), .val (.int fk), .val (.int lo), .val (.int uk), .val (.int oo), .val (.long vG), .second, .val (.long vD), .second, .val (.long vm), .second, .unset, .unset, .unset, .unset, .unset, .unset, .unset, .unset, .unset, .unset, .unset, .unset, .unset, .unset, .unset, .unset, .unset, .unset, .unset, .unset, .unset, .unset, .unset, .unset, .unset, .unset] [(.int f0), (.int (1 : Int32))])) rfl (Jvm.hb hby at_92) _ ?_
    refine XS.iand X0.here hx rfl (Jvm.hb hby at_94) rfl ?_
    refine XS.iadd X0.here hx rfl (Jvm.hb hby at_95) rfl ?_
    refine XT.i2l X0.here hx rfl (Jvm.hb hby at_96) rfl ?_
    refine XT.lstore X0.here hx rfl (Jvm.hb hby at_97) rfl (l' := #[.val (.int aa), .val (.int gg), .val (.int d0), .val (.int m0), .val (.int f0), .val (.int k0), .val (.int hc), .val (.int fk), .val (.int lo), .val (.int uk), .val (.int oo), .val (.long vG), .second, .val (.long vD), .second, .val (.long vm), .second, .val (.long (((1 : Int32) + (f0 &&& (65535 : Int32)))).toInt64), .second, .unset, .unset, .unset, .unset, .unset, .unset, .unset, .unset, .unset, .unset, .unset, .unset, .unset, .unset, .unset, .unset, .unset, .unset, .unset, .unset, .unset, .unset, .unset, .unset]) rfl ?_
    exact kt)
  obtain ⟨vF, e_vF⟩ : ∃ z : Int64, z = (((1 : Int32) + (f0 &&& (65535 : Int32)))).toInt64 := ⟨_, rfl⟩
  have pre178 : ∀ τ, Steps p.tables e below (s₁.setTop (mkF m 99 #[.val (.int aa), .val (.int gg), .val (.int d0), .val (.int m0), .val (.int f0), .val (.int k0), .val (.int hc), .val (.int fk), .val (.int lo), .val (.int uk), .val (.int oo), .val (.long vG), .second, .val (.long vD), .second, .val (.long vm), .second, .val (.long vF), .second, .unset, .unset, .unset, .unset, .unset, .unset, .unset, .unset, .unset, .unset, .unset, .unset, .unset, .unset, .unset, .unset, .unset, .unset, .unset, .unset, .unset, .unset, .unset, .unset] [])) τ → PS τ := by rw [e_vF]; exact pre177
  have pre179 := fun (τ : State) kt => pre178 τ (by
    show Steps p.tables e below (s₁.setTop (mkF m 99 #[.val (.int aa), .val (.int gg), .val (.int d0), .val (.int m0), .val (.int f0), .val (.int k0), .val (.int hc), .val (.int fk), .val (.int lo), .val (.int uk), .val (.int oo), .val (.long vG), .second, .val (.long vD), .second, .val (.long vm), .second, .val (.long vF), .second, .unset, .unset, .unset, .unset, .unset, .unset, .unset, .unset, .unset, .unset, .unset, .unset, .unset, .unset, .unset, .unset, .unset, .unset, .unset, .unset, .unset, .unset, .unset, .unset] [])) τ
    refine XS.iconst X0.here hx rfl (Jvm.hb hby at_99) ?_
    refine XS.iload X0.here hx rfl (Jvm.hb hby at_100) rfl ?_
    refine XS.sipush X0.here hx rfl (Jvm.hb hby at_102) ?_
    refine XS.iand X0.here hx rfl (Jvm.hb hby at_105) rfl ?_
    refine XS.iadd X0.here hx rfl (Jvm.hb hby at_106) rfl ?_
    refine XT.i2l X0.here hx rfl (Jvm.hb hby at_107) rfl ?_
    refine XT.lstore X0.here hx rfl (Jvm.hb hby at_108) rfl (l' := #[.val (.int aa), .val (.int gg), .val (.int d0), .val (.int m0), .val (.int f0), .val (.int k0), .val (.int hc), .val (.int fk), .val (.int lo), .val (.int uk), .val (.int oo), .val (.long vG), .second, .val (.long vD), .second, .val (.long vm), .second, .val (.long vF), .second, .val (.long (((1 : Int32) + (k0 &&& (255 : Int32)))).toInt64), .second, .unset, .unset, .unset, .unset, .unset, .unset, .unset, .unset, .unset, .unset, .unset, .unset, .unset, .unset, .unset, .unset, .unset, .unset, .unset, .unset, .unset, .unset]) rfl ?_
    exact kt)
  obtain ⟨vc, e_vc⟩ : ∃ z : Int64, z = (((1 : Int32) + (k0 &&& (255 : Int32)))).toInt64 := ⟨_, rfl⟩
  have pre180 : ∀ τ, Steps p.tables e below (s₁.setTop (mkF m 110 #[.val (.int aa), .val (.int gg), .val (.int d0), .val (.int m0), .val (.int f0), .val (.int k0), .val (.int hc), .val (.int fk), .val (.int lo), .val (.int uk), .val (.int oo), .val (.long vG), .second, .val (.long vD), .second, .val (.long vm), .second, .val (.long vF), .second, .val (.long vc), .second, .unset, .unset, .unset, .unset, .unset, .unset, .unset, .unset, .unset, .unset, .unset, .unset, .unset, .unset, .unset, .unset, .unset, .unset, .unset, .unset, .unset, .unset] [])) τ → PS τ := by rw [e_vc]; exact pre179
  have pre181 := fun (τ : State) kt => pre180 τ (by
    show Steps p.tables e below (s₁.setTop (mkF m 110 #[.val (.int aa), .val (.int gg), .val (.int d0), .val (.int m0), .val (.int f0), .val (.int k0), .val (.int hc), .val (.int fk), .val (.int lo), .val (.int uk), .val (.int oo), .val (.long vG), .second, .val (.long vD), .second, .val (.long vm), .second, .val (.long vF), .second, .val (.long vc), .second, .unset, .unset, .unset, .unset, .unset, .unset, .unset, .unset, .unset, .unset, .unset, .unset, .unset, .unset, .unset, .unset, .unset, .unset, .unset, .unset, .unset, .unset] [])) τ
    refine XS.iload X0.here hx rfl (Jvm.hb hby at_110) rfl ?_
    refine XS.bipush X0.here hx rfl (Jvm.hb hby at_112) ?_
    refine XT.iushr X0.here hx rfl (Jvm.hb hby at_114) rfl ?_
    refine XS.bipush X0.here hx rfl (Jvm.hb hby at_115) ?_
    refine XS.iand X0.here hx rfl (Jvm.hb hby at_117) rfl ?_
    refine XS.istore X0.here hx rfl (Jvm.hb hby at_118) rfl (l' := #[.val (.int aa), .val (.int gg), .val (.int d0), .val (.int m0), .val (.int f0), .val (.int k0), .val (.int hc), .val (.int fk), .val (.int lo), .val (.int uk), .val (.int oo), .val (.long vG), .second, .val (.long vD), .second, .val (.long vm), .second, .val (.long vF), .second, .val (.long vc), .second, .val (.int ((XT.ushr k0 (8 : Int32)) &&& (31 : Int32))), .unset, .unset, .unset, .unset, .unset, .unset, .unset, .unset, .unset, .unset, .unset, .unset, .unset, .unset, .unset, .unset, .unset, .unset, .unset, .unset, .unset]) rfl ?_
    refine XT.lconst X0.here hx rfl (Jvm.hb hby at_120) ?_
    refine XS.iload X0.here hx rfl (Jvm.hb hby at_121) rfl ?_
    refine XT.lshl X0.here hx rfl (Jvm.hb hby at_123) rfl ?_
    refine XT.lstore X0.here hx rfl (Jvm.hb hby at_124) rfl (l' := #[.val (.int aa), .val (.int gg), .val (.int d0), .val (.int m0), .val (.int f0), .val (.int k0), .val (.int hc), .val (.int fk), .val (.int lo), .val (.int uk), .val (.int oo), .val (.long vG), .second, .val (.long vD), .second, .val (.long vm), .second, .val (.long vF), .second, .val (.long vc), .second, .val (.int ((XT.ushr k0 (8 : Int32)) &&& (31 : Int32))), .val (.long ((1 : Int64) <<< (((XT.ushr k0 (8 : Int32)) &&& (31 : Int32)).toInt64 &&& 63))), .second, .unset, .unset, .unset, .unset, .unset, .unset, .unset, .unset, .unset, .unset, .unset, .unset, .unset, .unset, .unset, .unset, .unset, .unset, .unset]) rfl ?_
    exact kt)
  obtain ⟨vp, e_vp⟩ : ∃ z : Int64, z = ((1 : Int64) <<< (((XT.ushr k0 (8 : Int32)) &&& (31 : Int32)).toInt64 &&& 63)) := ⟨_, rfl⟩
  have pre182 : ∀ τ, Steps p.tables e below (s₁.setTop (mkF m 126 #[.val (.int aa), .val (.int gg), .val (.int d0), .val (.int m0), .val (.int f0), .val (.int k0), .val (.int hc), .val (.int fk), .val (.int lo), .val (.int uk), .val (.int oo), .val (.long vG), .second, .val (.long vD), .second, .val (.long vm), .second, .val (.long vF), .second, .val (.long vc), .second, .val (.int ((XT.ushr k0 (8 : Int32)) &&& (31 : Int32))), .val (.long vp), .second, .unset, .unset, .unset, .unset, .unset, .unset, .unset, .unset, .unset, .unset, .unset, .unset, .unset, .unset, .unset, .unset, .unset, .unset, .unset] [])) τ → PS τ := by rw [e_vp]; exact pre181
  obtain ⟨je, hB⟩ := own_aB e_vG e_vD e_vm e_vF e_vc e_vp
  have hB' := hB
  obtain ⟨b1, b2, b3, b4, b5, b6, b7, b8, b9, b10, b11, b12, b13, b14⟩ := hB'
  have pre183 := fun (τ : State) kt => pre182 τ (by
    show Steps p.tables e below (s₁.setTop (mkF m 126 #[.val (.int aa), .val (.int gg), .val (.int d0), .val (.int m0), .val (.int f0), .val (.int k0), .val (.int hc), .val (.int fk), .val (.int lo), .val (.int uk), .val (.int oo), .val (.long vG), .second, .val (.long vD), .second, .val (.long vm), .second, .val (.long vF), .second, .val (.long vc), .second, .val (.int ((XT.ushr k0 (8 : Int32)) &&& (31 : Int32))), .val (.long vp), .second, .unset, .unset, .unset, .unset, .unset, .unset, .unset, .unset, .unset, .unset, .unset, .unset, .unset, .unset, .unset, .unset, .unset, .unset, .unset] [])) τ
    refine XS.iload X0.here hx rfl (Jvm.hb hby at_126) rfl ?_
    refine own_i2d X0.here hx rfl (Jvm.hb hby at_128) rfl ?_
    refine X0.ldc2DoubleC hx hown (mvT hZ (own_W4 hw)) (g := (mkF m 129 #[.val (.int aa), .val (.int gg), .val (.int d0), .val (.int m0), .val (.int f0), .val (.int k0), .val (.int hc), .val (.int fk), .val (.int lo), .val (.int uk), .val (.int oo), .val (.long vG), .second, .val (.long vD), .second, .val (.long vm), .second, .val (.long vF), .second, .val (.long vc), .second, .val (.int ((XT.ushr k0 (8 : Int32)) &&& (31 : Int32))), .val (.long vp), .second, .unset, .unset, .unset, .unset, .unset, .unset, .unset, .unset, .unset, .unset, .unset, .unset, .unset, .unset, .unset, .unset, .unset, .unset, .unset] [(.double (FP.i2d hc))])) rfl (Jvm.hb hby at_129) _ ?_
    refine own_dmul X0.here hx rfl (Jvm.hb hby at_132) rfl (own_F_no (own_he_f hh4).1) ?_
    refine own_dstore X0.here hx rfl (Jvm.hb hby at_133) rfl (l' := #[.val (.int aa), .val (.int gg), .val (.int d0), .val (.int m0), .val (.int f0), .val (.int k0), .val (.int hc), .val (.int fk), .val (.int lo), .val (.int uk), .val (.int oo), .val (.long vG), .second, .val (.long vD), .second, .val (.long vm), .second, .val (.long vF), .second, .val (.long vc), .second, .val (.int ((XT.ushr k0 (8 : Int32)) &&& (31 : Int32))), .val (.long vp), .second, .val (.double (FP.dmul (FP.i2d hc) (4598175219545276416 : UInt64))), .second, .unset, .unset, .unset, .unset, .unset, .unset, .unset, .unset, .unset, .unset, .unset, .unset, .unset, .unset, .unset, .unset, .unset]) rfl ?_
    exact kt)
  obtain ⟨he, e_he⟩ : ∃ z : UInt64, z = (FP.dmul (FP.i2d hc) (4598175219545276416 : UInt64)) := ⟨_, rfl⟩
  have pre184 : ∀ τ, Steps p.tables e below (s₁.setTop (mkF m 135 #[.val (.int aa), .val (.int gg), .val (.int d0), .val (.int m0), .val (.int f0), .val (.int k0), .val (.int hc), .val (.int fk), .val (.int lo), .val (.int uk), .val (.int oo), .val (.long vG), .second, .val (.long vD), .second, .val (.long vm), .second, .val (.long vF), .second, .val (.long vc), .second, .val (.int ((XT.ushr k0 (8 : Int32)) &&& (31 : Int32))), .val (.long vp), .second, .val (.double he), .second, .unset, .unset, .unset, .unset, .unset, .unset, .unset, .unset, .unset, .unset, .unset, .unset, .unset, .unset, .unset, .unset, .unset] [])) τ → PS τ := by rw [e_he]; exact pre183
  have pre185 := fun (τ : State) kt => pre184 τ (by
    show Steps p.tables e below (s₁.setTop (mkF m 135 #[.val (.int aa), .val (.int gg), .val (.int d0), .val (.int m0), .val (.int f0), .val (.int k0), .val (.int hc), .val (.int fk), .val (.int lo), .val (.int uk), .val (.int oo), .val (.long vG), .second, .val (.long vD), .second, .val (.long vm), .second, .val (.long vF), .second, .val (.long vc), .second, .val (.int ((XT.ushr k0 (8 : Int32)) &&& (31 : Int32))), .val (.long vp), .second, .val (.double he), .second, .unset, .unset, .unset, .unset, .unset, .unset, .unset, .unset, .unset, .unset, .unset, .unset, .unset, .unset, .unset, .unset, .unset] [])) τ
    refine XS.iload X0.here hx rfl (Jvm.hb hby at_135) rfl ?_
    exact kt)
  obtain ⟨fa, hj186, pre186⟩ : ∃ (fa : UInt64), (fa = own_fast fk vF) ∧ ∀ τ, Steps p.tables e below (s₁.setTop (mkF m 159 #[.val (.int aa), .val (.int gg), .val (.int d0), .val (.int m0), .val (.int f0), .val (.int k0), .val (.int hc), .val (.int fk), .val (.int lo), .val (.int uk), .val (.int oo), .val (.long vG), .second, .val (.long vD), .second, .val (.long vm), .second, .val (.long vF), .second, .val (.long vc), .second, .val (.int ((XT.ushr k0 (8 : Int32)) &&& (31 : Int32))), .val (.long vp), .second, .val (.double he), .second, .unset, .unset, .unset, .unset, .unset, .unset, .unset, .unset, .unset, .unset, .unset, .unset, .unset, .unset, .unset, .unset, .unset] [(.double fa)])) τ → PS τ := by
    by_cases q0 : fk = (0 : Int32)
    · skip
      have pre187 := fun (τ : State) kt => pre185 τ (by
        show Steps p.tables e below (s₁.setTop (mkF m 137 #[.val (.int aa), .val (.int gg), .val (.int d0), .val (.int m0), .val (.int f0), .val (.int k0), .val (.int hc), .val (.int fk), .val (.int lo), .val (.int uk), .val (.int oo), .val (.long vG), .second, .val (.long vD), .second, .val (.long vm), .second, .val (.long vF), .second, .val (.long vc), .second, .val (.int ((XT.ushr k0 (8 : Int32)) &&& (31 : Int32))), .val (.long vp), .second, .val (.double he), .second, .unset, .unset, .unset, .unset, .unset, .unset, .unset, .unset, .unset, .unset, .unset, .unset, .unset, .unset, .unset, .unset, .unset] [(.int fk)])) τ
        refine XS.ifNo X0.here hx rfl (Jvm.hb hby at_137) rfl ((if0 _ _).trans (teq q0).2) ?_
        refine own_dconst0 X0.here hx rfl (Jvm.hb hby at_140) ?_
        refine XS.goto X0.here hx rfl (pc0 := 141) (pc' := 159) rfl (Jvm.hb hby at_141) (by decide) (by decide) ?_
        exact kt)
      exact ⟨FP.dconst0, (if_pos q0).symm, pre187⟩
    · skip
      have pre188 := fun (τ : State) kt => pre185 τ (by
        show Steps p.tables e below (s₁.setTop (mkF m 137 #[.val (.int aa), .val (.int gg), .val (.int d0), .val (.int m0), .val (.int f0), .val (.int k0), .val (.int hc), .val (.int fk), .val (.int lo), .val (.int uk), .val (.int oo), .val (.long vG), .second, .val (.long vD), .second, .val (.long vm), .second, .val (.long vF), .second, .val (.long vc), .second, .val (.int ((XT.ushr k0 (8 : Int32)) &&& (31 : Int32))), .val (.long vp), .second, .val (.double he), .second, .unset, .unset, .unset, .unset, .unset, .unset, .unset, .unset, .unset, .unset, .unset, .unset, .unset, .unset, .unset, .unset, .unset] [(.int fk)])) τ
        refine XS.ifYes X0.here hx rfl (pc0 := 137) (pc' := 144) rfl (Jvm.hb hby at_137) rfl ((if0 _ _).trans (feq q0).2) (by decide) (by decide) ?_
        refine XS.iload X0.here hx rfl (Jvm.hb hby at_144) rfl ?_
        refine XS.iconst X0.here hx rfl (Jvm.hb hby at_146) ?_
        exact kt)
      by_cases q1 : fk = (1 : Int32)
      · skip
        have pre189 := fun (τ : State) kt => pre188 τ (by
          show Steps p.tables e below (s₁.setTop (mkF m 147 #[.val (.int aa), .val (.int gg), .val (.int d0), .val (.int m0), .val (.int f0), .val (.int k0), .val (.int hc), .val (.int fk), .val (.int lo), .val (.int uk), .val (.int oo), .val (.long vG), .second, .val (.long vD), .second, .val (.long vm), .second, .val (.long vF), .second, .val (.long vc), .second, .val (.int ((XT.ushr k0 (8 : Int32)) &&& (31 : Int32))), .val (.long vp), .second, .val (.double he), .second, .unset, .unset, .unset, .unset, .unset, .unset, .unset, .unset, .unset, .unset, .unset, .unset, .unset, .unset, .unset, .unset, .unset] [(.int (1 : Int32)), (.int fk)])) τ
          refine XS.icmpNo X0.here hx rfl (Jvm.hb hby at_147) rfl (teq q1).2 ?_
          refine X0.ldc2DoubleC hx hown (mvT hZ (own_W52 hw)) (g := (mkF m 150 #[.val (.int aa), .val (.int gg), .val (.int d0), .val (.int m0), .val (.int f0), .val (.int k0), .val (.int hc), .val (.int fk), .val (.int lo), .val (.int uk), .val (.int oo), .val (.long vG), .second, .val (.long vD), .second, .val (.long vm), .second, .val (.long vF), .second, .val (.long vc), .second, .val (.int ((XT.ushr k0 (8 : Int32)) &&& (31 : Int32))), .val (.long vp), .second, .val (.double he), .second, .unset, .unset, .unset, .unset, .unset, .unset, .unset, .unset, .unset, .unset, .unset, .unset, .unset, .unset, .unset, .unset, .unset] [])) rfl (Jvm.hb hby at_150) _ ?_
          refine XS.goto X0.here hx rfl (pc0 := 153) (pc' := 159) rfl (Jvm.hb hby at_153) (by decide) (by decide) ?_
          exact kt)
        exact ⟨(4602678819172646912 : UInt64), ((if_neg q0).trans (if_pos q1)).symm, pre189⟩
      · skip
        have pre190 := fun (τ : State) kt => pre188 τ (by
          show Steps p.tables e below (s₁.setTop (mkF m 147 #[.val (.int aa), .val (.int gg), .val (.int d0), .val (.int m0), .val (.int f0), .val (.int k0), .val (.int hc), .val (.int fk), .val (.int lo), .val (.int uk), .val (.int oo), .val (.long vG), .second, .val (.long vD), .second, .val (.long vm), .second, .val (.long vF), .second, .val (.long vc), .second, .val (.int ((XT.ushr k0 (8 : Int32)) &&& (31 : Int32))), .val (.long vp), .second, .val (.double he), .second, .unset, .unset, .unset, .unset, .unset, .unset, .unset, .unset, .unset, .unset, .unset, .unset, .unset, .unset, .unset, .unset, .unset] [(.int (1 : Int32)), (.int fk)])) τ
          refine XS.icmpYes X0.here hx rfl (pc0 := 147) (pc' := 156) rfl (Jvm.hb hby at_147) rfl (feq q1).2 (by decide) (by decide) ?_
          refine XT.lload X0.here hx rfl (Jvm.hb hby at_156) rfl ?_
          refine own_l2d X0.here hx rfl (Jvm.hb hby at_158) rfl ?_
          exact kt)
        exact ⟨(FP.l2d vF), ((if_neg q0).trans (if_neg q1)).symm, pre190⟩
  have pre191 := fun (τ : State) kt => pre186 τ (by
    show Steps p.tables e below (s₁.setTop (mkF m 159 #[.val (.int aa), .val (.int gg), .val (.int d0), .val (.int m0), .val (.int f0), .val (.int k0), .val (.int hc), .val (.int fk), .val (.int lo), .val (.int uk), .val (.int oo), .val (.long vG), .second, .val (.long vD), .second, .val (.long vm), .second, .val (.long vF), .second, .val (.long vc), .second, .val (.int ((XT.ushr k0 (8 : Int32)) &&& (31 : Int32))), .val (.long vp), .second, .val (.double he), .second, .unset, .unset, .unset, .unset, .unset, .unset, .unset, .unset, .unset, .unset, .unset, .unset, .unset, .unset, .unset, .unset, .unset] [(.double fa)])) τ
    refine own_dstore X0.here hx rfl (Jvm.hb hby at_159) rfl (l' := #[.val (.int aa), .val (.int gg), .val (.int d0), .val (.int m0), .val (.int f0), .val (.int k0), .val (.int hc), .val (.int fk), .val (.int lo), .val (.int uk), .val (.int oo), .val (.long vG), .second, .val (.long vD), .second, .val (.long vm), .second, .val (.long vF), .second, .val (.long vc), .second, .val (.int ((XT.ushr k0 (8 : Int32)) &&& (31 : Int32))), .val (.long vp), .second, .val (.double he), .second, .val (.double fa), .second, .unset, .unset, .unset, .unset, .unset, .unset, .unset, .unset, .unset, .unset, .unset, .unset, .unset, .unset, .unset]) rfl ?_
    refine XS.iload X0.here hx rfl (Jvm.hb hby at_161) rfl ?_
    exact kt)
  obtain ⟨li, hj192, pre192⟩ : ∃ (li : UInt64), (li = own_lim lo fk vF vm) ∧ ∀ τ, Steps p.tables e below (s₁.setTop (mkF m 176 #[.val (.int aa), .val (.int gg), .val (.int d0), .val (.int m0), .val (.int f0), .val (.int k0), .val (.int hc), .val (.int fk), .val (.int lo), .val (.int uk), .val (.int oo), .val (.long vG), .second, .val (.long vD), .second, .val (.long vm), .second, .val (.long vF), .second, .val (.long vc), .second, .val (.int ((XT.ushr k0 (8 : Int32)) &&& (31 : Int32))), .val (.long vp), .second, .val (.double he), .second, .val (.double fa), .second, .unset, .unset, .unset, .unset, .unset, .unset, .unset, .unset, .unset, .unset, .unset, .unset, .unset, .unset, .unset] [(.double li)])) τ → PS τ := by
    by_cases q0 : lo = (0 : Int32)
    · skip
      have pre193 := fun (τ : State) kt => pre191 τ (by
        show Steps p.tables e below (s₁.setTop (mkF m 163 #[.val (.int aa), .val (.int gg), .val (.int d0), .val (.int m0), .val (.int f0), .val (.int k0), .val (.int hc), .val (.int fk), .val (.int lo), .val (.int uk), .val (.int oo), .val (.long vG), .second, .val (.long vD), .second, .val (.long vm), .second, .val (.long vF), .second, .val (.long vc), .second, .val (.int ((XT.ushr k0 (8 : Int32)) &&& (31 : Int32))), .val (.long vp), .second, .val (.double he), .second, .val (.double fa), .second, .unset, .unset, .unset, .unset, .unset, .unset, .unset, .unset, .unset, .unset, .unset, .unset, .unset, .unset, .unset] [(.int lo)])) τ
        refine XS.ifYes X0.here hx rfl (pc0 := 163) (pc' := 175) rfl (Jvm.hb hby at_163) rfl ((if0 _ _).trans (teq q0).1) (by decide) (by decide) ?_
        refine own_dconst0 X0.here hx rfl (Jvm.hb hby at_175) ?_
        exact kt)
      exact ⟨FP.dconst0, (if_pos q0).symm, pre193⟩
    · skip
      have pre194 := fun (τ : State) kt => pre191 τ (by
        show Steps p.tables e below (s₁.setTop (mkF m 163 #[.val (.int aa), .val (.int gg), .val (.int d0), .val (.int m0), .val (.int f0), .val (.int k0), .val (.int hc), .val (.int fk), .val (.int lo), .val (.int uk), .val (.int oo), .val (.long vG), .second, .val (.long vD), .second, .val (.long vm), .second, .val (.long vF), .second, .val (.long vc), .second, .val (.int ((XT.ushr k0 (8 : Int32)) &&& (31 : Int32))), .val (.long vp), .second, .val (.double he), .second, .val (.double fa), .second, .unset, .unset, .unset, .unset, .unset, .unset, .unset, .unset, .unset, .unset, .unset, .unset, .unset, .unset, .unset] [(.int lo)])) τ
        refine XS.ifNo X0.here hx rfl (Jvm.hb hby at_163) rfl ((if0 _ _).trans (feq q0).1) ?_
        refine own_dload X0.here hx rfl (Jvm.hb hby at_166) rfl ?_
        refine XT.lload X0.here hx rfl (Jvm.hb hby at_168) rfl ?_
        refine own_l2d X0.here hx rfl (Jvm.hb hby at_170) rfl ?_
        refine own_dmul X0.here hx rfl (Jvm.hb hby at_171) rfl (by have := own_F_no (own_lim_f (lo := lo) (F := vF) (m := vm) hf4 b7 b8 b5 b6).1; unfold own_lim at this; rw [if_neg q0, ← hj186] at this; exact this) ?_
        refine XS.goto X0.here hx rfl (pc0 := 172) (pc' := 176) rfl (Jvm.hb hby at_172) (by decide) (by decide) ?_
        exact kt)
      exact ⟨(FP.dmul fa (FP.l2d vm)), (by rw [hj186]; exact (if_neg q0).symm), pre194⟩
  have pre195 := fun (τ : State) kt => pre192 τ (by
    show Steps p.tables e below (s₁.setTop (mkF m 176 #[.val (.int aa), .val (.int gg), .val (.int d0), .val (.int m0), .val (.int f0), .val (.int k0), .val (.int hc), .val (.int fk), .val (.int lo), .val (.int uk), .val (.int oo), .val (.long vG), .second, .val (.long vD), .second, .val (.long vm), .second, .val (.long vF), .second, .val (.long vc), .second, .val (.int ((XT.ushr k0 (8 : Int32)) &&& (31 : Int32))), .val (.long vp), .second, .val (.double he), .second, .val (.double fa), .second, .unset, .unset, .unset, .unset, .unset, .unset, .unset, .unset, .unset, .unset, .unset, .unset, .unset, .unset, .unset] [(.double li)])) τ
    refine own_dstore X0.here hx rfl (Jvm.hb hby at_176) rfl (l' := #[.val (.int aa), .val (.int gg), .val (.int d0), .val (.int m0), .val (.int f0), .val (.int k0), .val (.int hc), .val (.int fk), .val (.int lo), .val (.int uk), .val (.int oo), .val (.long vG), .second, .val (.long vD), .second, .val (.long vm), .second, .val (.long vF), .second, .val (.long vc), .second, .val (.int ((XT.ushr k0 (8 : Int32)) &&& (31 : Int32))), .val (.long vp), .second, .val (.double he), .second, .val (.double fa), .second, .val (.double li), .second, .unset, .unset, .unset, .unset, .unset, .unset, .unset, .unset, .unset, .unset, .unset, .unset, .unset]) rfl ?_
    refine XS.iload X0.here hx rfl (Jvm.hb hby at_178) rfl ?_
    refine XS.iconst X0.here hx rfl (Jvm.hb hby at_180) ?_
    exact kt)
  obtain ⟨cp, hj196, pre196⟩ : ∃ (cp : Int32), (cp = (0 : Int32) ↔ ¬ uk = 3) ∧ ∀ τ, Steps p.tables e below (s₁.setTop (mkF m 189 #[.val (.int aa), .val (.int gg), .val (.int d0), .val (.int m0), .val (.int f0), .val (.int k0), .val (.int hc), .val (.int fk), .val (.int lo), .val (.int uk), .val (.int oo), .val (.long vG), .second, .val (.long vD), .second, .val (.long vm), .second, .val (.long vF), .second, .val (.long vc), .second, .val (.int ((XT.ushr k0 (8 : Int32)) &&& (31 : Int32))), .val (.long vp), .second, .val (.double he), .second, .val (.double fa), .second, .val (.double li), .second, .unset, .unset, .unset, .unset, .unset, .unset, .unset, .unset, .unset, .unset, .unset, .unset, .unset] [(.int cp)])) τ → PS τ := by
    by_cases q : uk = (3 : Int32)
    · skip
      have pre197 := fun (τ : State) kt => pre195 τ (by
        show Steps p.tables e below (s₁.setTop (mkF m 181 #[.val (.int aa), .val (.int gg), .val (.int d0), .val (.int m0), .val (.int f0), .val (.int k0), .val (.int hc), .val (.int fk), .val (.int lo), .val (.int uk), .val (.int oo), .val (.long vG), .second, .val (.long vD), .second, .val (.long vm), .second, .val (.long vF), .second, .val (.long vc), .second, .val (.int ((XT.ushr k0 (8 : Int32)) &&& (31 : Int32))), .val (.long vp), .second, .val (.double he), .second, .val (.double fa), .second, .val (.double li), .second, .unset, .unset, .unset, .unset, .unset, .unset, .unset, .unset, .unset, .unset, .unset, .unset, .unset] [(.int (3 : Int32)), (.int uk)])) τ
        refine XS.icmpNo X0.here hx rfl (Jvm.hb hby at_181) rfl (teq q).2 ?_
        refine XS.iconst X0.here hx rfl (Jvm.hb hby at_184) ?_
        refine XS.goto X0.here hx rfl (pc0 := 185) (pc' := 189) rfl (Jvm.hb hby at_185) (by decide) (by decide) ?_
        exact kt)
      exact ⟨(1 : Int32), ⟨fun r => absurd r (by decide), fun r => absurd q r⟩, pre197⟩
    · skip
      have pre198 := fun (τ : State) kt => pre195 τ (by
        show Steps p.tables e below (s₁.setTop (mkF m 181 #[.val (.int aa), .val (.int gg), .val (.int d0), .val (.int m0), .val (.int f0), .val (.int k0), .val (.int hc), .val (.int fk), .val (.int lo), .val (.int uk), .val (.int oo), .val (.long vG), .second, .val (.long vD), .second, .val (.long vm), .second, .val (.long vF), .second, .val (.long vc), .second, .val (.int ((XT.ushr k0 (8 : Int32)) &&& (31 : Int32))), .val (.long vp), .second, .val (.double he), .second, .val (.double fa), .second, .val (.double li), .second, .unset, .unset, .unset, .unset, .unset, .unset, .unset, .unset, .unset, .unset, .unset, .unset, .unset] [(.int (3 : Int32)), (.int uk)])) τ
        refine XS.icmpYes X0.here hx rfl (pc0 := 181) (pc' := 188) rfl (Jvm.hb hby at_181) rfl (feq q).2 (by decide) (by decide) ?_
        refine XS.iconst X0.here hx rfl (Jvm.hb hby at_188) ?_
        exact kt)
      exact ⟨(0 : Int32), ⟨fun _ => q, fun _ => rfl⟩, pre198⟩
  have pre199 := fun (τ : State) kt => pre196 τ (by
    show Steps p.tables e below (s₁.setTop (mkF m 189 #[.val (.int aa), .val (.int gg), .val (.int d0), .val (.int m0), .val (.int f0), .val (.int k0), .val (.int hc), .val (.int fk), .val (.int lo), .val (.int uk), .val (.int oo), .val (.long vG), .second, .val (.long vD), .second, .val (.long vm), .second, .val (.long vF), .second, .val (.long vc), .second, .val (.int ((XT.ushr k0 (8 : Int32)) &&& (31 : Int32))), .val (.long vp), .second, .val (.double he), .second, .val (.double fa), .second, .val (.double li), .second, .unset, .unset, .unset, .unset, .unset, .unset, .unset, .unset, .unset, .unset, .unset, .unset, .unset] [(.int cp)])) τ
    refine XS.istore X0.here hx rfl (Jvm.hb hby at_189) rfl (l' := #[.val (.int aa), .val (.int gg), .val (.int d0), .val (.int m0), .val (.int f0), .val (.int k0), .val (.int hc), .val (.int fk), .val (.int lo), .val (.int uk), .val (.int oo), .val (.long vG), .second, .val (.long vD), .second, .val (.long vm), .second, .val (.long vF), .second, .val (.long vc), .second, .val (.int ((XT.ushr k0 (8 : Int32)) &&& (31 : Int32))), .val (.long vp), .second, .val (.double he), .second, .val (.double fa), .second, .val (.double li), .second, .val (.int cp), .unset, .unset, .unset, .unset, .unset, .unset, .unset, .unset, .unset, .unset, .unset, .unset]) rfl ?_
    refine XS.iload X0.here hx rfl (Jvm.hb hby at_191) rfl ?_
    exact kt)
  obtain ⟨us, hj200, pre200⟩ : ∃ (us : UInt64), (us = own_used uk vG vD (d0 &&& (65535 : Int32)).toInt64) ∧ ∀ τ, Steps p.tables e below (s₁.setTop (mkF m 232 #[.val (.int aa), .val (.int gg), .val (.int d0), .val (.int m0), .val (.int f0), .val (.int k0), .val (.int hc), .val (.int fk), .val (.int lo), .val (.int uk), .val (.int oo), .val (.long vG), .second, .val (.long vD), .second, .val (.long vm), .second, .val (.long vF), .second, .val (.long vc), .second, .val (.int ((XT.ushr k0 (8 : Int32)) &&& (31 : Int32))), .val (.long vp), .second, .val (.double he), .second, .val (.double fa), .second, .val (.double li), .second, .val (.int cp), .unset, .unset, .unset, .unset, .unset, .unset, .unset, .unset, .unset, .unset, .unset, .unset] [(.double us)])) τ → PS τ := by
    by_cases q0 : uk = (0 : Int32)
    · skip
      have pre201 := fun (τ : State) kt => pre199 τ (by
        show Steps p.tables e below (s₁.setTop (mkF m 193 #[.val (.int aa), .val (.int gg), .val (.int d0), .val (.int m0), .val (.int f0), .val (.int k0), .val (.int hc), .val (.int fk), .val (.int lo), .val (.int uk), .val (.int oo), .val (.long vG), .second, .val (.long vD), .second, .val (.long vm), .second, .val (.long vF), .second, .val (.long vc), .second, .val (.int ((XT.ushr k0 (8 : Int32)) &&& (31 : Int32))), .val (.long vp), .second, .val (.double he), .second, .val (.double fa), .second, .val (.double li), .second, .val (.int cp), .unset, .unset, .unset, .unset, .unset, .unset, .unset, .unset, .unset, .unset, .unset, .unset] [(.int uk)])) τ
        refine XS.ifNo X0.here hx rfl (Jvm.hb hby at_193) rfl ((if0 _ _).trans (teq q0).2) ?_
        refine own_dconst0 X0.here hx rfl (Jvm.hb hby at_196) ?_
        refine XS.goto X0.here hx rfl (pc0 := 197) (pc' := 232) rfl (Jvm.hb hby at_197) (by decide) (by decide) ?_
        exact kt)
      exact ⟨FP.dconst0, (if_pos q0).symm, pre201⟩
    · skip
      have pre202 := fun (τ : State) kt => pre199 τ (by
        show Steps p.tables e below (s₁.setTop (mkF m 193 #[.val (.int aa), .val (.int gg), .val (.int d0), .val (.int m0), .val (.int f0), .val (.int k0), .val (.int hc), .val (.int fk), .val (.int lo), .val (.int uk), .val (.int oo), .val (.long vG), .second, .val (.long vD), .second, .val (.long vm), .second, .val (.long vF), .second, .val (.long vc), .second, .val (.int ((XT.ushr k0 (8 : Int32)) &&& (31 : Int32))), .val (.long vp), .second, .val (.double he), .second, .val (.double fa), .second, .val (.double li), .second, .val (.int cp), .unset, .unset, .unset, .unset, .unset, .unset, .unset, .unset, .unset, .unset, .unset, .unset] [(.int uk)])) τ
        refine XS.ifYes X0.here hx rfl (pc0 := 193) (pc' := 200) rfl (Jvm.hb hby at_193) rfl ((if0 _ _).trans (feq q0).2) (by decide) (by decide) ?_
        refine XS.iload X0.here hx rfl (Jvm.hb hby at_200) rfl ?_
        refine XS.iconst X0.here hx rfl (Jvm.hb hby at_202) ?_
        exact kt)
      by_cases q1 : uk = (1 : Int32)
      · skip
        have pre203 := fun (τ : State) kt => pre202 τ (by
          show Steps p.tables e below (s₁.setTop (mkF m 203 #[.val (.int aa), .val (.int gg), .val (.int d0), .val (.int m0), .val (.int f0), .val (.int k0), .val (.int hc), .val (.int fk), .val (.int lo), .val (.int uk), .val (.int oo), .val (.long vG), .second, .val (.long vD), .second, .val (.long vm), .second, .val (.long vF), .second, .val (.long vc), .second, .val (.int ((XT.ushr k0 (8 : Int32)) &&& (31 : Int32))), .val (.long vp), .second, .val (.double he), .second, .val (.double fa), .second, .val (.double li), .second, .val (.int cp), .unset, .unset, .unset, .unset, .unset, .unset, .unset, .unset, .unset, .unset, .unset, .unset] [(.int (1 : Int32)), (.int uk)])) τ
          refine XS.icmpNo X0.here hx rfl (Jvm.hb hby at_203) rfl (teq q1).2 ?_
          refine X0.ldc2DoubleC hx hown (mvT hZ (own_W52 hw)) (g := (mkF m 206 #[.val (.int aa), .val (.int gg), .val (.int d0), .val (.int m0), .val (.int f0), .val (.int k0), .val (.int hc), .val (.int fk), .val (.int lo), .val (.int uk), .val (.int oo), .val (.long vG), .second, .val (.long vD), .second, .val (.long vm), .second, .val (.long vF), .second, .val (.long vc), .second, .val (.int ((XT.ushr k0 (8 : Int32)) &&& (31 : Int32))), .val (.long vp), .second, .val (.double he), .second, .val (.double fa), .second, .val (.double li), .second, .val (.int cp), .unset, .unset, .unset, .unset, .unset, .unset, .unset, .unset, .unset, .unset, .unset, .unset] [])) rfl (Jvm.hb hby at_206) _ ?_
          refine XS.goto X0.here hx rfl (pc0 := 209) (pc' := 232) rfl (Jvm.hb hby at_209) (by decide) (by decide) ?_
          exact kt)
        exact ⟨(4602678819172646912 : UInt64), ((if_neg q0).trans (if_pos q1)).symm, pre203⟩
      · skip
        have pre204 := fun (τ : State) kt => pre202 τ (by
          show Steps p.tables e below (s₁.setTop (mkF m 203 #[.val (.int aa), .val (.int gg), .val (.int d0), .val (.int m0), .val (.int f0), .val (.int k0), .val (.int hc), .val (.int fk), .val (.int lo), .val (.int uk), .val (.int oo), .val (.long vG), .second, .val (.long vD), .second, .val (.long vm), .second, .val (.long vF), .second, .val (.long vc), .second, .val (.int ((XT.ushr k0 (8 : Int32)) &&& (31 : Int32))), .val (.long vp), .second, .val (.double he), .second, .val (.double fa), .second, .val (.double li), .second, .val (.int cp), .unset, .unset, .unset, .unset, .unset, .unset, .unset, .unset, .unset, .unset, .unset, .unset] [(.int (1 : Int32)), (.int uk)])) τ
          refine XS.icmpYes X0.here hx rfl (pc0 := 203) (pc' := 212) rfl (Jvm.hb hby at_203) rfl (feq q1).2 (by decide) (by decide) ?_
          refine XS.iload X0.here hx rfl (Jvm.hb hby at_212) rfl ?_
          exact kt)
        by_cases q2 : cp = (0 : Int32)
        · skip
          have pre205 := fun (τ : State) kt => pre204 τ (by
            show Steps p.tables e below (s₁.setTop (mkF m 214 #[.val (.int aa), .val (.int gg), .val (.int d0), .val (.int m0), .val (.int f0), .val (.int k0), .val (.int hc), .val (.int fk), .val (.int lo), .val (.int uk), .val (.int oo), .val (.long vG), .second, .val (.long vD), .second, .val (.long vm), .second, .val (.long vF), .second, .val (.long vc), .second, .val (.int ((XT.ushr k0 (8 : Int32)) &&& (31 : Int32))), .val (.long vp), .second, .val (.double he), .second, .val (.double fa), .second, .val (.double li), .second, .val (.int cp), .unset, .unset, .unset, .unset, .unset, .unset, .unset, .unset, .unset, .unset, .unset, .unset] [(.int cp)])) τ
            refine XS.ifYes X0.here hx rfl (pc0 := 214) (pc' := 229) rfl (Jvm.hb hby at_214) rfl ((if0 _ _).trans (teq q2).1) (by decide) (by decide) ?_
            refine XT.lload X0.here hx rfl (Jvm.hb hby at_229) rfl ?_
            refine own_l2d X0.here hx rfl (Jvm.hb hby at_231) rfl ?_
            exact kt)
          exact ⟨(FP.l2d vD), ((if_neg q0).trans ((if_neg q1).trans (if_neg (hj196.mp q2)))).symm, pre205⟩
        · skip
          have pre206 := fun (τ : State) kt => pre204 τ (by
            show Steps p.tables e below (s₁.setTop (mkF m 214 #[.val (.int aa), .val (.int gg), .val (.int d0), .val (.int m0), .val (.int f0), .val (.int k0), .val (.int hc), .val (.int fk), .val (.int lo), .val (.int uk), .val (.int oo), .val (.long vG), .second, .val (.long vD), .second, .val (.long vm), .second, .val (.long vF), .second, .val (.long vc), .second, .val (.int ((XT.ushr k0 (8 : Int32)) &&& (31 : Int32))), .val (.long vp), .second, .val (.double he), .second, .val (.double fa), .second, .val (.double li), .second, .val (.int cp), .unset, .unset, .unset, .unset, .unset, .unset, .unset, .unset, .unset, .unset, .unset, .unset] [(.int cp)])) τ
            refine XS.ifNo X0.here hx rfl (Jvm.hb hby at_214) rfl ((if0 _ _).trans (feq q2).1) ?_
            refine XT.lload X0.here hx rfl (Jvm.hb hby at_217) rfl ?_
            refine XS.iloadN X0.here hx rfl (Jvm.hb hby at_219) rfl ?_
            refine X0.ldcInt hx hown (mvT hZ (own_W0 hw)) (g := (mkF m 220 #[.val (.int aa), .val (.int gg), .val (.int d0), .val (.int m0), .val (.int f0), .val (.int k0), .val (.int hc), .val (.int fk), .val (.int lo), .val (.int uk), .val (.int oo), .val (.long vG), .second, .val (.long vD), .second, .val (.long vm), .second, .val (.long vF), .second, .val (.long vc), .second, .val (.int ((XT.ushr k0 (8 : Int32)) &&& (31 : Int32))), .val (.long vp), .second, .val (.double he), .second, .val (.double fa), .second, .val (.double li), .second, .val (.int cp), .unset, .unset, .unset, .unset, .unset, .unset, .unset, .unset, .unset, .unset, .unset, .unset] [(.int d0), (.long vG)])) rfl (Jvm.hb hby at_220) _ ?_
            refine XS.iand X0.here hx rfl (Jvm.hb hby at_222) rfl ?_
            refine XT.i2l X0.here hx rfl (Jvm.hb hby at_223) rfl ?_
            refine XT.ladd X0.here hx rfl (Jvm.hb hby at_224) rfl ?_
            refine own_l2d X0.here hx rfl (Jvm.hb hby at_225) rfl ?_
            refine XS.goto X0.here hx rfl (pc0 := 226) (pc' := 232) rfl (Jvm.hb hby at_226) (by decide) (by decide) ?_
            exact kt)
          exact ⟨(FP.l2d (vG + ((d0 &&& (65535 : Int32))).toInt64)), ((if_neg q0).trans ((if_neg q1).trans (if_pos (Decidable.of_not_not fun r => q2 (hj196.mpr r))))).symm, pre206⟩
  have pre207 := fun (τ : State) kt => pre200 τ (by
    show Steps p.tables e below (s₁.setTop (mkF m 232 #[.val (.int aa), .val (.int gg), .val (.int d0), .val (.int m0), .val (.int f0), .val (.int k0), .val (.int hc), .val (.int fk), .val (.int lo), .val (.int uk), .val (.int oo), .val (.long vG), .second, .val (.long vD), .second, .val (.long vm), .second, .val (.long vF), .second, .val (.long vc), .second, .val (.int ((XT.ushr k0 (8 : Int32)) &&& (31 : Int32))), .val (.long vp), .second, .val (.double he), .second, .val (.double fa), .second, .val (.double li), .second, .val (.int cp), .unset, .unset, .unset, .unset, .unset, .unset, .unset, .unset, .unset, .unset, .unset, .unset] [(.double us)])) τ
    refine own_dstore X0.here hx rfl (Jvm.hb hby at_232) rfl (l' := #[.val (.int aa), .val (.int gg), .val (.int d0), .val (.int m0), .val (.int f0), .val (.int k0), .val (.int hc), .val (.int fk), .val (.int lo), .val (.int uk), .val (.int oo), .val (.long vG), .second, .val (.long vD), .second, .val (.long vm), .second, .val (.long vF), .second, .val (.long vc), .second, .val (.int ((XT.ushr k0 (8 : Int32)) &&& (31 : Int32))), .val (.long vp), .second, .val (.double he), .second, .val (.double fa), .second, .val (.double li), .second, .val (.int cp), .val (.double us), .second, .unset, .unset, .unset, .unset, .unset, .unset, .unset, .unset, .unset, .unset]) rfl ?_
    refine XS.iload X0.here hx rfl (Jvm.hb hby at_234) rfl ?_
    exact kt)
  obtain ⟨ot, hj208, pre208⟩ : ∃ (ot : UInt64), (ot = own_oth oo uk vG vD vm vc vp) ∧ ∀ τ, Steps p.tables e below (s₁.setTop (mkF m 270 #[.val (.int aa), .val (.int gg), .val (.int d0), .val (.int m0), .val (.int f0), .val (.int k0), .val (.int hc), .val (.int fk), .val (.int lo), .val (.int uk), .val (.int oo), .val (.long vG), .second, .val (.long vD), .second, .val (.long vm), .second, .val (.long vF), .second, .val (.long vc), .second, .val (.int ((XT.ushr k0 (8 : Int32)) &&& (31 : Int32))), .val (.long vp), .second, .val (.double he), .second, .val (.double fa), .second, .val (.double li), .second, .val (.int cp), .val (.double us), .second, .unset, .unset, .unset, .unset, .unset, .unset, .unset, .unset, .unset, .unset] [(.double ot)])) τ → PS τ := by
    by_cases q0 : oo = (0 : Int32)
    · skip
      have pre209 := fun (τ : State) kt => pre207 τ (by
        show Steps p.tables e below (s₁.setTop (mkF m 236 #[.val (.int aa), .val (.int gg), .val (.int d0), .val (.int m0), .val (.int f0), .val (.int k0), .val (.int hc), .val (.int fk), .val (.int lo), .val (.int uk), .val (.int oo), .val (.long vG), .second, .val (.long vD), .second, .val (.long vm), .second, .val (.long vF), .second, .val (.long vc), .second, .val (.int ((XT.ushr k0 (8 : Int32)) &&& (31 : Int32))), .val (.long vp), .second, .val (.double he), .second, .val (.double fa), .second, .val (.double li), .second, .val (.int cp), .val (.double us), .second, .unset, .unset, .unset, .unset, .unset, .unset, .unset, .unset, .unset, .unset] [(.int oo)])) τ
        refine XS.ifNo X0.here hx rfl (Jvm.hb hby at_236) rfl ((if0 _ _).trans (teq q0).2) ?_
        refine own_dconst0 X0.here hx rfl (Jvm.hb hby at_239) ?_
        refine XS.goto X0.here hx rfl (pc0 := 240) (pc' := 270) rfl (Jvm.hb hby at_240) (by decide) (by decide) ?_
        exact kt)
      exact ⟨FP.dconst0, (if_pos q0).symm, pre209⟩
    · skip
      have pre210 := fun (τ : State) kt => pre207 τ (by
        show Steps p.tables e below (s₁.setTop (mkF m 236 #[.val (.int aa), .val (.int gg), .val (.int d0), .val (.int m0), .val (.int f0), .val (.int k0), .val (.int hc), .val (.int fk), .val (.int lo), .val (.int uk), .val (.int oo), .val (.long vG), .second, .val (.long vD), .second, .val (.long vm), .second, .val (.long vF), .second, .val (.long vc), .second, .val (.int ((XT.ushr k0 (8 : Int32)) &&& (31 : Int32))), .val (.long vp), .second, .val (.double he), .second, .val (.double fa), .second, .val (.double li), .second, .val (.int cp), .val (.double us), .second, .unset, .unset, .unset, .unset, .unset, .unset, .unset, .unset, .unset, .unset] [(.int oo)])) τ
        refine XS.ifYes X0.here hx rfl (pc0 := 236) (pc' := 243) rfl (Jvm.hb hby at_236) rfl ((if0 _ _).trans (feq q0).2) (by decide) (by decide) ?_
        refine XS.iload X0.here hx rfl (Jvm.hb hby at_243) rfl ?_
        exact kt)
      by_cases q1 : cp = (0 : Int32)
      · skip
        have pre211 := fun (τ : State) kt => pre210 τ (by
          show Steps p.tables e below (s₁.setTop (mkF m 245 #[.val (.int aa), .val (.int gg), .val (.int d0), .val (.int m0), .val (.int f0), .val (.int k0), .val (.int hc), .val (.int fk), .val (.int lo), .val (.int uk), .val (.int oo), .val (.long vG), .second, .val (.long vD), .second, .val (.long vm), .second, .val (.long vF), .second, .val (.long vc), .second, .val (.int ((XT.ushr k0 (8 : Int32)) &&& (31 : Int32))), .val (.long vp), .second, .val (.double he), .second, .val (.double fa), .second, .val (.double li), .second, .val (.int cp), .val (.double us), .second, .unset, .unset, .unset, .unset, .unset, .unset, .unset, .unset, .unset, .unset] [(.int cp)])) τ
          refine XS.ifYes X0.here hx rfl (pc0 := 245) (pc' := 257) rfl (Jvm.hb hby at_245) rfl ((if0 _ _).trans (teq q1).1) (by decide) (by decide) ?_
          refine XT.lload X0.here hx rfl (Jvm.hb hby at_257) rfl ?_
          refine XT.lload X0.here hx rfl (Jvm.hb hby at_259) rfl ?_
          refine XT.lsub X0.here hx rfl (Jvm.hb hby at_261) rfl ?_
          refine XT.lload X0.here hx rfl (Jvm.hb hby at_262) rfl ?_
          refine XT.lmul X0.here hx rfl (Jvm.hb hby at_264) rfl ?_
          refine own_l2d X0.here hx rfl (Jvm.hb hby at_265) rfl ?_
          refine XT.lload X0.here hx rfl (Jvm.hb hby at_266) rfl ?_
          refine own_l2d X0.here hx rfl (Jvm.hb hby at_268) rfl ?_
          refine own_ddiv X0.here hx rfl (Jvm.hb hby at_269) rfl (by have := own_F_no (own_oth_f (oo := oo) (uk := uk) (m := vm) b1 b2 b3 b4 b5 b6 b9 b10 b11 b12).1; unfold own_oth at this; rw [if_neg q0, if_neg (hj196.mp q1)] at this; exact this) ?_
          exact kt)
        exact ⟨(FP.ddiv (FP.l2d ((vG - vD) * vc)) (FP.l2d vp)), ((if_neg q0).trans (if_neg (hj196.mp q1))).symm, pre211⟩
      · skip
        have pre212 := fun (τ : State) kt => pre210 τ (by
          show Steps p.tables e below (s₁.setTop (mkF m 245 #[.val (.int aa), .val (.int gg), .val (.int d0), .val (.int m0), .val (.int f0), .val (.int k0), .val (.int hc), .val (.int fk), .val (.int lo), .val (.int uk), .val (.int oo), .val (.long vG), .second, .val (.long vD), .second, .val (.long vm), .second, .val (.long vF), .second, .val (.long vc), .second, .val (.int ((XT.ushr k0 (8 : Int32)) &&& (31 : Int32))), .val (.long vp), .second, .val (.double he), .second, .val (.double fa), .second, .val (.double li), .second, .val (.int cp), .val (.double us), .second, .unset, .unset, .unset, .unset, .unset, .unset, .unset, .unset, .unset, .unset] [(.int cp)])) τ
          refine XS.ifNo X0.here hx rfl (Jvm.hb hby at_245) rfl ((if0 _ _).trans (feq q1).1) ?_
          refine XT.lload X0.here hx rfl (Jvm.hb hby at_248) rfl ?_
          refine XT.lload X0.here hx rfl (Jvm.hb hby at_250) rfl ?_
          refine XT.lmul X0.here hx rfl (Jvm.hb hby at_252) rfl ?_
          refine own_l2d X0.here hx rfl (Jvm.hb hby at_253) rfl ?_
          refine XS.goto X0.here hx rfl (pc0 := 254) (pc' := 270) rfl (Jvm.hb hby at_254) (by decide) (by decide) ?_
          exact kt)
        exact ⟨(FP.l2d (vm * vG)), ((if_neg q0).trans (if_pos (Decidable.of_not_not fun r => q1 (hj196.mpr r)))).symm, pre212⟩
  have e_he' : he = own_he hc := e_he
  obtain ⟨⟨n1, n2, n3, n4, n5⟩, -⟩ := own_main (w := own_wt li us fa he ot (FP.l2d vG)) hB hh4 hf4 hu4 hj192 hj200 hj186 e_he' hj208 rfl rfl
  obtain ⟨T213, h213, X213, e213, E213, A213, D213, -, st213⟩ := newO X0 hx hZ hown (own_W5 hw) (own_W6 hw) (own_W7 hw) e0 (g := (mkF m 272 #[.val (.int aa), .val (.int gg), .val (.int d0), .val (.int m0), .val (.int f0), .val (.int k0), .val (.int hc), .val (.int fk), .val (.int lo), .val (.int uk), .val (.int oo), .val (.long vG), .second, .val (.long vD), .second, .val (.long vm), .second, .val (.long vF), .second, .val (.long vc), .second, .val (.int ((XT.ushr k0 (8 : Int32)) &&& (31 : Int32))), .val (.long vp), .second, .val (.double he), .second, .val (.double fa), .second, .val (.double li), .second, .val (.int cp), .val (.double us), .second, .val (.double ot), .second, .unset, .unset, .unset, .unset, .unset, .unset, .unset, .unset] [])) rfl (Jvm.hb hby at_272) (by decide) (by decide)
  obtain ⟨mo, g213⟩ : ∃ z, z = h0.size := ⟨_, rfl⟩
  rw [← g213] at A213 D213 st213
  have g_mo : n0 ≤ mo := Nat.le_trans (Nat.le_trans Z0 KK0.1) (Nat.le_of_eq g213.symm)
  have sz_mo : h0.size ≤ mo := Nat.le_trans KK0.1 (Nat.le_of_eq g213.symm)
  have K213 : Keep h0 h213 [] := KK0.ext E213
  have F_limit_mo : Fld Z h213 mo "com/example/meter/meter/demand/Measure" "limit" "D" (.double (0 : UInt64)) := D213 (Or.inr (own_W20 hw)) (ty := .double) (by decide)
  have F_used_mo : Fld Z h213 mo "com/example/meter/meter/demand/Measure" "used" "D" (.double (0 : UInt64)) := D213 (Or.inr (own_W22 hw)) (ty := .double) (by decide)
  have F_fastest_mo : Fld Z h213 mo "com/example/meter/meter/demand/Measure" "fastest" "D" (.double (0 : UInt64)) := D213 (Or.inr (own_W24 hw)) (ty := .double) (by decide)
  have F_held_mo : Fld Z h213 mo "com/example/meter/meter/demand/Measure" "held" "D" (.double (0 : UInt64)) := D213 (Or.inr (own_W26 hw)) (ty := .double) (by decide)
  have pre214 := fun (τ : State) kt => pre208 τ (by
    show Steps p.tables e below (s₁.setTop (mkF m 270 #[.val (.int aa), .val (.int gg), .val (.int d0), .val (.int m0), .val (.int f0), .val (.int k0), .val (.int hc), .val (.int fk), .val (.int lo), .val (.int uk), .val (.int oo), .val (.long vG), .second, .val (.long vD), .second, .val (.long vm), .second, .val (.long vF), .second, .val (.long vc), .second, .val (.int ((XT.ushr k0 (8 : Int32)) &&& (31 : Int32))), .val (.long vp), .second, .val (.double he), .second, .val (.double fa), .second, .val (.double li), .second, .val (.int cp), .val (.double us), .second, .unset, .unset, .unset, .unset, .unset, .unset, .unset, .unset, .unset, .unset] [(.double ot)])) τ
    refine own_dstore X0.here hx rfl (Jvm.hb hby at_270) rfl (l' := #[.val (.int aa), .val (.int gg), .val (.int d0), .val (.int m0), .val (.int f0), .val (.int k0), .val (.int hc), .val (.int fk), .val (.int lo), .val (.int uk), .val (.int oo), .val (.long vG), .second, .val (.long vD), .second, .val (.long vm), .second, .val (.long vF), .second, .val (.long vc), .second, .val (.int ((XT.ushr k0 (8 : Int32)) &&& (31 : Int32))), .val (.long vp), .second, .val (.double he), .second, .val (.double fa), .second, .val (.double li), .second, .val (.int cp), .val (.double us), .second, .val (.double ot), .second, .unset, .unset, .unset, .unset, .unset, .unset, .unset, .unset]) rfl ?_
    exact st213 τ kt)
  obtain ⟨_, T215, L215, X215, ⟨rfl, Nq215, Kq215, z_limit, z_used, z_fastest, z_held⟩, st215⟩ := own_spec (y := own_mn5) (b := mo) X213 hx hZ rfl hown (own_W8 hw) (own_W9 hw) (by decide) (rmM l Z a0 hw [] mo li us fa he h213 n0 (Nat.le_trans Z0 K213.1) A213 F_limit_mo F_used_mo F_fastest_mo F_held_mo g_mo) (own_W10 hw) (own_W7 hw) 1 (by decide) (by decide) e213 (mkF m 284 #[.val (.int aa), .val (.int gg), .val (.int d0), .val (.int m0), .val (.int f0), .val (.int k0), .val (.int hc), .val (.int fk), .val (.int lo), .val (.int uk), .val (.int oo), .val (.long vG), .second, .val (.long vD), .second, .val (.long vm), .second, .val (.long vF), .second, .val (.long vc), .second, .val (.int ((XT.ushr k0 (8 : Int32)) &&& (31 : Int32))), .val (.long vp), .second, .val (.double he), .second, .val (.double fa), .second, .val (.double li), .second, .val (.int cp), .val (.double us), .second, .val (.double ot), .second, .unset, .unset, .unset, .unset, .unset, .unset, .unset, .unset] [(.double he), (.double fa), (.double us), (.double li), (.ref mo), (.ref mo)]) rfl (by rw [hml]; rfl) [(.double li), (.double us), (.double fa), (.double he)] [(.ref mo)] rfl (lenOf own_pd__DDDD_V rfl) rfl (Nat.le_refl _) (Jvm.hb hby at_284) (by decide) (by decide)
  have N215 := Fr.app N0 Nq215
  have K215 : Keep h0 T215.heap [] := K213.trans Kq215 (allS (Or.inr sz_mo) (all0))
  have pre216 := fun (τ : State) kt => pre214 τ (by
    show Steps p.tables e below (T213.setTop (mkF m 275 #[.val (.int aa), .val (.int gg), .val (.int d0), .val (.int m0), .val (.int f0), .val (.int k0), .val (.int hc), .val (.int fk), .val (.int lo), .val (.int uk), .val (.int oo), .val (.long vG), .second, .val (.long vD), .second, .val (.long vm), .second, .val (.long vF), .second, .val (.long vc), .second, .val (.int ((XT.ushr k0 (8 : Int32)) &&& (31 : Int32))), .val (.long vp), .second, .val (.double he), .second, .val (.double fa), .second, .val (.double li), .second, .val (.int cp), .val (.double us), .second, .val (.double ot), .second, .unset, .unset, .unset, .unset, .unset, .unset, .unset, .unset] [(.ref mo)])) τ
    refine XS.dup X213.here hx rfl (Jvm.hb hby at_275) rfl rfl ?_
    refine own_dload X213.here hx rfl (Jvm.hb hby at_276) rfl ?_
    refine own_dload X213.here hx rfl (Jvm.hb hby at_278) rfl ?_
    refine own_dload X213.here hx rfl (Jvm.hb hby at_280) rfl ?_
    refine own_dload X213.here hx rfl (Jvm.hb hby at_282) rfl ?_
    exact st215 τ kt)
  have f217 := A213.keep Kq215
  obtain ⟨_, T218, L218, X218, ⟨rfl, Nq218, eq218⟩, st218⟩ := own_stat (y := own_mn6) X215 hx hZ hown (own_W27 hw) (own_W28 hw) (by decide) (rmW l Z a0 hw [] mo ot (FP.l2d vG) li us fa he T215.heap n0 (Nat.le_trans Z0 K215.1) f217 z_limit z_used z_fastest z_held n1 n2 n3 n4 n5) (own_W30 hw) (own_W29 hw) 0 (by decide) (by decide) rfl (mkF m 292 #[.val (.int aa), .val (.int gg), .val (.int d0), .val (.int m0), .val (.int f0), .val (.int k0), .val (.int hc), .val (.int fk), .val (.int lo), .val (.int uk), .val (.int oo), .val (.long vG), .second, .val (.long vD), .second, .val (.long vm), .second, .val (.long vF), .second, .val (.long vc), .second, .val (.int ((XT.ushr k0 (8 : Int32)) &&& (31 : Int32))), .val (.long vp), .second, .val (.double he), .second, .val (.double fa), .second, .val (.double li), .second, .val (.int cp), .val (.double us), .second, .val (.double ot), .second, .unset, .unset, .unset, .unset, .unset, .unset, .unset, .unset] [(.double (FP.l2d vG)), (.double ot), (.ref mo)]) rfl (by rw [hml]; rfl) [(.ref mo), (.double ot), (.double (FP.l2d vG))] [] rfl (lenOf own_pd__Lcom_example_meter_meter_demand_Measure_DD_D rfl) rfl (Nat.le_refl _) (Jvm.hb hby at_292) (by decide) (by decide)
  have N218 := Fr.app N215 Nq218
  have pre219 := fun (τ : State) kt => pre216 τ (by
    show Steps p.tables e below (T215.setTop (mkF m 287 #[.val (.int aa), .val (.int gg), .val (.int d0), .val (.int m0), .val (.int f0), .val (.int k0), .val (.int hc), .val (.int fk), .val (.int lo), .val (.int uk), .val (.int oo), .val (.long vG), .second, .val (.long vD), .second, .val (.long vm), .second, .val (.long vF), .second, .val (.long vc), .second, .val (.int ((XT.ushr k0 (8 : Int32)) &&& (31 : Int32))), .val (.long vp), .second, .val (.double he), .second, .val (.double fa), .second, .val (.double li), .second, .val (.int cp), .val (.double us), .second, .val (.double ot), .second, .unset, .unset, .unset, .unset, .unset, .unset, .unset, .unset] [(.ref mo)])) τ
    refine own_dload X215.here hx rfl (Jvm.hb hby at_287) rfl ?_
    refine XT.lload X215.here hx rfl (Jvm.hb hby at_289) rfl ?_
    refine own_l2d X215.here hx rfl (Jvm.hb hby at_291) rfl ?_
    exact st218 τ kt)
  obtain ⟨ww, e_ww⟩ : ∃ z : UInt64, z = (own_wt li us fa he ot (FP.l2d vG)) := ⟨_, rfl⟩
  have pre220 : ∀ τ, Steps p.tables e below (T218.setTop (mkF m 295 #[.val (.int aa), .val (.int gg), .val (.int d0), .val (.int m0), .val (.int f0), .val (.int k0), .val (.int hc), .val (.int fk), .val (.int lo), .val (.int uk), .val (.int oo), .val (.long vG), .second, .val (.long vD), .second, .val (.long vm), .second, .val (.long vF), .second, .val (.long vc), .second, .val (.int ((XT.ushr k0 (8 : Int32)) &&& (31 : Int32))), .val (.long vp), .second, .val (.double he), .second, .val (.double fa), .second, .val (.double li), .second, .val (.int cp), .val (.double us), .second, .val (.double ot), .second, .unset, .unset, .unset, .unset, .unset, .unset, .unset, .unset] [(.double ww)])) τ → PS τ := by rw [e_ww]; exact pre219
  obtain ⟨-, R1, R2, R3, R4⟩ := own_main hB hh4 hf4 hu4 hj192 hj200 hj186 e_he' hj208 rfl e_ww
  have pre221 := fun (τ : State) kt => pre220 τ (by
    show Steps p.tables e below (T218.setTop (mkF m 295 #[.val (.int aa), .val (.int gg), .val (.int d0), .val (.int m0), .val (.int f0), .val (.int k0), .val (.int hc), .val (.int fk), .val (.int lo), .val (.int uk), .val (.int oo), .val (.long vG), .second, .val (.long vD), .second, .val (.long vm), .second, .val (.long vF), .second, .val (.long vc), .second, .val (.int ((XT.ushr k0 (8 : Int32)) &&& (31 : Int32))), .val (.long vp), .second, .val (.double he), .second, .val (.double fa), .second, .val (.double li), .second, .val (.int cp), .val (.double us), .second, .val (.double ot), .second, .unset, .unset, .unset, .unset, .unset, .unset, .unset, .unset] [(.double ww)])) τ
    refine own_dstore X218.here hx rfl (Jvm.hb hby at_295) rfl (l' := #[.val (.int aa), .val (.int gg), .val (.int d0), .val (.int m0), .val (.int f0), .val (.int k0), .val (.int hc), .val (.int fk), .val (.int lo), .val (.int uk), .val (.int oo), .val (.long vG), .second, .val (.long vD), .second, .val (.long vm), .second, .val (.long vF), .second, .val (.long vc), .second, .val (.int ((XT.ushr k0 (8 : Int32)) &&& (31 : Int32))), .val (.long vp), .second, .val (.double he), .second, .val (.double fa), .second, .val (.double li), .second, .val (.int cp), .val (.double us), .second, .val (.double ot), .second, .val (.double ww), .second, .unset, .unset, .unset, .unset, .unset, .unset]) rfl ?_
    refine XS.iload X218.here hx rfl (Jvm.hb hby at_297) rfl ?_
    refine XS.iconst X218.here hx rfl (Jvm.hb hby at_299) ?_
    exact kt)
  obtain ⟨ct, hj222, pre222⟩ : ∃ (ct : Int32), (ct = (0 : Int32) ↔ (fk < 2 ∨ lo = 0)) ∧ ∀ τ, Steps p.tables e below (T218.setTop (mkF m 313 #[.val (.int aa), .val (.int gg), .val (.int d0), .val (.int m0), .val (.int f0), .val (.int k0), .val (.int hc), .val (.int fk), .val (.int lo), .val (.int uk), .val (.int oo), .val (.long vG), .second, .val (.long vD), .second, .val (.long vm), .second, .val (.long vF), .second, .val (.long vc), .second, .val (.int ((XT.ushr k0 (8 : Int32)) &&& (31 : Int32))), .val (.long vp), .second, .val (.double he), .second, .val (.double fa), .second, .val (.double li), .second, .val (.int cp), .val (.double us), .second, .val (.double ot), .second, .val (.double ww), .second, .unset, .unset, .unset, .unset, .unset, .unset] [(.int ct)])) τ → PS τ := by
    by_cases q0 : fk < (2 : Int32)
    · skip
      have pre223 := fun (τ : State) kt => pre221 τ (by
        show Steps p.tables e below (T218.setTop (mkF m 300 #[.val (.int aa), .val (.int gg), .val (.int d0), .val (.int m0), .val (.int f0), .val (.int k0), .val (.int hc), .val (.int fk), .val (.int lo), .val (.int uk), .val (.int oo), .val (.long vG), .second, .val (.long vD), .second, .val (.long vm), .second, .val (.long vF), .second, .val (.long vc), .second, .val (.int ((XT.ushr k0 (8 : Int32)) &&& (31 : Int32))), .val (.long vp), .second, .val (.double he), .second, .val (.double fa), .second, .val (.double li), .second, .val (.int cp), .val (.double us), .second, .val (.double ot), .second, .val (.double ww), .second, .unset, .unset, .unset, .unset, .unset, .unset] [(.int (2 : Int32)), (.int fk)])) τ
        refine XS.icmpYes X218.here hx rfl (pc0 := 300) (pc' := 312) rfl (Jvm.hb hby at_300) rfl (tlt q0).1 (by decide) (by decide) ?_
        refine XS.iconst X218.here hx rfl (Jvm.hb hby at_312) ?_
        exact kt)
      exact ⟨(0 : Int32), ⟨fun _ => Or.inl q0, fun _ => rfl⟩, pre223⟩
    · skip
      have pre224 := fun (τ : State) kt => pre221 τ (by
        show Steps p.tables e below (T218.setTop (mkF m 300 #[.val (.int aa), .val (.int gg), .val (.int d0), .val (.int m0), .val (.int f0), .val (.int k0), .val (.int hc), .val (.int fk), .val (.int lo), .val (.int uk), .val (.int oo), .val (.long vG), .second, .val (.long vD), .second, .val (.long vm), .second, .val (.long vF), .second, .val (.long vc), .second, .val (.int ((XT.ushr k0 (8 : Int32)) &&& (31 : Int32))), .val (.long vp), .second, .val (.double he), .second, .val (.double fa), .second, .val (.double li), .second, .val (.int cp), .val (.double us), .second, .val (.double ot), .second, .val (.double ww), .second, .unset, .unset, .unset, .unset, .unset, .unset] [(.int (2 : Int32)), (.int fk)])) τ
        refine XS.icmpNo X218.here hx rfl (Jvm.hb hby at_300) rfl (flt q0).1 ?_
        refine XS.iload X218.here hx rfl (Jvm.hb hby at_303) rfl ?_
        exact kt)
      by_cases q1 : lo = (0 : Int32)
      · skip
        have pre225 := fun (τ : State) kt => pre224 τ (by
          show Steps p.tables e below (T218.setTop (mkF m 305 #[.val (.int aa), .val (.int gg), .val (.int d0), .val (.int m0), .val (.int f0), .val (.int k0), .val (.int hc), .val (.int fk), .val (.int lo), .val (.int uk), .val (.int oo), .val (.long vG), .second, .val (.long vD), .second, .val (.long vm), .second, .val (.long vF), .second, .val (.long vc), .second, .val (.int ((XT.ushr k0 (8 : Int32)) &&& (31 : Int32))), .val (.long vp), .second, .val (.double he), .second, .val (.double fa), .second, .val (.double li), .second, .val (.int cp), .val (.double us), .second, .val (.double ot), .second, .val (.double ww), .second, .unset, .unset, .unset, .unset, .unset, .unset] [(.int lo)])) τ
          refine XS.ifYes X218.here hx rfl (pc0 := 305) (pc' := 312) rfl (Jvm.hb hby at_305) rfl ((if0 _ _).trans (teq q1).1) (by decide) (by decide) ?_
          refine XS.iconst X218.here hx rfl (Jvm.hb hby at_312) ?_
          exact kt)
        exact ⟨(0 : Int32), ⟨fun _ => Or.inr q1, fun _ => rfl⟩, pre225⟩
      · skip
        have pre226 := fun (τ : State) kt => pre224 τ (by
          show Steps p.tables e below (T218.setTop (mkF m 305 #[.val (.int aa), .val (.int gg), .val (.int d0), .val (.int m0), .val (.int f0), .val (.int k0), .val (.int hc), .val (.int fk), .val (.int lo), .val (.int uk), .val (.int oo), .val (.long vG), .second, .val (.long vD), .second, .val (.long vm), .second, .val (.long vF), .second, .val (.long vc), .second, .val (.int ((XT.ushr k0 (8 : Int32)) &&& (31 : Int32))), .val (.long vp), .second, .val (.double he), .second, .val (.double fa), .second, .val (.double li), .second, .val (.int cp), .val (.double us), .second, .val (.double ot), .second, .val (.double ww), .second, .unset, .unset, .unset, .unset, .unset, .unset] [(.int lo)])) τ
          refine XS.ifNo X218.here hx rfl (Jvm.hb hby at_305) rfl ((if0 _ _).trans (feq q1).1) ?_
          refine XS.iconst X218.here hx rfl (Jvm.hb hby at_308) ?_
          refine XS.goto X218.here hx rfl (pc0 := 309) (pc' := 313) rfl (Jvm.hb hby at_309) (by decide) (by decide) ?_
          exact kt)
        exact ⟨(1 : Int32), ⟨fun r => absurd r (by decide), fun r => absurd r (fun r => r.elim q0 q1)⟩, pre226⟩
  have pre227 := fun (τ : State) kt => pre222 τ (by
    show Steps p.tables e below (T218.setTop (mkF m 313 #[.val (.int aa), .val (.int gg), .val (.int d0), .val (.int m0), .val (.int f0), .val (.int k0), .val (.int hc), .val (.int fk), .val (.int lo), .val (.int uk), .val (.int oo), .val (.long vG), .second, .val (.long vD), .second, .val (.long vm), .second, .val (.long vF), .second, .val (.long vc), .second, .val (.int ((XT.ushr k0 (8 : Int32)) &&& (31 : Int32))), .val (.long vp), .second, .val (.double he), .second, .val (.double fa), .second, .val (.double li), .second, .val (.int cp), .val (.double us), .second, .val (.double ot), .second, .val (.double ww), .second, .unset, .unset, .unset, .unset, .unset, .unset] [(.int ct)])) τ
    refine XS.istore X218.here hx rfl (Jvm.hb hby at_313) rfl (l' := #[.val (.int aa), .val (.int gg), .val (.int d0), .val (.int m0), .val (.int f0), .val (.int k0), .val (.int hc), .val (.int fk), .val (.int lo), .val (.int uk), .val (.int oo), .val (.long vG), .second, .val (.long vD), .second, .val (.long vm), .second, .val (.long vF), .second, .val (.long vc), .second, .val (.int ((XT.ushr k0 (8 : Int32)) &&& (31 : Int32))), .val (.long vp), .second, .val (.double he), .second, .val (.double fa), .second, .val (.double li), .second, .val (.int cp), .val (.double us), .second, .val (.double ot), .second, .val (.double ww), .second, .val (.int ct), .unset, .unset, .unset, .unset, .unset]) rfl ?_
    refine XS.iload X218.here hx rfl (Jvm.hb hby at_315) rfl ?_
    refine XS.iconst X218.here hx rfl (Jvm.hb hby at_317) ?_
    exact kt)
  obtain ⟨hh, hj228, pre228⟩ : ∃ (hh : Int32), (hh = (0 : Int32) ↔ hc < 2) ∧ ∀ τ, Steps p.tables e below (T218.setTop (mkF m 326 #[.val (.int aa), .val (.int gg), .val (.int d0), .val (.int m0), .val (.int f0), .val (.int k0), .val (.int hc), .val (.int fk), .val (.int lo), .val (.int uk), .val (.int oo), .val (.long vG), .second, .val (.long vD), .second, .val (.long vm), .second, .val (.long vF), .second, .val (.long vc), .second, .val (.int ((XT.ushr k0 (8 : Int32)) &&& (31 : Int32))), .val (.long vp), .second, .val (.double he), .second, .val (.double fa), .second, .val (.double li), .second, .val (.int cp), .val (.double us), .second, .val (.double ot), .second, .val (.double ww), .second, .val (.int ct), .unset, .unset, .unset, .unset, .unset] [(.int hh)])) τ → PS τ := by
    by_cases q : hc < (2 : Int32)
    · skip
      have pre229 := fun (τ : State) kt => pre227 τ (by
        show Steps p.tables e below (T218.setTop (mkF m 318 #[.val (.int aa), .val (.int gg), .val (.int d0), .val (.int m0), .val (.int f0), .val (.int k0), .val (.int hc), .val (.int fk), .val (.int lo), .val (.int uk), .val (.int oo), .val (.long vG), .second, .val (.long vD), .second, .val (.long vm), .second, .val (.long vF), .second, .val (.long vc), .second, .val (.int ((XT.ushr k0 (8 : Int32)) &&& (31 : Int32))), .val (.long vp), .second, .val (.double he), .second, .val (.double fa), .second, .val (.double li), .second, .val (.int cp), .val (.double us), .second, .val (.double ot), .second, .val (.double ww), .second, .val (.int ct), .unset, .unset, .unset, .unset, .unset] [(.int (2 : Int32)), (.int hc)])) τ
        refine XS.icmpYes X218.here hx rfl (pc0 := 318) (pc' := 325) rfl (Jvm.hb hby at_318) rfl (tlt q).1 (by decide) (by decide) ?_
        refine XS.iconst X218.here hx rfl (Jvm.hb hby at_325) ?_
        exact kt)
      exact ⟨(0 : Int32), ⟨fun _ => q, fun _ => rfl⟩, pre229⟩
    · skip
      have pre230 := fun (τ : State) kt => pre227 τ (by
        show Steps p.tables e below (T218.setTop (mkF m 318 #[.val (.int aa), .val (.int gg), .val (.int d0), .val (.int m0), .val (.int f0), .val (.int k0), .val (.int hc), .val (.int fk), .val (.int lo), .val (.int uk), .val (.int oo), .val (.long vG), .second, .val (.long vD), .second, .val (.long vm), .second, .val (.long vF), .second, .val (.long vc), .second, .val (.int ((XT.ushr k0 (8 : Int32)) &&& (31 : Int32))), .val (.long vp), .second, .val (.double he), .second, .val (.double fa), .second, .val (.double li), .second, .val (.int cp), .val (.double us), .second, .val (.double ot), .second, .val (.double ww), .second, .val (.int ct), .unset, .unset, .unset, .unset, .unset] [(.int (2 : Int32)), (.int hc)])) τ
        refine XS.icmpNo X218.here hx rfl (Jvm.hb hby at_318) rfl (flt q).1 ?_
        refine XS.iconst X218.here hx rfl (Jvm.hb hby at_321) ?_
        refine XS.goto X218.here hx rfl (pc0 := 322) (pc' := 326) rfl (Jvm.hb hby at_322) (by decide) (by decide) ?_
        exact kt)
      exact ⟨(1 : Int32), ⟨fun r => absurd r (by decide), fun r => absurd r q⟩, pre230⟩
  have pre231 := fun (τ : State) kt => pre228 τ (by
    show Steps p.tables e below (T218.setTop (mkF m 326 #[.val (.int aa), .val (.int gg), .val (.int d0), .val (.int m0), .val (.int f0), .val (.int k0), .val (.int hc), .val (.int fk), .val (.int lo), .val (.int uk), .val (.int oo), .val (.long vG), .second, .val (.long vD), .second, .val (.long vm), .second, .val (.long vF), .second, .val (.long vc), .second, .val (.int ((XT.ushr k0 (8 : Int32)) &&& (31 : Int32))), .val (.long vp), .second, .val (.double he), .second, .val (.double fa), .second, .val (.double li), .second, .val (.int cp), .val (.double us), .second, .val (.double ot), .second, .val (.double ww), .second, .val (.int ct), .unset, .unset, .unset, .unset, .unset] [(.int hh)])) τ
    refine XS.istore X218.here hx rfl (Jvm.hb hby at_326) rfl (l' := #[.val (.int aa), .val (.int gg), .val (.int d0), .val (.int m0), .val (.int f0), .val (.int k0), .val (.int hc), .val (.int fk), .val (.int lo), .val (.int uk), .val (.int oo), .val (.long vG), .second, .val (.long vD), .second, .val (.long vm), .second, .val (.long vF), .second, .val (.long vc), .second, .val (.int ((XT.ushr k0 (8 : Int32)) &&& (31 : Int32))), .val (.long vp), .second, .val (.double he), .second, .val (.double fa), .second, .val (.double li), .second, .val (.int cp), .val (.double us), .second, .val (.double ot), .second, .val (.double ww), .second, .val (.int ct), .val (.int hh), .unset, .unset, .unset, .unset]) rfl ?_
    refine XS.iload X218.here hx rfl (Jvm.hb hby at_328) rfl ?_
    exact kt)
  obtain ⟨lz, hj232, pre232⟩ : ∃ (lz : Int32), (lz = (0 : Int32) ↔ (¬ lo = 0 ∧ ¬ fk = 0)) ∧ ∀ τ, Steps p.tables e below (T218.setTop (mkF m 343 #[.val (.int aa), .val (.int gg), .val (.int d0), .val (.int m0), .val (.int f0), .val (.int k0), .val (.int hc), .val (.int fk), .val (.int lo), .val (.int uk), .val (.int oo), .val (.long vG), .second, .val (.long vD), .second, .val (.long vm), .second, .val (.long vF), .second, .val (.long vc), .second, .val (.int ((XT.ushr k0 (8 : Int32)) &&& (31 : Int32))), .val (.long vp), .second, .val (.double he), .second, .val (.double fa), .second, .val (.double li), .second, .val (.int cp), .val (.double us), .second, .val (.double ot), .second, .val (.double ww), .second, .val (.int ct), .val (.int hh), .unset, .unset, .unset, .unset] [(.int lz)])) τ → PS τ := by
    by_cases q0 : lo = (0 : Int32)
    · skip
      have pre233 := fun (τ : State) kt => pre231 τ (by
        show Steps p.tables e below (T218.setTop (mkF m 330 #[.val (.int aa), .val (.int gg), .val (.int d0), .val (.int m0), .val (.int f0), .val (.int k0), .val (.int hc), .val (.int fk), .val (.int lo), .val (.int uk), .val (.int oo), .val (.long vG), .second, .val (.long vD), .second, .val (.long vm), .second, .val (.long vF), .second, .val (.long vc), .second, .val (.int ((XT.ushr k0 (8 : Int32)) &&& (31 : Int32))), .val (.long vp), .second, .val (.double he), .second, .val (.double fa), .second, .val (.double li), .second, .val (.int cp), .val (.double us), .second, .val (.double ot), .second, .val (.double ww), .second, .val (.int ct), .val (.int hh), .unset, .unset, .unset, .unset] [(.int lo)])) τ
        refine XS.ifYes X218.here hx rfl (pc0 := 330) (pc' := 338) rfl (Jvm.hb hby at_330) rfl ((if0 _ _).trans (teq q0).1) (by decide) (by decide) ?_
        refine XS.iconst X218.here hx rfl (Jvm.hb hby at_338) ?_
        refine XS.goto X218.here hx rfl (pc0 := 339) (pc' := 343) rfl (Jvm.hb hby at_339) (by decide) (by decide) ?_
        exact kt)
      exact ⟨(1 : Int32), ⟨fun r => absurd r (by decide), fun r => absurd q0 r.1⟩, pre233⟩
    · skip
      have pre234 := fun (τ : State) kt => pre231 τ (by
        show Steps p.tables e below (T218.setTop (mkF m 330 #[.val (.int aa), .val (.int gg), .val (.int d0), .val (.int m0), .val (.int f0), .val (.int k0), .val (.int hc), .val (.int fk), .val (.int lo), .val (.int uk), .val (.int oo), .val (.long vG), .second, .val (.long vD), .second, .val (.long vm), .second, .val (.long vF), .second, .val (.long vc), .second, .val (.int ((XT.ushr k0 (8 : Int32)) &&& (31 : Int32))), .val (.long vp), .second, .val (.double he), .second, .val (.double fa), .second, .val (.double li), .second, .val (.int cp), .val (.double us), .second, .val (.double ot), .second, .val (.double ww), .second, .val (.int ct), .val (.int hh), .unset, .unset, .unset, .unset] [(.int lo)])) τ
        refine XS.ifNo X218.here hx rfl (Jvm.hb hby at_330) rfl ((if0 _ _).trans (feq q0).1) ?_
        refine XS.iload X218.here hx rfl (Jvm.hb hby at_333) rfl ?_
        exact kt)
      by_cases q1 : fk = (0 : Int32)
      · skip
        have pre235 := fun (τ : State) kt => pre234 τ (by
          show Steps p.tables e below (T218.setTop (mkF m 335 #[.val (.int aa), .val (.int gg), .val (.int d0), .val (.int m0), .val (.int f0), .val (.int k0), .val (.int hc), .val (.int fk), .val (.int lo), .val (.int uk), .val (.int oo), .val (.long vG), .second, .val (.long vD), .second, .val (.long vm), .second, .val (.long vF), .second, .val (.long vc), .second, .val (.int ((XT.ushr k0 (8 : Int32)) &&& (31 : Int32))), .val (.long vp), .second, .val (.double he), .second, .val (.double fa), .second, .val (.double li), .second, .val (.int cp), .val (.double us), .second, .val (.double ot), .second, .val (.double ww), .second, .val (.int ct), .val (.int hh), .unset, .unset, .unset, .unset] [(.int fk)])) τ
          refine XS.ifNo X218.here hx rfl (Jvm.hb hby at_335) rfl ((if0 _ _).trans (teq q1).2) ?_
          refine XS.iconst X218.here hx rfl (Jvm.hb hby at_338) ?_
          refine XS.goto X218.here hx rfl (pc0 := 339) (pc' := 343) rfl (Jvm.hb hby at_339) (by decide) (by decide) ?_
          exact kt)
        exact ⟨(1 : Int32), ⟨fun r => absurd r (by decide), fun r => absurd q1 r.2⟩, pre235⟩
      · skip
        have pre236 := fun (τ : State) kt => pre234 τ (by
          show Steps p.tables e below (T218.setTop (mkF m 335 #[.val (.int aa), .val (.int gg), .val (.int d0), .val (.int m0), .val (.int f0), .val (.int k0), .val (.int hc), .val (.int fk), .val (.int lo), .val (.int uk), .val (.int oo), .val (.long vG), .second, .val (.long vD), .second, .val (.long vm), .second, .val (.long vF), .second, .val (.long vc), .second, .val (.int ((XT.ushr k0 (8 : Int32)) &&& (31 : Int32))), .val (.long vp), .second, .val (.double he), .second, .val (.double fa), .second, .val (.double li), .second, .val (.int cp), .val (.double us), .second, .val (.double ot), .second, .val (.double ww), .second, .val (.int ct), .val (.int hh), .unset, .unset, .unset, .unset] [(.int fk)])) τ
          refine XS.ifYes X218.here hx rfl (pc0 := 335) (pc' := 342) rfl (Jvm.hb hby at_335) rfl ((if0 _ _).trans (feq q1).2) (by decide) (by decide) ?_
          refine XS.iconst X218.here hx rfl (Jvm.hb hby at_342) ?_
          exact kt)
        exact ⟨(0 : Int32), ⟨fun _ => ⟨q0, q1⟩, fun _ => rfl⟩, pre236⟩
  have pre237 := fun (τ : State) kt => pre232 τ (by
    show Steps p.tables e below (T218.setTop (mkF m 343 #[.val (.int aa), .val (.int gg), .val (.int d0), .val (.int m0), .val (.int f0), .val (.int k0), .val (.int hc), .val (.int fk), .val (.int lo), .val (.int uk), .val (.int oo), .val (.long vG), .second, .val (.long vD), .second, .val (.long vm), .second, .val (.long vF), .second, .val (.long vc), .second, .val (.int ((XT.ushr k0 (8 : Int32)) &&& (31 : Int32))), .val (.long vp), .second, .val (.double he), .second, .val (.double fa), .second, .val (.double li), .second, .val (.int cp), .val (.double us), .second, .val (.double ot), .second, .val (.double ww), .second, .val (.int ct), .val (.int hh), .unset, .unset, .unset, .unset] [(.int lz)])) τ
    refine XS.istore X218.here hx rfl (Jvm.hb hby at_343) rfl (l' := #[.val (.int aa), .val (.int gg), .val (.int d0), .val (.int m0), .val (.int f0), .val (.int k0), .val (.int hc), .val (.int fk), .val (.int lo), .val (.int uk), .val (.int oo), .val (.long vG), .second, .val (.long vD), .second, .val (.long vm), .second, .val (.long vF), .second, .val (.long vc), .second, .val (.int ((XT.ushr k0 (8 : Int32)) &&& (31 : Int32))), .val (.long vp), .second, .val (.double he), .second, .val (.double fa), .second, .val (.double li), .second, .val (.int cp), .val (.double us), .second, .val (.double ot), .second, .val (.double ww), .second, .val (.int ct), .val (.int hh), .val (.int lz), .unset, .unset, .unset]) rfl ?_
    refine XS.iload X218.here hx rfl (Jvm.hb hby at_345) rfl ?_
    refine XS.iconst X218.here hx rfl (Jvm.hb hby at_347) ?_
    exact kt)
  obtain ⟨sm, hj238, pre238⟩ : ∃ (sm : Int32), (sm = (0 : Int32) ↔ ¬ uk < 2) ∧ ∀ τ, Steps p.tables e below (T218.setTop (mkF m 356 #[.val (.int aa), .val (.int gg), .val (.int d0), .val (.int m0), .val (.int f0), .val (.int k0), .val (.int hc), .val (.int fk), .val (.int lo), .val (.int uk), .val (.int oo), .val (.long vG), .second, .val (.long vD), .second, .val (.long vm), .second, .val (.long vF), .second, .val (.long vc), .second, .val (.int ((XT.ushr k0 (8 : Int32)) &&& (31 : Int32))), .val (.long vp), .second, .val (.double he), .second, .val (.double fa), .second, .val (.double li), .second, .val (.int cp), .val (.double us), .second, .val (.double ot), .second, .val (.double ww), .second, .val (.int ct), .val (.int hh), .val (.int lz), .unset, .unset, .unset] [(.int sm)])) τ → PS τ := by
    by_cases q : uk < (2 : Int32)
    · skip
      have pre239 := fun (τ : State) kt => pre237 τ (by
        show Steps p.tables e below (T218.setTop (mkF m 348 #[.val (.int aa), .val (.int gg), .val (.int d0), .val (.int m0), .val (.int f0), .val (.int k0), .val (.int hc), .val (.int fk), .val (.int lo), .val (.int uk), .val (.int oo), .val (.long vG), .second, .val (.long vD), .second, .val (.long vm), .second, .val (.long vF), .second, .val (.long vc), .second, .val (.int ((XT.ushr k0 (8 : Int32)) &&& (31 : Int32))), .val (.long vp), .second, .val (.double he), .second, .val (.double fa), .second, .val (.double li), .second, .val (.int cp), .val (.double us), .second, .val (.double ot), .second, .val (.double ww), .second, .val (.int ct), .val (.int hh), .val (.int lz), .unset, .unset, .unset] [(.int (2 : Int32)), (.int uk)])) τ
        refine XS.icmpNo X218.here hx rfl (Jvm.hb hby at_348) rfl (tlt q).2.1 ?_
        refine XS.iconst X218.here hx rfl (Jvm.hb hby at_351) ?_
        refine XS.goto X218.here hx rfl (pc0 := 352) (pc' := 356) rfl (Jvm.hb hby at_352) (by decide) (by decide) ?_
        exact kt)
      exact ⟨(1 : Int32), ⟨fun r => absurd r (by decide), fun r => absurd q r⟩, pre239⟩
    · skip
      have pre240 := fun (τ : State) kt => pre237 τ (by
        show Steps p.tables e below (T218.setTop (mkF m 348 #[.val (.int aa), .val (.int gg), .val (.int d0), .val (.int m0), .val (.int f0), .val (.int k0), .val (.int hc), .val (.int fk), .val (.int lo), .val (.int uk), .val (.int oo), .val (.long vG), .second, .val (.long vD), .second, .val (.long vm), .second, .val (.long vF), .second, .val (.long vc), .second, .val (.int ((XT.ushr k0 (8 : Int32)) &&& (31 : Int32))), .val (.long vp), .second, .val (.double he), .second, .val (.double fa), .second, .val (.double li), .second, .val (.int cp), .val (.double us), .second, .val (.double ot), .second, .val (.double ww), .second, .val (.int ct), .val (.int hh), .val (.int lz), .unset, .unset, .unset] [(.int (2 : Int32)), (.int uk)])) τ
        refine XS.icmpYes X218.here hx rfl (pc0 := 348) (pc' := 355) rfl (Jvm.hb hby at_348) rfl (flt q).2.1 (by decide) (by decide) ?_
        refine XS.iconst X218.here hx rfl (Jvm.hb hby at_355) ?_
        exact kt)
      exact ⟨(0 : Int32), ⟨fun _ => q, fun _ => rfl⟩, pre240⟩
  have pre241 := fun (τ : State) kt => pre238 τ (by
    show Steps p.tables e below (T218.setTop (mkF m 356 #[.val (.int aa), .val (.int gg), .val (.int d0), .val (.int m0), .val (.int f0), .val (.int k0), .val (.int hc), .val (.int fk), .val (.int lo), .val (.int uk), .val (.int oo), .val (.long vG), .second, .val (.long vD), .second, .val (.long vm), .second, .val (.long vF), .second, .val (.long vc), .second, .val (.int ((XT.ushr k0 (8 : Int32)) &&& (31 : Int32))), .val (.long vp), .second, .val (.double he), .second, .val (.double fa), .second, .val (.double li), .second, .val (.int cp), .val (.double us), .second, .val (.double ot), .second, .val (.double ww), .second, .val (.int ct), .val (.int hh), .val (.int lz), .unset, .unset, .unset] [(.int sm)])) τ
    refine XS.istore X218.here hx rfl (Jvm.hb hby at_356) rfl (l' := #[.val (.int aa), .val (.int gg), .val (.int d0), .val (.int m0), .val (.int f0), .val (.int k0), .val (.int hc), .val (.int fk), .val (.int lo), .val (.int uk), .val (.int oo), .val (.long vG), .second, .val (.long vD), .second, .val (.long vm), .second, .val (.long vF), .second, .val (.long vc), .second, .val (.int ((XT.ushr k0 (8 : Int32)) &&& (31 : Int32))), .val (.long vp), .second, .val (.double he), .second, .val (.double fa), .second, .val (.double li), .second, .val (.int cp), .val (.double us), .second, .val (.double ot), .second, .val (.double ww), .second, .val (.int ct), .val (.int hh), .val (.int lz), .val (.int sm), .unset, .unset]) rfl ?_
    refine XS.iload X218.here hx rfl (Jvm.hb hby at_358) rfl ?_
    exact kt)
  by_cases qh : hh = (0 : Int32)
  · skip
    have pre242 := fun (τ : State) kt => pre241 τ (by
      show Steps p.tables e below (T218.setTop (mkF m 360 #[.val (.int aa), .val (.int gg), .val (.int d0), .val (.int m0), .val (.int f0), .val (.int k0), .val (.int hc), .val (.int fk), .val (.int lo), .val (.int uk), .val (.int oo), .val (.long vG), .second, .val (.long vD), .second, .val (.long vm), .second, .val (.long vF), .second, .val (.long vc), .second, .val (.int ((XT.ushr k0 (8 : Int32)) &&& (31 : Int32))), .val (.long vp), .second, .val (.double he), .second, .val (.double fa), .second, .val (.double li), .second, .val (.int cp), .val (.double us), .second, .val (.double ot), .second, .val (.double ww), .second, .val (.int ct), .val (.int hh), .val (.int lz), .val (.int sm), .unset, .unset] [(.int hh)])) τ
      refine XS.ifYes X218.here hx rfl (pc0 := 360) (pc' := 376) rfl (Jvm.hb hby at_360) rfl ((if0 _ _).trans (teq qh).1) (by decide) (by decide) ?_
      refine XS.iload X218.here hx rfl (Jvm.hb hby at_376) rfl ?_
      refine XS.ifYes X218.here hx rfl (pc0 := 378) (pc' := 397) rfl (Jvm.hb hby at_378) rfl ((if0 _ _).trans (teq qh).1) (by decide) (by decide) ?_
      refine XS.iload X218.here hx rfl (Jvm.hb hby at_397) rfl ?_
      exact kt)
    by_cases qs : sm = (0 : Int32)
    · skip
      have pre243 := fun (τ : State) kt => pre242 τ (by
        show Steps p.tables e below (T218.setTop (mkF m 399 #[.val (.int aa), .val (.int gg), .val (.int d0), .val (.int m0), .val (.int f0), .val (.int k0), .val (.int hc), .val (.int fk), .val (.int lo), .val (.int uk), .val (.int oo), .val (.long vG), .second, .val (.long vD), .second, .val (.long vm), .second, .val (.long vF), .second, .val (.long vc), .second, .val (.int ((XT.ushr k0 (8 : Int32)) &&& (31 : Int32))), .val (.long vp), .second, .val (.double he), .second, .val (.double fa), .second, .val (.double li), .second, .val (.int cp), .val (.double us), .second, .val (.double ot), .second, .val (.double ww), .second, .val (.int ct), .val (.int hh), .val (.int lz), .val (.int sm), .unset, .unset] [(.int sm)])) τ
        refine XS.ifYes X218.here hx rfl (pc0 := 399) (pc' := 408) rfl (Jvm.hb hby at_399) rfl ((if0 _ _).trans (teq qs).1) (by decide) (by decide) ?_
        refine XS.iload X218.here hx rfl (Jvm.hb hby at_408) rfl ?_
        exact kt)
      by_cases qo : oo = (0 : Int32)
      · skip
        have pre244 := fun (τ : State) kt => pre243 τ (by
          show Steps p.tables e below (T218.setTop (mkF m 410 #[.val (.int aa), .val (.int gg), .val (.int d0), .val (.int m0), .val (.int f0), .val (.int k0), .val (.int hc), .val (.int fk), .val (.int lo), .val (.int uk), .val (.int oo), .val (.long vG), .second, .val (.long vD), .second, .val (.long vm), .second, .val (.long vF), .second, .val (.long vc), .second, .val (.int ((XT.ushr k0 (8 : Int32)) &&& (31 : Int32))), .val (.long vp), .second, .val (.double he), .second, .val (.double fa), .second, .val (.double li), .second, .val (.int cp), .val (.double us), .second, .val (.double ot), .second, .val (.double ww), .second, .val (.int ct), .val (.int hh), .val (.int lz), .val (.int sm), .unset, .unset] [(.int oo)])) τ
          refine XS.ifNo X218.here hx rfl (Jvm.hb hby at_410) rfl ((if0 _ _).trans (teq qo).2) ?_
          refine own_dconst1 X218.here hx rfl (Jvm.hb hby at_413) ?_
          refine own_dstore X218.here hx rfl (Jvm.hb hby at_414) rfl (l' := #[.val (.int aa), .val (.int gg), .val (.int d0), .val (.int m0), .val (.int f0), .val (.int k0), .val (.int hc), .val (.int fk), .val (.int lo), .val (.int uk), .val (.int oo), .val (.long vG), .second, .val (.long vD), .second, .val (.long vm), .second, .val (.long vF), .second, .val (.long vc), .second, .val (.int ((XT.ushr k0 (8 : Int32)) &&& (31 : Int32))), .val (.long vp), .second, .val (.double he), .second, .val (.double fa), .second, .val (.double li), .second, .val (.int cp), .val (.double us), .second, .val (.double ot), .second, .val (.double ww), .second, .val (.int ct), .val (.int hh), .val (.int lz), .val (.int sm), .val (.double FP.dconst1), .second]) rfl ?_
          refine XS.goto X218.here hx rfl (pc0 := 416) (pc' := 464) rfl (Jvm.hb hby at_416) (by decide) (by decide) ?_
          refine own_dload X218.here hx rfl (Jvm.hb hby at_464) rfl ?_
          refine own_dload X218.here hx rfl (Jvm.hb hby at_466) rfl ?_
          refine own_dcmp X218.here hx rfl (Jvm.hb hby at_468) rfl ?_
          refine XS.ifNo X218.here hx rfl (Jvm.hb hby at_469) rfl ((if0 _ _).trans (teq ((R4 (Or.inl (hj228.mp qh)) (hj238.mp qs)).1 qo)).2) ?_
          refine XS.iconst X218.here hx rfl (Jvm.hb hby at_472) ?_
          refine XS.goto X218.here hx rfl (pc0 := 473) (pc' := 477) rfl (Jvm.hb hby at_473) (by decide) (by decide) ?_
          exact kt)
        obtain ⟨fs, hrL, hrun, hended, hW, hsame⟩ := X218.leave (v := some (.int (1 : Int32))) (fun h => by rw [Bd.returns] at h; cases h)
        refine ⟨_, _, cast (congrFun hPS _) (pre244 _ ?_), hrun, hended, _, _, rfl, ?_, ⟨_, rfl⟩, hW, hsame.mono (by decide) (by decide)⟩
        · show Steps p.tables e below (T218.setTop (mkF m 477 #[.val (.int aa), .val (.int gg), .val (.int d0), .val (.int m0), .val (.int f0), .val (.int k0), .val (.int hc), .val (.int fk), .val (.int lo), .val (.int uk), .val (.int oo), .val (.long vG), .second, .val (.long vD), .second, .val (.long vm), .second, .val (.long vF), .second, .val (.long vc), .second, .val (.int ((XT.ushr k0 (8 : Int32)) &&& (31 : Int32))), .val (.long vp), .second, .val (.double he), .second, .val (.double fa), .second, .val (.double li), .second, .val (.int cp), .val (.double us), .second, .val (.double ot), .second, .val (.double ww), .second, .val (.int ct), .val (.int hh), .val (.int lz), .val (.int sm), .val (.double FP.dconst1), .second] [(.int (1 : Int32))])) _
          exact retN X218 hx (t := .boolean) Bd.returns (by simp) (Jvm.hb hby at_477) hrL
        · show Q0 n0 _ T218.heap _
          exact ⟨rfl, N218⟩
      · skip
        have pre245 := fun (τ : State) kt => pre243 τ (by
          show Steps p.tables e below (T218.setTop (mkF m 410 #[.val (.int aa), .val (.int gg), .val (.int d0), .val (.int m0), .val (.int f0), .val (.int k0), .val (.int hc), .val (.int fk), .val (.int lo), .val (.int uk), .val (.int oo), .val (.long vG), .second, .val (.long vD), .second, .val (.long vm), .second, .val (.long vF), .second, .val (.long vc), .second, .val (.int ((XT.ushr k0 (8 : Int32)) &&& (31 : Int32))), .val (.long vp), .second, .val (.double he), .second, .val (.double fa), .second, .val (.double li), .second, .val (.int cp), .val (.double us), .second, .val (.double ot), .second, .val (.double ww), .second, .val (.int ct), .val (.int hh), .val (.int lz), .val (.int sm), .unset, .unset] [(.int oo)])) τ
          refine XS.ifYes X218.here hx rfl (pc0 := 410) (pc' := 419) rfl (Jvm.hb hby at_410) rfl ((if0 _ _).trans (feq qo).2) (by decide) (by decide) ?_
          refine XS.iload X218.here hx rfl (Jvm.hb hby at_419) rfl ?_
          exact kt)
        by_cases qp : cp = (0 : Int32)
        · skip
          obtain ⟨_, T246, L246, X246, ⟨rfl, Nq246, eq246⟩, st246⟩ := own_stat (y := own_mn7) X218 hx hZ hown (own_W61 hw) (own_W62 hw) (by decide) (rmSh l Z a0 hw [] ct vD vG vm vc vp T215.heap n0 (Nat.le_trans Z0 K215.1) (own_ms hB).1 (own_ms hB).2) (own_W64 hw) (own_W63 hw) 0 (by decide) (by decide) eq218 (mkF m 459 #[.val (.int aa), .val (.int gg), .val (.int d0), .val (.int m0), .val (.int f0), .val (.int k0), .val (.int hc), .val (.int fk), .val (.int lo), .val (.int uk), .val (.int oo), .val (.long vG), .second, .val (.long vD), .second, .val (.long vm), .second, .val (.long vF), .second, .val (.long vc), .second, .val (.int ((XT.ushr k0 (8 : Int32)) &&& (31 : Int32))), .val (.long vp), .second, .val (.double he), .second, .val (.double fa), .second, .val (.double li), .second, .val (.int cp), .val (.double us), .second, .val (.double ot), .second, .val (.double ww), .second, .val (.int ct), .val (.int hh), .val (.int lz), .val (.int sm), .unset, .unset] [(.long vp), (.long vc), (.long vm), (.long vG), (.long vD), (.int ct)]) rfl (by rw [hml]; rfl) [(.int ct), (.long vD), (.long vG), (.long vm), (.long vc), (.long vp)] [] rfl (lenOf own_pd__ZJJJJJ_D rfl) rfl (Nat.le_refl _) (Jvm.hb hby at_459) (by decide) (by decide)
          have N246 := Fr.app N218 Nq246
          have pre247 := fun (τ : State) kt => pre245 τ (by
            show Steps p.tables e below (T218.setTop (mkF m 421 #[.val (.int aa), .val (.int gg), .val (.int d0), .val (.int m0), .val (.int f0), .val (.int k0), .val (.int hc), .val (.int fk), .val (.int lo), .val (.int uk), .val (.int oo), .val (.long vG), .second, .val (.long vD), .second, .val (.long vm), .second, .val (.long vF), .second, .val (.long vc), .second, .val (.int ((XT.ushr k0 (8 : Int32)) &&& (31 : Int32))), .val (.long vp), .second, .val (.double he), .second, .val (.double fa), .second, .val (.double li), .second, .val (.int cp), .val (.double us), .second, .val (.double ot), .second, .val (.double ww), .second, .val (.int ct), .val (.int hh), .val (.int lz), .val (.int sm), .unset, .unset] [(.int cp)])) τ
            refine XS.ifYes X218.here hx rfl (pc0 := 421) (pc' := 447) rfl (Jvm.hb hby at_421) rfl ((if0 _ _).trans (teq qp).1) (by decide) (by decide) ?_
            refine XS.iload X218.here hx rfl (Jvm.hb hby at_447) rfl ?_
            refine XT.lload X218.here hx rfl (Jvm.hb hby at_449) rfl ?_
            refine XT.lload X218.here hx rfl (Jvm.hb hby at_451) rfl ?_
            refine XT.lload X218.here hx rfl (Jvm.hb hby at_453) rfl ?_
            refine XT.lload X218.here hx rfl (Jvm.hb hby at_455) rfl ?_
            refine XT.lload X218.here hx rfl (Jvm.hb hby at_457) rfl ?_
            exact st246 τ kt)
          have pre248 := fun (τ : State) kt => pre247 τ (by
            show Steps p.tables e below (T246.setTop (mkF m 462 #[.val (.int aa), .val (.int gg), .val (.int d0), .val (.int m0), .val (.int f0), .val (.int k0), .val (.int hc), .val (.int fk), .val (.int lo), .val (.int uk), .val (.int oo), .val (.long vG), .second, .val (.long vD), .second, .val (.long vm), .second, .val (.long vF), .second, .val (.long vc), .second, .val (.int ((XT.ushr k0 (8 : Int32)) &&& (31 : Int32))), .val (.long vp), .second, .val (.double he), .second, .val (.double fa), .second, .val (.double li), .second, .val (.int cp), .val (.double us), .second, .val (.double ot), .second, .val (.double ww), .second, .val (.int ct), .val (.int hh), .val (.int lz), .val (.int sm), .unset, .unset] [(.double (own_share ct vD vG vm vc vp))])) τ
            refine own_dstore X246.here hx rfl (Jvm.hb hby at_462) rfl (l' := #[.val (.int aa), .val (.int gg), .val (.int d0), .val (.int m0), .val (.int f0), .val (.int k0), .val (.int hc), .val (.int fk), .val (.int lo), .val (.int uk), .val (.int oo), .val (.long vG), .second, .val (.long vD), .second, .val (.long vm), .second, .val (.long vF), .second, .val (.long vc), .second, .val (.int ((XT.ushr k0 (8 : Int32)) &&& (31 : Int32))), .val (.long vp), .second, .val (.double he), .second, .val (.double fa), .second, .val (.double li), .second, .val (.int cp), .val (.double us), .second, .val (.double ot), .second, .val (.double ww), .second, .val (.int ct), .val (.int hh), .val (.int lz), .val (.int sm), .val (.double (own_share ct vD vG vm vc vp)), .second]) rfl ?_
            refine own_dload X246.here hx rfl (Jvm.hb hby at_464) rfl ?_
            refine own_dload X246.here hx rfl (Jvm.hb hby at_466) rfl ?_
            refine own_dcmp X246.here hx rfl (Jvm.hb hby at_468) rfl ?_
            refine XS.ifNo X246.here hx rfl (Jvm.hb hby at_469) rfl ((if0 _ _).trans (teq ((R4 (Or.inl (hj228.mp qh)) (hj238.mp qs)).2.2 qo (hj196.mp qp) ct hj222)).2) ?_
            refine XS.iconst X246.here hx rfl (Jvm.hb hby at_472) ?_
            refine XS.goto X246.here hx rfl (pc0 := 473) (pc' := 477) rfl (Jvm.hb hby at_473) (by decide) (by decide) ?_
            exact kt)
          obtain ⟨fs, hrL, hrun, hended, hW, hsame⟩ := X246.leave (v := some (.int (1 : Int32))) (fun h => by rw [Bd.returns] at h; cases h)
          refine ⟨_, _, cast (congrFun hPS _) (pre248 _ ?_), hrun, hended, _, _, rfl, ?_, ⟨_, rfl⟩, hW, hsame.mono (by decide) (by decide)⟩
          · show Steps p.tables e below (T246.setTop (mkF m 477 #[.val (.int aa), .val (.int gg), .val (.int d0), .val (.int m0), .val (.int f0), .val (.int k0), .val (.int hc), .val (.int fk), .val (.int lo), .val (.int uk), .val (.int oo), .val (.long vG), .second, .val (.long vD), .second, .val (.long vm), .second, .val (.long vF), .second, .val (.long vc), .second, .val (.int ((XT.ushr k0 (8 : Int32)) &&& (31 : Int32))), .val (.long vp), .second, .val (.double he), .second, .val (.double fa), .second, .val (.double li), .second, .val (.int cp), .val (.double us), .second, .val (.double ot), .second, .val (.double ww), .second, .val (.int ct), .val (.int hh), .val (.int lz), .val (.int sm), .val (.double (own_share ct vD vG vm vc vp)), .second] [(.int (1 : Int32))])) _
            exact retN X246 hx (t := .boolean) Bd.returns (by simp) (Jvm.hb hby at_477) hrL
          · show Q0 n0 _ T246.heap _
            exact ⟨rfl, N246⟩
        · skip
          have pre249 := fun (τ : State) kt => pre245 τ (by
            show Steps p.tables e below (T218.setTop (mkF m 421 #[.val (.int aa), .val (.int gg), .val (.int d0), .val (.int m0), .val (.int f0), .val (.int k0), .val (.int hc), .val (.int fk), .val (.int lo), .val (.int uk), .val (.int oo), .val (.long vG), .second, .val (.long vD), .second, .val (.long vm), .second, .val (.long vF), .second, .val (.long vc), .second, .val (.int ((XT.ushr k0 (8 : Int32)) &&& (31 : Int32))), .val (.long vp), .second, .val (.double he), .second, .val (.double fa), .second, .val (.double li), .second, .val (.int cp), .val (.double us), .second, .val (.double ot), .second, .val (.double ww), .second, .val (.int ct), .val (.int hh), .val (.int lz), .val (.int sm), .unset, .unset] [(.int cp)])) τ
            refine XS.ifNo X218.here hx rfl (Jvm.hb hby at_421) rfl ((if0 _ _).trans (feq qp).1) ?_
            refine XS.iload X218.here hx rfl (Jvm.hb hby at_424) rfl ?_
            exact kt)
          by_cases qc : ct = (0 : Int32)
          · skip
            have pre250 := fun (τ : State) kt => pre249 τ (by
              show Steps p.tables e below (T218.setTop (mkF m 426 #[.val (.int aa), .val (.int gg), .val (.int d0), .val (.int m0), .val (.int f0), .val (.int k0), .val (.int hc), .val (.int fk), .val (.int lo), .val (.int uk), .val (.int oo), .val (.long vG), .second, .val (.long vD), .second, .val (.long vm), .second, .val (.long vF), .second, .val (.long vc), .second, .val (.int ((XT.ushr k0 (8 : Int32)) &&& (31 : Int32))), .val (.long vp), .second, .val (.double he), .second, .val (.double fa), .second, .val (.double li), .second, .val (.int cp), .val (.double us), .second, .val (.double ot), .second, .val (.double ww), .second, .val (.int ct), .val (.int hh), .val (.int lz), .val (.int sm), .unset, .unset] [(.int ct)])) τ
              refine XS.ifYes X218.here hx rfl (pc0 := 426) (pc' := 435) rfl (Jvm.hb hby at_426) rfl ((if0 _ _).trans (teq qc).1) (by decide) (by decide) ?_
              refine X218.ldc2DoubleC hx hown (mvT hZ (own_W65 hw)) (g := (mkF m 435 #[.val (.int aa), .val (.int gg), .val (.int d0), .val (.int m0), .val (.int f0), .val (.int k0), .val (.int hc), .val (.int fk), .val (.int lo), .val (.int uk), .val (.int oo), .val (.long vG), .second, .val (.long vD), .second, .val (.long vm), .second, .val (.long vF), .second, .val (.long vc), .second, .val (.int ((XT.ushr k0 (8 : Int32)) &&& (31 : Int32))), .val (.long vp), .second, .val (.double he), .second, .val (.double fa), .second, .val (.double li), .second, .val (.int cp), .val (.double us), .second, .val (.double ot), .second, .val (.double ww), .second, .val (.int ct), .val (.int hh), .val (.int lz), .val (.int sm), .unset, .unset] [])) rfl (Jvm.hb hby at_435) _ ?_
              refine XT.lload X218.here hx rfl (Jvm.hb hby at_438) rfl ?_
              refine own_l2d X218.here hx rfl (Jvm.hb hby at_440) rfl ?_
              refine own_dmul X218.here hx rfl (Jvm.hb hby at_441) rfl (n2) ?_
              refine own_dstore X218.here hx rfl (Jvm.hb hby at_442) rfl (l' := #[.val (.int aa), .val (.int gg), .val (.int d0), .val (.int m0), .val (.int f0), .val (.int k0), .val (.int hc), .val (.int fk), .val (.int lo), .val (.int uk), .val (.int oo), .val (.long vG), .second, .val (.long vD), .second, .val (.long vm), .second, .val (.long vF), .second, .val (.long vc), .second, .val (.int ((XT.ushr k0 (8 : Int32)) &&& (31 : Int32))), .val (.long vp), .second, .val (.double he), .second, .val (.double fa), .second, .val (.double li), .second, .val (.int cp), .val (.double us), .second, .val (.double ot), .second, .val (.double ww), .second, .val (.int ct), .val (.int hh), .val (.int lz), .val (.int sm), .val (.double (FP.dmul (4606732058837280358 : UInt64) (FP.l2d vG))), .second]) rfl ?_
              refine XS.goto X218.here hx rfl (pc0 := 444) (pc' := 464) rfl (Jvm.hb hby at_444) (by decide) (by decide) ?_
              refine own_dload X218.here hx rfl (Jvm.hb hby at_464) rfl ?_
              refine own_dload X218.here hx rfl (Jvm.hb hby at_466) rfl ?_
              refine own_dcmp X218.here hx rfl (Jvm.hb hby at_468) rfl ?_
              refine XS.ifNo X218.here hx rfl (Jvm.hb hby at_469) rfl ((if0 _ _).trans (teq (((R4 (Or.inl (hj228.mp qh)) (hj238.mp qs)).2.1 qo (Decidable.of_not_not fun r => qp (hj196.mpr r))).2 (hj222.mp qc))).2) ?_
              refine XS.iconst X218.here hx rfl (Jvm.hb hby at_472) ?_
              refine XS.goto X218.here hx rfl (pc0 := 473) (pc' := 477) rfl (Jvm.hb hby at_473) (by decide) (by decide) ?_
              exact kt)
            obtain ⟨fs, hrL, hrun, hended, hW, hsame⟩ := X218.leave (v := some (.int (1 : Int32))) (fun h => by rw [Bd.returns] at h; cases h)
            refine ⟨_, _, cast (congrFun hPS _) (pre250 _ ?_), hrun, hended, _, _, rfl, ?_, ⟨_, rfl⟩, hW, hsame.mono (by decide) (by decide)⟩
            · show Steps p.tables e below (T218.setTop (mkF m 477 #[.val (.int aa), .val (.int gg), .val (.int d0), .val (.int m0), .val (.int f0), .val (.int k0), .val (.int hc), .val (.int fk), .val (.int lo), .val (.int uk), .val (.int oo), .val (.long vG), .second, .val (.long vD), .second, .val (.long vm), .second, .val (.long vF), .second, .val (.long vc), .second, .val (.int ((XT.ushr k0 (8 : Int32)) &&& (31 : Int32))), .val (.long vp), .second, .val (.double he), .second, .val (.double fa), .second, .val (.double li), .second, .val (.int cp), .val (.double us), .second, .val (.double ot), .second, .val (.double ww), .second, .val (.int ct), .val (.int hh), .val (.int lz), .val (.int sm), .val (.double (FP.dmul (4606732058837280358 : UInt64) (FP.l2d vG))), .second] [(.int (1 : Int32))])) _
              exact retN X218 hx (t := .boolean) Bd.returns (by simp) (Jvm.hb hby at_477) hrL
            · show Q0 n0 _ T218.heap _
              exact ⟨rfl, N218⟩
          · skip
            have pre251 := fun (τ : State) kt => pre249 τ (by
              show Steps p.tables e below (T218.setTop (mkF m 426 #[.val (.int aa), .val (.int gg), .val (.int d0), .val (.int m0), .val (.int f0), .val (.int k0), .val (.int hc), .val (.int fk), .val (.int lo), .val (.int uk), .val (.int oo), .val (.long vG), .second, .val (.long vD), .second, .val (.long vm), .second, .val (.long vF), .second, .val (.long vc), .second, .val (.int ((XT.ushr k0 (8 : Int32)) &&& (31 : Int32))), .val (.long vp), .second, .val (.double he), .second, .val (.double fa), .second, .val (.double li), .second, .val (.int cp), .val (.double us), .second, .val (.double ot), .second, .val (.double ww), .second, .val (.int ct), .val (.int hh), .val (.int lz), .val (.int sm), .unset, .unset] [(.int ct)])) τ
              refine XS.ifNo X218.here hx rfl (Jvm.hb hby at_426) rfl ((if0 _ _).trans (feq qc).1) ?_
              refine XT.lload X218.here hx rfl (Jvm.hb hby at_429) rfl ?_
              refine own_l2d X218.here hx rfl (Jvm.hb hby at_431) rfl ?_
              refine XS.goto X218.here hx rfl (pc0 := 432) (pc' := 442) rfl (Jvm.hb hby at_432) (by decide) (by decide) ?_
              refine own_dstore X218.here hx rfl (Jvm.hb hby at_442) rfl (l' := #[.val (.int aa), .val (.int gg), .val (.int d0), .val (.int m0), .val (.int f0), .val (.int k0), .val (.int hc), .val (.int fk), .val (.int lo), .val (.int uk), .val (.int oo), .val (.long vG), .second, .val (.long vD), .second, .val (.long vm), .second, .val (.long vF), .second, .val (.long vc), .second, .val (.int ((XT.ushr k0 (8 : Int32)) &&& (31 : Int32))), .val (.long vp), .second, .val (.double he), .second, .val (.double fa), .second, .val (.double li), .second, .val (.int cp), .val (.double us), .second, .val (.double ot), .second, .val (.double ww), .second, .val (.int ct), .val (.int hh), .val (.int lz), .val (.int sm), .val (.double (FP.l2d vm)), .second]) rfl ?_
              refine XS.goto X218.here hx rfl (pc0 := 444) (pc' := 464) rfl (Jvm.hb hby at_444) (by decide) (by decide) ?_
              refine own_dload X218.here hx rfl (Jvm.hb hby at_464) rfl ?_
              refine own_dload X218.here hx rfl (Jvm.hb hby at_466) rfl ?_
              refine own_dcmp X218.here hx rfl (Jvm.hb hby at_468) rfl ?_
              refine XS.ifNo X218.here hx rfl (Jvm.hb hby at_469) rfl ((if0 _ _).trans (teq (((R4 (Or.inl (hj228.mp qh)) (hj238.mp qs)).2.1 qo (Decidable.of_not_not fun r => qp (hj196.mpr r))).1 ⟨fun r => qc (hj222.mpr (Or.inl r)), fun r => qc (hj222.mpr (Or.inr r))⟩)).2) ?_
              refine XS.iconst X218.here hx rfl (Jvm.hb hby at_472) ?_
              refine XS.goto X218.here hx rfl (pc0 := 473) (pc' := 477) rfl (Jvm.hb hby at_473) (by decide) (by decide) ?_
              exact kt)
            obtain ⟨fs, hrL, hrun, hended, hW, hsame⟩ := X218.leave (v := some (.int (1 : Int32))) (fun h => by rw [Bd.returns] at h; cases h)
            refine ⟨_, _, cast (congrFun hPS _) (pre251 _ ?_), hrun, hended, _, _, rfl, ?_, ⟨_, rfl⟩, hW, hsame.mono (by decide) (by decide)⟩
            · show Steps p.tables e below (T218.setTop (mkF m 477 #[.val (.int aa), .val (.int gg), .val (.int d0), .val (.int m0), .val (.int f0), .val (.int k0), .val (.int hc), .val (.int fk), .val (.int lo), .val (.int uk), .val (.int oo), .val (.long vG), .second, .val (.long vD), .second, .val (.long vm), .second, .val (.long vF), .second, .val (.long vc), .second, .val (.int ((XT.ushr k0 (8 : Int32)) &&& (31 : Int32))), .val (.long vp), .second, .val (.double he), .second, .val (.double fa), .second, .val (.double li), .second, .val (.int cp), .val (.double us), .second, .val (.double ot), .second, .val (.double ww), .second, .val (.int ct), .val (.int hh), .val (.int lz), .val (.int sm), .val (.double (FP.l2d vm)), .second] [(.int (1 : Int32))])) _
              exact retN X218 hx (t := .boolean) Bd.returns (by simp) (Jvm.hb hby at_477) hrL
            · show Q0 n0 _ T218.heap _
              exact ⟨rfl, N218⟩
    · skip
      have pre252 := fun (τ : State) kt => pre242 τ (by
        show Steps p.tables e below (T218.setTop (mkF m 399 #[.val (.int aa), .val (.int gg), .val (.int d0), .val (.int m0), .val (.int f0), .val (.int k0), .val (.int hc), .val (.int fk), .val (.int lo), .val (.int uk), .val (.int oo), .val (.long vG), .second, .val (.long vD), .second, .val (.long vm), .second, .val (.long vF), .second, .val (.long vc), .second, .val (.int ((XT.ushr k0 (8 : Int32)) &&& (31 : Int32))), .val (.long vp), .second, .val (.double he), .second, .val (.double fa), .second, .val (.double li), .second, .val (.int cp), .val (.double us), .second, .val (.double ot), .second, .val (.double ww), .second, .val (.int ct), .val (.int hh), .val (.int lz), .val (.int sm), .unset, .unset] [(.int sm)])) τ
        refine XS.ifNo X218.here hx rfl (Jvm.hb hby at_399) rfl ((if0 _ _).trans (feq qs).1) ?_
        refine own_dconst0 X218.here hx rfl (Jvm.hb hby at_402) ?_
        refine own_dstore X218.here hx rfl (Jvm.hb hby at_403) rfl (l' := #[.val (.int aa), .val (.int gg), .val (.int d0), .val (.int m0), .val (.int f0), .val (.int k0), .val (.int hc), .val (.int fk), .val (.int lo), .val (.int uk), .val (.int oo), .val (.long vG), .second, .val (.long vD), .second, .val (.long vm), .second, .val (.long vF), .second, .val (.long vc), .second, .val (.int ((XT.ushr k0 (8 : Int32)) &&& (31 : Int32))), .val (.long vp), .second, .val (.double he), .second, .val (.double fa), .second, .val (.double li), .second, .val (.int cp), .val (.double us), .second, .val (.double ot), .second, .val (.double ww), .second, .val (.int ct), .val (.int hh), .val (.int lz), .val (.int sm), .val (.double FP.dconst0), .second]) rfl ?_
        refine XS.goto X218.here hx rfl (pc0 := 405) (pc' := 464) rfl (Jvm.hb hby at_405) (by decide) (by decide) ?_
        refine own_dload X218.here hx rfl (Jvm.hb hby at_464) rfl ?_
        refine own_dload X218.here hx rfl (Jvm.hb hby at_466) rfl ?_
        refine own_dcmp X218.here hx rfl (Jvm.hb hby at_468) rfl ?_
        refine XS.ifNo X218.here hx rfl (Jvm.hb hby at_469) rfl ((if0 _ _).trans (teq (R3 (hj228.mp qh) (Decidable.of_not_not fun r => qs (hj238.mpr r)))).2) ?_
        refine XS.iconst X218.here hx rfl (Jvm.hb hby at_472) ?_
        refine XS.goto X218.here hx rfl (pc0 := 473) (pc' := 477) rfl (Jvm.hb hby at_473) (by decide) (by decide) ?_
        exact kt)
      obtain ⟨fs, hrL, hrun, hended, hW, hsame⟩ := X218.leave (v := some (.int (1 : Int32))) (fun h => by rw [Bd.returns] at h; cases h)
      refine ⟨_, _, cast (congrFun hPS _) (pre252 _ ?_), hrun, hended, _, _, rfl, ?_, ⟨_, rfl⟩, hW, hsame.mono (by decide) (by decide)⟩
      · show Steps p.tables e below (T218.setTop (mkF m 477 #[.val (.int aa), .val (.int gg), .val (.int d0), .val (.int m0), .val (.int f0), .val (.int k0), .val (.int hc), .val (.int fk), .val (.int lo), .val (.int uk), .val (.int oo), .val (.long vG), .second, .val (.long vD), .second, .val (.long vm), .second, .val (.long vF), .second, .val (.long vc), .second, .val (.int ((XT.ushr k0 (8 : Int32)) &&& (31 : Int32))), .val (.long vp), .second, .val (.double he), .second, .val (.double fa), .second, .val (.double li), .second, .val (.int cp), .val (.double us), .second, .val (.double ot), .second, .val (.double ww), .second, .val (.int ct), .val (.int hh), .val (.int lz), .val (.int sm), .val (.double FP.dconst0), .second] [(.int (1 : Int32))])) _
        exact retN X218 hx (t := .boolean) Bd.returns (by simp) (Jvm.hb hby at_477) hrL
      · show Q0 n0 _ T218.heap _
        exact ⟨rfl, N218⟩
  · skip
    have pre253 := fun (τ : State) kt => pre241 τ (by
      show Steps p.tables e below (T218.setTop (mkF m 360 #[.val (.int aa), .val (.int gg), .val (.int d0), .val (.int m0), .val (.int f0), .val (.int k0), .val (.int hc), .val (.int fk), .val (.int lo), .val (.int uk), .val (.int oo), .val (.long vG), .second, .val (.long vD), .second, .val (.long vm), .second, .val (.long vF), .second, .val (.long vc), .second, .val (.int ((XT.ushr k0 (8 : Int32)) &&& (31 : Int32))), .val (.long vp), .second, .val (.double he), .second, .val (.double fa), .second, .val (.double li), .second, .val (.int cp), .val (.double us), .second, .val (.double ot), .second, .val (.double ww), .second, .val (.int ct), .val (.int hh), .val (.int lz), .val (.int sm), .unset, .unset] [(.int hh)])) τ
      refine XS.ifNo X218.here hx rfl (Jvm.hb hby at_360) rfl ((if0 _ _).trans (feq qh).1) ?_
      refine XS.iload X218.here hx rfl (Jvm.hb hby at_363) rfl ?_
      exact kt)
    by_cases qc : ct = (0 : Int32)
    · skip
      have pre254 := fun (τ : State) kt => pre253 τ (by
        show Steps p.tables e below (T218.setTop (mkF m 365 #[.val (.int aa), .val (.int gg), .val (.int d0), .val (.int m0), .val (.int f0), .val (.int k0), .val (.int hc), .val (.int fk), .val (.int lo), .val (.int uk), .val (.int oo), .val (.long vG), .second, .val (.long vD), .second, .val (.long vm), .second, .val (.long vF), .second, .val (.long vc), .second, .val (.int ((XT.ushr k0 (8 : Int32)) &&& (31 : Int32))), .val (.long vp), .second, .val (.double he), .second, .val (.double fa), .second, .val (.double li), .second, .val (.int cp), .val (.double us), .second, .val (.double ot), .second, .val (.double ww), .second, .val (.int ct), .val (.int hh), .val (.int lz), .val (.int sm), .unset, .unset] [(.int ct)])) τ
        refine XS.ifYes X218.here hx rfl (pc0 := 365) (pc' := 376) rfl (Jvm.hb hby at_365) rfl ((if0 _ _).trans (teq qc).1) (by decide) (by decide) ?_
        refine XS.iload X218.here hx rfl (Jvm.hb hby at_376) rfl ?_
        refine XS.ifNo X218.here hx rfl (Jvm.hb hby at_378) rfl ((if0 _ _).trans (feq qh).1) ?_
        refine XS.iload X218.here hx rfl (Jvm.hb hby at_381) rfl ?_
        exact kt)
      by_cases ql : lz = (0 : Int32)
      · skip
        have pre255 := fun (τ : State) kt => pre254 τ (by
          show Steps p.tables e below (T218.setTop (mkF m 383 #[.val (.int aa), .val (.int gg), .val (.int d0), .val (.int m0), .val (.int f0), .val (.int k0), .val (.int hc), .val (.int fk), .val (.int lo), .val (.int uk), .val (.int oo), .val (.long vG), .second, .val (.long vD), .second, .val (.long vm), .second, .val (.long vF), .second, .val (.long vc), .second, .val (.int ((XT.ushr k0 (8 : Int32)) &&& (31 : Int32))), .val (.long vp), .second, .val (.double he), .second, .val (.double fa), .second, .val (.double li), .second, .val (.int cp), .val (.double us), .second, .val (.double ot), .second, .val (.double ww), .second, .val (.int ct), .val (.int hh), .val (.int lz), .val (.int sm), .unset, .unset] [(.int lz)])) τ
          refine XS.ifNo X218.here hx rfl (Jvm.hb hby at_383) rfl ((if0 _ _).trans (teq ql).2) ?_
          refine XS.iload X218.here hx rfl (Jvm.hb hby at_386) rfl ?_
          exact kt)
        by_cases qs : sm = (0 : Int32)
        · skip
          have pre256 := fun (τ : State) kt => pre255 τ (by
            show Steps p.tables e below (T218.setTop (mkF m 388 #[.val (.int aa), .val (.int gg), .val (.int d0), .val (.int m0), .val (.int f0), .val (.int k0), .val (.int hc), .val (.int fk), .val (.int lo), .val (.int uk), .val (.int oo), .val (.long vG), .second, .val (.long vD), .second, .val (.long vm), .second, .val (.long vF), .second, .val (.long vc), .second, .val (.int ((XT.ushr k0 (8 : Int32)) &&& (31 : Int32))), .val (.long vp), .second, .val (.double he), .second, .val (.double fa), .second, .val (.double li), .second, .val (.int cp), .val (.double us), .second, .val (.double ot), .second, .val (.double ww), .second, .val (.int ct), .val (.int hh), .val (.int lz), .val (.int sm), .unset, .unset] [(.int sm)])) τ
            refine XS.ifYes X218.here hx rfl (pc0 := 388) (pc' := 397) rfl (Jvm.hb hby at_388) rfl ((if0 _ _).trans (teq qs).1) (by decide) (by decide) ?_
            refine XS.iload X218.here hx rfl (Jvm.hb hby at_397) rfl ?_
            refine XS.ifYes X218.here hx rfl (pc0 := 399) (pc' := 408) rfl (Jvm.hb hby at_399) rfl ((if0 _ _).trans (teq qs).1) (by decide) (by decide) ?_
            refine XS.iload X218.here hx rfl (Jvm.hb hby at_408) rfl ?_
            exact kt)
          by_cases qo : oo = (0 : Int32)
          · skip
            have pre257 := fun (τ : State) kt => pre256 τ (by
              show Steps p.tables e below (T218.setTop (mkF m 410 #[.val (.int aa), .val (.int gg), .val (.int d0), .val (.int m0), .val (.int f0), .val (.int k0), .val (.int hc), .val (.int fk), .val (.int lo), .val (.int uk), .val (.int oo), .val (.long vG), .second, .val (.long vD), .second, .val (.long vm), .second, .val (.long vF), .second, .val (.long vc), .second, .val (.int ((XT.ushr k0 (8 : Int32)) &&& (31 : Int32))), .val (.long vp), .second, .val (.double he), .second, .val (.double fa), .second, .val (.double li), .second, .val (.int cp), .val (.double us), .second, .val (.double ot), .second, .val (.double ww), .second, .val (.int ct), .val (.int hh), .val (.int lz), .val (.int sm), .unset, .unset] [(.int oo)])) τ
              refine XS.ifNo X218.here hx rfl (Jvm.hb hby at_410) rfl ((if0 _ _).trans (teq qo).2) ?_
              refine own_dconst1 X218.here hx rfl (Jvm.hb hby at_413) ?_
              refine own_dstore X218.here hx rfl (Jvm.hb hby at_414) rfl (l' := #[.val (.int aa), .val (.int gg), .val (.int d0), .val (.int m0), .val (.int f0), .val (.int k0), .val (.int hc), .val (.int fk), .val (.int lo), .val (.int uk), .val (.int oo), .val (.long vG), .second, .val (.long vD), .second, .val (.long vm), .second, .val (.long vF), .second, .val (.long vc), .second, .val (.int ((XT.ushr k0 (8 : Int32)) &&& (31 : Int32))), .val (.long vp), .second, .val (.double he), .second, .val (.double fa), .second, .val (.double li), .second, .val (.int cp), .val (.double us), .second, .val (.double ot), .second, .val (.double ww), .second, .val (.int ct), .val (.int hh), .val (.int lz), .val (.int sm), .val (.double FP.dconst1), .second]) rfl ?_
              refine XS.goto X218.here hx rfl (pc0 := 416) (pc' := 464) rfl (Jvm.hb hby at_416) (by decide) (by decide) ?_
              refine own_dload X218.here hx rfl (Jvm.hb hby at_464) rfl ?_
              refine own_dload X218.here hx rfl (Jvm.hb hby at_466) rfl ?_
              refine own_dcmp X218.here hx rfl (Jvm.hb hby at_468) rfl ?_
              refine XS.ifNo X218.here hx rfl (Jvm.hb hby at_469) rfl ((if0 _ _).trans (teq ((R4 (Or.inr ⟨hj222.mp qc, hj232.mp ql⟩) (hj238.mp qs)).1 qo)).2) ?_
              refine XS.iconst X218.here hx rfl (Jvm.hb hby at_472) ?_
              refine XS.goto X218.here hx rfl (pc0 := 473) (pc' := 477) rfl (Jvm.hb hby at_473) (by decide) (by decide) ?_
              exact kt)
            obtain ⟨fs, hrL, hrun, hended, hW, hsame⟩ := X218.leave (v := some (.int (1 : Int32))) (fun h => by rw [Bd.returns] at h; cases h)
            refine ⟨_, _, cast (congrFun hPS _) (pre257 _ ?_), hrun, hended, _, _, rfl, ?_, ⟨_, rfl⟩, hW, hsame.mono (by decide) (by decide)⟩
            · show Steps p.tables e below (T218.setTop (mkF m 477 #[.val (.int aa), .val (.int gg), .val (.int d0), .val (.int m0), .val (.int f0), .val (.int k0), .val (.int hc), .val (.int fk), .val (.int lo), .val (.int uk), .val (.int oo), .val (.long vG), .second, .val (.long vD), .second, .val (.long vm), .second, .val (.long vF), .second, .val (.long vc), .second, .val (.int ((XT.ushr k0 (8 : Int32)) &&& (31 : Int32))), .val (.long vp), .second, .val (.double he), .second, .val (.double fa), .second, .val (.double li), .second, .val (.int cp), .val (.double us), .second, .val (.double ot), .second, .val (.double ww), .second, .val (.int ct), .val (.int hh), .val (.int lz), .val (.int sm), .val (.double FP.dconst1), .second] [(.int (1 : Int32))])) _
              exact retN X218 hx (t := .boolean) Bd.returns (by simp) (Jvm.hb hby at_477) hrL
            · show Q0 n0 _ T218.heap _
              exact ⟨rfl, N218⟩
          · skip
            have pre258 := fun (τ : State) kt => pre256 τ (by
              show Steps p.tables e below (T218.setTop (mkF m 410 #[.val (.int aa), .val (.int gg), .val (.int d0), .val (.int m0), .val (.int f0), .val (.int k0), .val (.int hc), .val (.int fk), .val (.int lo), .val (.int uk), .val (.int oo), .val (.long vG), .second, .val (.long vD), .second, .val (.long vm), .second, .val (.long vF), .second, .val (.long vc), .second, .val (.int ((XT.ushr k0 (8 : Int32)) &&& (31 : Int32))), .val (.long vp), .second, .val (.double he), .second, .val (.double fa), .second, .val (.double li), .second, .val (.int cp), .val (.double us), .second, .val (.double ot), .second, .val (.double ww), .second, .val (.int ct), .val (.int hh), .val (.int lz), .val (.int sm), .unset, .unset] [(.int oo)])) τ
              refine XS.ifYes X218.here hx rfl (pc0 := 410) (pc' := 419) rfl (Jvm.hb hby at_410) rfl ((if0 _ _).trans (feq qo).2) (by decide) (by decide) ?_
              refine XS.iload X218.here hx rfl (Jvm.hb hby at_419) rfl ?_
              exact kt)
            by_cases qp : cp = (0 : Int32)
            · skip
              obtain ⟨_, T259, L259, X259, ⟨rfl, Nq259, eq259⟩, st259⟩ := own_stat (y := own_mn7) X218 hx hZ hown (own_W61 hw) (own_W62 hw) (by decide) (rmSh l Z a0 hw [] ct vD vG vm vc vp T215.heap n0 (Nat.le_trans Z0 K215.1) (own_ms hB).1 (own_ms hB).2) (own_W64 hw) (own_W63 hw) 0 (by decide) (by decide) eq218 (mkF m 459 #[.val (.int aa), .val (.int gg), .val (.int d0), .val (.int m0), .val (.int f0), .val (.int k0), .val (.int hc), .val (.int fk), .val (.int lo), .val (.int uk), .val (.int oo), .val (.long vG), .second, .val (.long vD), .second, .val (.long vm), .second, .val (.long vF), .second, .val (.long vc), .second, .val (.int ((XT.ushr k0 (8 : Int32)) &&& (31 : Int32))), .val (.long vp), .second, .val (.double he), .second, .val (.double fa), .second, .val (.double li), .second, .val (.int cp), .val (.double us), .second, .val (.double ot), .second, .val (.double ww), .second, .val (.int ct), .val (.int hh), .val (.int lz), .val (.int sm), .unset, .unset] [(.long vp), (.long vc), (.long vm), (.long vG), (.long vD), (.int ct)]) rfl (by rw [hml]; rfl) [(.int ct), (.long vD), (.long vG), (.long vm), (.long vc), (.long vp)] [] rfl (lenOf own_pd__ZJJJJJ_D rfl) rfl (Nat.le_refl _) (Jvm.hb hby at_459) (by decide) (by decide)
              have N259 := Fr.app N218 Nq259
              have pre260 := fun (τ : State) kt => pre258 τ (by
                show Steps p.tables e below (T218.setTop (mkF m 421 #[.val (.int aa), .val (.int gg), .val (.int d0), .val (.int m0), .val (.int f0), .val (.int k0), .val (.int hc), .val (.int fk), .val (.int lo), .val (.int uk), .val (.int oo), .val (.long vG), .second, .val (.long vD), .second, .val (.long vm), .second, .val (.long vF), .second, .val (.long vc), .second, .val (.int ((XT.ushr k0 (8 : Int32)) &&& (31 : Int32))), .val (.long vp), .second, .val (.double he), .second, .val (.double fa), .second, .val (.double li), .second, .val (.int cp), .val (.double us), .second, .val (.double ot), .second, .val (.double ww), .second, .val (.int ct), .val (.int hh), .val (.int lz), .val (.int sm), .unset, .unset] [(.int cp)])) τ
                refine XS.ifYes X218.here hx rfl (pc0 := 421) (pc' := 447) rfl (Jvm.hb hby at_421) rfl ((if0 _ _).trans (teq qp).1) (by decide) (by decide) ?_
                refine XS.iload X218.here hx rfl (Jvm.hb hby at_447) rfl ?_
                refine XT.lload X218.here hx rfl (Jvm.hb hby at_449) rfl ?_
                refine XT.lload X218.here hx rfl (Jvm.hb hby at_451) rfl ?_
                refine XT.lload X218.here hx rfl (Jvm.hb hby at_453) rfl ?_
                refine XT.lload X218.here hx rfl (Jvm.hb hby at_455) rfl ?_
                refine XT.lload X218.here hx rfl (Jvm.hb hby at_457) rfl ?_
                exact st259 τ kt)
              have pre261 := fun (τ : State) kt => pre260 τ (by
                show Steps p.tables e below (T259.setTop (mkF m 462 #[.val (.int aa), .val (.int gg), .val (.int d0), .val (.int m0), .val (.int f0), .val (.int k0), .val (.int hc), .val (.int fk), .val (.int lo), .val (.int uk), .val (.int oo), .val (.long vG), .second, .val (.long vD), .second, .val (.long vm), .second, .val (.long vF), .second, .val (.long vc), .second, .val (.int ((XT.ushr k0 (8 : Int32)) &&& (31 : Int32))), .val (.long vp), .second, .val (.double he), .second, .val (.double fa), .second, .val (.double li), .second, .val (.int cp), .val (.double us), .second, .val (.double ot), .second, .val (.double ww), .second, .val (.int ct), .val (.int hh), .val (.int lz), .val (.int sm), .unset, .unset] [(.double (own_share ct vD vG vm vc vp))])) τ
                refine own_dstore X259.here hx rfl (Jvm.hb hby at_462) rfl (l' := #[.val (.int aa), .val (.int gg), .val (.int d0), .val (.int m0), .val (.int f0), .val (.int k0), .val (.int hc), .val (.int fk), .val (.int lo), .val (.int uk), .val (.int oo), .val (.long vG), .second, .val (.long vD), .second, .val (.long vm), .second, .val (.long vF), .second, .val (.long vc), .second, .val (.int ((XT.ushr k0 (8 : Int32)) &&& (31 : Int32))), .val (.long vp), .second, .val (.double he), .second, .val (.double fa), .second, .val (.double li), .second, .val (.int cp), .val (.double us), .second, .val (.double ot), .second, .val (.double ww), .second, .val (.int ct), .val (.int hh), .val (.int lz), .val (.int sm), .val (.double (own_share ct vD vG vm vc vp)), .second]) rfl ?_
                refine own_dload X259.here hx rfl (Jvm.hb hby at_464) rfl ?_
                refine own_dload X259.here hx rfl (Jvm.hb hby at_466) rfl ?_
                refine own_dcmp X259.here hx rfl (Jvm.hb hby at_468) rfl ?_
                refine XS.ifNo X259.here hx rfl (Jvm.hb hby at_469) rfl ((if0 _ _).trans (teq ((R4 (Or.inr ⟨hj222.mp qc, hj232.mp ql⟩) (hj238.mp qs)).2.2 qo (hj196.mp qp) ct hj222)).2) ?_
                refine XS.iconst X259.here hx rfl (Jvm.hb hby at_472) ?_
                refine XS.goto X259.here hx rfl (pc0 := 473) (pc' := 477) rfl (Jvm.hb hby at_473) (by decide) (by decide) ?_
                exact kt)
              obtain ⟨fs, hrL, hrun, hended, hW, hsame⟩ := X259.leave (v := some (.int (1 : Int32))) (fun h => by rw [Bd.returns] at h; cases h)
              refine ⟨_, _, cast (congrFun hPS _) (pre261 _ ?_), hrun, hended, _, _, rfl, ?_, ⟨_, rfl⟩, hW, hsame.mono (by decide) (by decide)⟩
              · show Steps p.tables e below (T259.setTop (mkF m 477 #[.val (.int aa), .val (.int gg), .val (.int d0), .val (.int m0), .val (.int f0), .val (.int k0), .val (.int hc), .val (.int fk), .val (.int lo), .val (.int uk), .val (.int oo), .val (.long vG), .second, .val (.long vD), .second, .val (.long vm), .second, .val (.long vF), .second, .val (.long vc), .second, .val (.int ((XT.ushr k0 (8 : Int32)) &&& (31 : Int32))), .val (.long vp), .second, .val (.double he), .second, .val (.double fa), .second, .val (.double li), .second, .val (.int cp), .val (.double us), .second, .val (.double ot), .second, .val (.double ww), .second, .val (.int ct), .val (.int hh), .val (.int lz), .val (.int sm), .val (.double (own_share ct vD vG vm vc vp)), .second] [(.int (1 : Int32))])) _
                exact retN X259 hx (t := .boolean) Bd.returns (by simp) (Jvm.hb hby at_477) hrL
              · show Q0 n0 _ T259.heap _
                exact ⟨rfl, N259⟩
            · skip
              have pre262 := fun (τ : State) kt => pre258 τ (by
                show Steps p.tables e below (T218.setTop (mkF m 421 #[.val (.int aa), .val (.int gg), .val (.int d0), .val (.int m0), .val (.int f0), .val (.int k0), .val (.int hc), .val (.int fk), .val (.int lo), .val (.int uk), .val (.int oo), .val (.long vG), .second, .val (.long vD), .second, .val (.long vm), .second, .val (.long vF), .second, .val (.long vc), .second, .val (.int ((XT.ushr k0 (8 : Int32)) &&& (31 : Int32))), .val (.long vp), .second, .val (.double he), .second, .val (.double fa), .second, .val (.double li), .second, .val (.int cp), .val (.double us), .second, .val (.double ot), .second, .val (.double ww), .second, .val (.int ct), .val (.int hh), .val (.int lz), .val (.int sm), .unset, .unset] [(.int cp)])) τ
                refine XS.ifNo X218.here hx rfl (Jvm.hb hby at_421) rfl ((if0 _ _).trans (feq qp).1) ?_
                refine XS.iload X218.here hx rfl (Jvm.hb hby at_424) rfl ?_
                refine XS.ifYes X218.here hx rfl (pc0 := 426) (pc' := 435) rfl (Jvm.hb hby at_426) rfl ((if0 _ _).trans (teq qc).1) (by decide) (by decide) ?_
                refine X218.ldc2DoubleC hx hown (mvT hZ (own_W65 hw)) (g := (mkF m 435 #[.val (.int aa), .val (.int gg), .val (.int d0), .val (.int m0), .val (.int f0), .val (.int k0), .val (.int hc), .val (.int fk), .val (.int lo), .val (.int uk), .val (.int oo), .val (.long vG), .second, .val (.long vD), .second, .val (.long vm), .second, .val (.long vF), .second, .val (.long vc), .second, .val (.int ((XT.ushr k0 (8 : Int32)) &&& (31 : Int32))), .val (.long vp), .second, .val (.double he), .second, .val (.double fa), .second, .val (.double li), .second, .val (.int cp), .val (.double us), .second, .val (.double ot), .second, .val (.double ww), .second, .val (.int ct), .val (.int hh), .val (.int lz), .val (.int sm), .unset, .unset] [])) rfl (Jvm.hb hby at_435) _ ?_
                refine XT.lload X218.here hx rfl (Jvm.hb hby at_438) rfl ?_
                refine own_l2d X218.here hx rfl (Jvm.hb hby at_440) rfl ?_
                refine own_dmul X218.here hx rfl (Jvm.hb hby at_441) rfl (n2) ?_
                refine own_dstore X218.here hx rfl (Jvm.hb hby at_442) rfl (l' := #[.val (.int aa), .val (.int gg), .val (.int d0), .val (.int m0), .val (.int f0), .val (.int k0), .val (.int hc), .val (.int fk), .val (.int lo), .val (.int uk), .val (.int oo), .val (.long vG), .second, .val (.long vD), .second, .val (.long vm), .second, .val (.long vF), .second, .val (.long vc), .second, .val (.int ((XT.ushr k0 (8 : Int32)) &&& (31 : Int32))), .val (.long vp), .second, .val (.double he), .second, .val (.double fa), .second, .val (.double li), .second, .val (.int cp), .val (.double us), .second, .val (.double ot), .second, .val (.double ww), .second, .val (.int ct), .val (.int hh), .val (.int lz), .val (.int sm), .val (.double (FP.dmul (4606732058837280358 : UInt64) (FP.l2d vG))), .second]) rfl ?_
                refine XS.goto X218.here hx rfl (pc0 := 444) (pc' := 464) rfl (Jvm.hb hby at_444) (by decide) (by decide) ?_
                refine own_dload X218.here hx rfl (Jvm.hb hby at_464) rfl ?_
                refine own_dload X218.here hx rfl (Jvm.hb hby at_466) rfl ?_
                refine own_dcmp X218.here hx rfl (Jvm.hb hby at_468) rfl ?_
                refine XS.ifNo X218.here hx rfl (Jvm.hb hby at_469) rfl ((if0 _ _).trans (teq (((R4 (Or.inr ⟨hj222.mp qc, hj232.mp ql⟩) (hj238.mp qs)).2.1 qo (Decidable.of_not_not fun r => qp (hj196.mpr r))).2 (hj222.mp qc))).2) ?_
                refine XS.iconst X218.here hx rfl (Jvm.hb hby at_472) ?_
                refine XS.goto X218.here hx rfl (pc0 := 473) (pc' := 477) rfl (Jvm.hb hby at_473) (by decide) (by decide) ?_
                exact kt)
              obtain ⟨fs, hrL, hrun, hended, hW, hsame⟩ := X218.leave (v := some (.int (1 : Int32))) (fun h => by rw [Bd.returns] at h; cases h)
              refine ⟨_, _, cast (congrFun hPS _) (pre262 _ ?_), hrun, hended, _, _, rfl, ?_, ⟨_, rfl⟩, hW, hsame.mono (by decide) (by decide)⟩
              · show Steps p.tables e below (T218.setTop (mkF m 477 #[.val (.int aa), .val (.int gg), .val (.int d0), .val (.int m0), .val (.int f0), .val (.int k0), .val (.int hc), .val (.int fk), .val (.int lo), .val (.int uk), .val (.int oo), .val (.long vG), .second, .val (.long vD), .second, .val (.long vm), .second, .val (.long vF), .second, .val (.long vc), .second, .val (.int ((XT.ushr k0 (8 : Int32)) &&& (31 : Int32))), .val (.long vp), .second, .val (.double he), .second, .val (.double fa), .second, .val (.double li), .second, .val (.int cp), .val (.double us), .second, .val (.double ot), .second, .val (.double ww), .second, .val (.int ct), .val (.int hh), .val (.int lz), .val (.int sm), .val (.double (FP.dmul (4606732058837280358 : UInt64) (FP.l2d vG))), .second] [(.int (1 : Int32))])) _
                exact retN X218 hx (t := .boolean) Bd.returns (by simp) (Jvm.hb hby at_477) hrL
              · show Q0 n0 _ T218.heap _
                exact ⟨rfl, N218⟩
        · skip
          have pre263 := fun (τ : State) kt => pre255 τ (by
            show Steps p.tables e below (T218.setTop (mkF m 388 #[.val (.int aa), .val (.int gg), .val (.int d0), .val (.int m0), .val (.int f0), .val (.int k0), .val (.int hc), .val (.int fk), .val (.int lo), .val (.int uk), .val (.int oo), .val (.long vG), .second, .val (.long vD), .second, .val (.long vm), .second, .val (.long vF), .second, .val (.long vc), .second, .val (.int ((XT.ushr k0 (8 : Int32)) &&& (31 : Int32))), .val (.long vp), .second, .val (.double he), .second, .val (.double fa), .second, .val (.double li), .second, .val (.int cp), .val (.double us), .second, .val (.double ot), .second, .val (.double ww), .second, .val (.int ct), .val (.int hh), .val (.int lz), .val (.int sm), .unset, .unset] [(.int sm)])) τ
            refine XS.ifNo X218.here hx rfl (Jvm.hb hby at_388) rfl ((if0 _ _).trans (feq qs).1) ?_
            refine own_dconst1 X218.here hx rfl (Jvm.hb hby at_391) ?_
            refine own_dstore X218.here hx rfl (Jvm.hb hby at_392) rfl (l' := #[.val (.int aa), .val (.int gg), .val (.int d0), .val (.int m0), .val (.int f0), .val (.int k0), .val (.int hc), .val (.int fk), .val (.int lo), .val (.int uk), .val (.int oo), .val (.long vG), .second, .val (.long vD), .second, .val (.long vm), .second, .val (.long vF), .second, .val (.long vc), .second, .val (.int ((XT.ushr k0 (8 : Int32)) &&& (31 : Int32))), .val (.long vp), .second, .val (.double he), .second, .val (.double fa), .second, .val (.double li), .second, .val (.int cp), .val (.double us), .second, .val (.double ot), .second, .val (.double ww), .second, .val (.int ct), .val (.int hh), .val (.int lz), .val (.int sm), .val (.double FP.dconst1), .second]) rfl ?_
            refine XS.goto X218.here hx rfl (pc0 := 394) (pc' := 464) rfl (Jvm.hb hby at_394) (by decide) (by decide) ?_
            refine own_dload X218.here hx rfl (Jvm.hb hby at_464) rfl ?_
            refine own_dload X218.here hx rfl (Jvm.hb hby at_466) rfl ?_
            refine own_dcmp X218.here hx rfl (Jvm.hb hby at_468) rfl ?_
            refine XS.ifNo X218.here hx rfl (Jvm.hb hby at_469) rfl ((if0 _ _).trans (teq (R2 (fun r => qh (hj228.mpr r)) (hj222.mp qc) (Or.inr (Or.inr (Decidable.of_not_not fun r => qs (hj238.mpr r)))))).2) ?_
            refine XS.iconst X218.here hx rfl (Jvm.hb hby at_472) ?_
            refine XS.goto X218.here hx rfl (pc0 := 473) (pc' := 477) rfl (Jvm.hb hby at_473) (by decide) (by decide) ?_
            exact kt)
          obtain ⟨fs, hrL, hrun, hended, hW, hsame⟩ := X218.leave (v := some (.int (1 : Int32))) (fun h => by rw [Bd.returns] at h; cases h)
          refine ⟨_, _, cast (congrFun hPS _) (pre263 _ ?_), hrun, hended, _, _, rfl, ?_, ⟨_, rfl⟩, hW, hsame.mono (by decide) (by decide)⟩
          · show Steps p.tables e below (T218.setTop (mkF m 477 #[.val (.int aa), .val (.int gg), .val (.int d0), .val (.int m0), .val (.int f0), .val (.int k0), .val (.int hc), .val (.int fk), .val (.int lo), .val (.int uk), .val (.int oo), .val (.long vG), .second, .val (.long vD), .second, .val (.long vm), .second, .val (.long vF), .second, .val (.long vc), .second, .val (.int ((XT.ushr k0 (8 : Int32)) &&& (31 : Int32))), .val (.long vp), .second, .val (.double he), .second, .val (.double fa), .second, .val (.double li), .second, .val (.int cp), .val (.double us), .second, .val (.double ot), .second, .val (.double ww), .second, .val (.int ct), .val (.int hh), .val (.int lz), .val (.int sm), .val (.double FP.dconst1), .second] [(.int (1 : Int32))])) _
            exact retN X218 hx (t := .boolean) Bd.returns (by simp) (Jvm.hb hby at_477) hrL
          · show Q0 n0 _ T218.heap _
            exact ⟨rfl, N218⟩
      · skip
        have pre264 := fun (τ : State) kt => pre254 τ (by
          show Steps p.tables e below (T218.setTop (mkF m 383 #[.val (.int aa), .val (.int gg), .val (.int d0), .val (.int m0), .val (.int f0), .val (.int k0), .val (.int hc), .val (.int fk), .val (.int lo), .val (.int uk), .val (.int oo), .val (.long vG), .second, .val (.long vD), .second, .val (.long vm), .second, .val (.long vF), .second, .val (.long vc), .second, .val (.int ((XT.ushr k0 (8 : Int32)) &&& (31 : Int32))), .val (.long vp), .second, .val (.double he), .second, .val (.double fa), .second, .val (.double li), .second, .val (.int cp), .val (.double us), .second, .val (.double ot), .second, .val (.double ww), .second, .val (.int ct), .val (.int hh), .val (.int lz), .val (.int sm), .unset, .unset] [(.int lz)])) τ
          refine XS.ifYes X218.here hx rfl (pc0 := 383) (pc' := 391) rfl (Jvm.hb hby at_383) rfl ((if0 _ _).trans (feq ql).2) (by decide) (by decide) ?_
          refine own_dconst1 X218.here hx rfl (Jvm.hb hby at_391) ?_
          refine own_dstore X218.here hx rfl (Jvm.hb hby at_392) rfl (l' := #[.val (.int aa), .val (.int gg), .val (.int d0), .val (.int m0), .val (.int f0), .val (.int k0), .val (.int hc), .val (.int fk), .val (.int lo), .val (.int uk), .val (.int oo), .val (.long vG), .second, .val (.long vD), .second, .val (.long vm), .second, .val (.long vF), .second, .val (.long vc), .second, .val (.int ((XT.ushr k0 (8 : Int32)) &&& (31 : Int32))), .val (.long vp), .second, .val (.double he), .second, .val (.double fa), .second, .val (.double li), .second, .val (.int cp), .val (.double us), .second, .val (.double ot), .second, .val (.double ww), .second, .val (.int ct), .val (.int hh), .val (.int lz), .val (.int sm), .val (.double FP.dconst1), .second]) rfl ?_
          refine XS.goto X218.here hx rfl (pc0 := 394) (pc' := 464) rfl (Jvm.hb hby at_394) (by decide) (by decide) ?_
          refine own_dload X218.here hx rfl (Jvm.hb hby at_464) rfl ?_
          refine own_dload X218.here hx rfl (Jvm.hb hby at_466) rfl ?_
          refine own_dcmp X218.here hx rfl (Jvm.hb hby at_468) rfl ?_
          refine XS.ifNo X218.here hx rfl (Jvm.hb hby at_469) rfl ((if0 _ _).trans (teq (R2 (fun r => qh (hj228.mpr r)) (hj222.mp qc) (Decidable.byCases (fun (r : lo = 0) => Or.inl r) (fun r => Decidable.byCases (fun (y : fk = 0) => Or.inr (Or.inl y)) (fun y => absurd (hj232.mpr ⟨r, y⟩) ql))))).2) ?_
          refine XS.iconst X218.here hx rfl (Jvm.hb hby at_472) ?_
          refine XS.goto X218.here hx rfl (pc0 := 473) (pc' := 477) rfl (Jvm.hb hby at_473) (by decide) (by decide) ?_
          exact kt)
        obtain ⟨fs, hrL, hrun, hended, hW, hsame⟩ := X218.leave (v := some (.int (1 : Int32))) (fun h => by rw [Bd.returns] at h; cases h)
        refine ⟨_, _, cast (congrFun hPS _) (pre264 _ ?_), hrun, hended, _, _, rfl, ?_, ⟨_, rfl⟩, hW, hsame.mono (by decide) (by decide)⟩
        · show Steps p.tables e below (T218.setTop (mkF m 477 #[.val (.int aa), .val (.int gg), .val (.int d0), .val (.int m0), .val (.int f0), .val (.int k0), .val (.int hc), .val (.int fk), .val (.int lo), .val (.int uk), .val (.int oo), .val (.long vG), .second, .val (.long vD), .second, .val (.long vm), .second, .val (.long vF), .second, .val (.long vc), .second, .val (.int ((XT.ushr k0 (8 : Int32)) &&& (31 : Int32))), .val (.long vp), .second, .val (.double he), .second, .val (.double fa), .second, .val (.double li), .second, .val (.int cp), .val (.double us), .second, .val (.double ot), .second, .val (.double ww), .second, .val (.int ct), .val (.int hh), .val (.int lz), .val (.int sm), .val (.double FP.dconst1), .second] [(.int (1 : Int32))])) _
          exact retN X218 hx (t := .boolean) Bd.returns (by simp) (Jvm.hb hby at_477) hrL
        · show Q0 n0 _ T218.heap _
          exact ⟨rfl, N218⟩
    · skip
      have pre265 := fun (τ : State) kt => pre253 τ (by
        show Steps p.tables e below (T218.setTop (mkF m 365 #[.val (.int aa), .val (.int gg), .val (.int d0), .val (.int m0), .val (.int f0), .val (.int k0), .val (.int hc), .val (.int fk), .val (.int lo), .val (.int uk), .val (.int oo), .val (.long vG), .second, .val (.long vD), .second, .val (.long vm), .second, .val (.long vF), .second, .val (.long vc), .second, .val (.int ((XT.ushr k0 (8 : Int32)) &&& (31 : Int32))), .val (.long vp), .second, .val (.double he), .second, .val (.double fa), .second, .val (.double li), .second, .val (.int cp), .val (.double us), .second, .val (.double ot), .second, .val (.double ww), .second, .val (.int ct), .val (.int hh), .val (.int lz), .val (.int sm), .unset, .unset] [(.int ct)])) τ
        refine XS.ifNo X218.here hx rfl (Jvm.hb hby at_365) rfl ((if0 _ _).trans (feq qc).1) ?_
        refine XT.lload X218.here hx rfl (Jvm.hb hby at_368) rfl ?_
        refine own_l2d X218.here hx rfl (Jvm.hb hby at_370) rfl ?_
        refine own_dstore X218.here hx rfl (Jvm.hb hby at_371) rfl (l' := #[.val (.int aa), .val (.int gg), .val (.int d0), .val (.int m0), .val (.int f0), .val (.int k0), .val (.int hc), .val (.int fk), .val (.int lo), .val (.int uk), .val (.int oo), .val (.long vG), .second, .val (.long vD), .second, .val (.long vm), .second, .val (.long vF), .second, .val (.long vc), .second, .val (.int ((XT.ushr k0 (8 : Int32)) &&& (31 : Int32))), .val (.long vp), .second, .val (.double he), .second, .val (.double fa), .second, .val (.double li), .second, .val (.int cp), .val (.double us), .second, .val (.double ot), .second, .val (.double ww), .second, .val (.int ct), .val (.int hh), .val (.int lz), .val (.int sm), .val (.double (FP.l2d vm)), .second]) rfl ?_
        refine XS.goto X218.here hx rfl (pc0 := 373) (pc' := 464) rfl (Jvm.hb hby at_373) (by decide) (by decide) ?_
        refine own_dload X218.here hx rfl (Jvm.hb hby at_464) rfl ?_
        refine own_dload X218.here hx rfl (Jvm.hb hby at_466) rfl ?_
        refine own_dcmp X218.here hx rfl (Jvm.hb hby at_468) rfl ?_
        refine XS.ifNo X218.here hx rfl (Jvm.hb hby at_469) rfl ((if0 _ _).trans (teq (R1 (fun r => qh (hj228.mpr r)) (fun r => qc (hj222.mpr (Or.inl r))) (fun r => qc (hj222.mpr (Or.inr r))))).2) ?_
        refine XS.iconst X218.here hx rfl (Jvm.hb hby at_472) ?_
        refine XS.goto X218.here hx rfl (pc0 := 473) (pc' := 477) rfl (Jvm.hb hby at_473) (by decide) (by decide) ?_
        exact kt)
      obtain ⟨fs, hrL, hrun, hended, hW, hsame⟩ := X218.leave (v := some (.int (1 : Int32))) (fun h => by rw [Bd.returns] at h; cases h)
      refine ⟨_, _, cast (congrFun hPS _) (pre265 _ ?_), hrun, hended, _, _, rfl, ?_, ⟨_, rfl⟩, hW, hsame.mono (by decide) (by decide)⟩
      · show Steps p.tables e below (T218.setTop (mkF m 477 #[.val (.int aa), .val (.int gg), .val (.int d0), .val (.int m0), .val (.int f0), .val (.int k0), .val (.int hc), .val (.int fk), .val (.int lo), .val (.int uk), .val (.int oo), .val (.long vG), .second, .val (.long vD), .second, .val (.long vm), .second, .val (.long vF), .second, .val (.long vc), .second, .val (.int ((XT.ushr k0 (8 : Int32)) &&& (31 : Int32))), .val (.long vp), .second, .val (.double he), .second, .val (.double fa), .second, .val (.double li), .second, .val (.int cp), .val (.double us), .second, .val (.double ot), .second, .val (.double ww), .second, .val (.int ct), .val (.int hh), .val (.int lz), .val (.int sm), .val (.double (FP.l2d vm)), .second] [(.int (1 : Int32))])) _
        exact retN X218 hx (t := .boolean) Bd.returns (by simp) (Jvm.hb hby at_477) hrL
      · show Q0 n0 _ T218.heap _
        exact ⟨rfl, N218⟩
set_option maxRecDepth 65536 in
set_option maxHeartbeats 40000000 in
theorem comes_1 {Post : Tables → Env → Array Value → State → Outcome → State → Prop} (hpost : ∀ tb e args s v u, (limb_1_1.after args s (.returned v) u = true ∧ limb_1_2.after args s (.returned v) u = true ∧ True) → FrameEnd s (.returned v) u (Jvm.fieldLocs frame_1_writes args s ++ Jvm.arrayLocs frame_1_arrays args s ++ Jvm.staticLocs frame_1_statics s) 16 128 → Post tb e args s (.returned v) u) :
    ArmFor flags0 classFile x code maxLocals ret World_1 tables_1 room_1 Calls_1 rest_1 Pre_1 Post := by
  intro l hfl _ _ p e ha hc hk s m args below hf hA hF happ hP
  obtain ⟨hcalls, hrest, hpre⟩ := hP
  obtain ⟨-, -, -, hnamed, -, -, -, hat⟩ := (Spec.applies_iff hf).mp happ
  obtain ⟨hg, hn⟩ := and_e (Cond.before_iff.mp (show (Jvm.Cond.and given_1 narrow_1).before args s = true from hpre))
  obtain ⟨g1, g2⟩ := and_e hg
  obtain ⟨g3, g4⟩ := and_e g2
  obtain ⟨g5, g6⟩ := and_e g4
  obtain ⟨g7, g8⟩ := and_e g6
  obtain ⟨g9, g10⟩ := and_e g8
  obtain ⟨g11, g12⟩ := and_e g10
  obtain ⟨w0, w1, w2, w3, w4, w5, rfl⟩ : ∃ w0 w1 w2 w3 w4 w5 : Value, args = #[w0, w1, w2, w3, w4, w5] := by
    have hs : args.size = 6 := by simpa [Cond.value, given_1] using g1
    obtain ⟨L⟩ := args
    match L, hs with
    | [w0, w1, w2, w3, w4, w5], _ => exact ⟨w0, w1, w2, w3, w4, w5, rfl⟩
  have hw := fun d (hd : d ∈ tables_1) => atoms_spec (ws := Jvm.Cond.code x code maxLocals ret :: tables_1) hat d (List.mem_cons_of_mem _ hd)
  obtain ⟨i0, ei0⟩ := is_v g3
  obtain rfl : w0 = (.int i0) := Option.some.inj ei0
  obtain ⟨i1, ei1⟩ := is_v g5
  obtain rfl : w1 = (.int i1) := Option.some.inj ei1
  obtain ⟨i2, ei2⟩ := is_v g7
  obtain rfl : w2 = (.int i2) := Option.some.inj ei2
  obtain ⟨i3, ei3⟩ := is_v g9
  obtain rfl : w3 = (.int i3) := Option.some.inj ei3
  obtain ⟨i4, ei4⟩ := is_v g11
  obtain rfl : w4 = (.int i4) := Option.some.inj ei4
  obtain ⟨i5, ei5⟩ := is_v g12
  obtain rfl : w5 = (.int i5) := Option.some.inj ei5
  obtain ⟨n, o, h1, h2, h3, _, L, rfl, ⟨rfl, N⟩, hq⟩ := rm0 l s _ hw tables_1 i0 i1 i2 i3 i4 i5 s.heap s.heap.size (Nat.le_refl _) p e ha hc hk s m _ below hf ((Spec.applies_iff_loose hf).mp happ).1 ⟨rfl, State.Warmed39.refl s, rfl⟩ trivial
  refine ⟨n, _, h1, h2, h3, hpost _ _ _ _ _ _ ⟨Cond.after_iff.mpr rfl, Cond.after_iff.mpr (eq_i res_at (Term.int_eval (1)) rfl), trivial⟩ ⟨hq.1, hq.2.1, (hq.2.2.sift fun y hy => Or.inr (N y hy)).mono (by decide) (by decide)⟩⟩
theorem main_1_1 : Claimed_1_1 := comes_1 fun _ _ _ _ _ _ h hF => ⟨h.1, hF⟩
theorem main_1_2 : Claimed_1_2 := comes_1 fun _ _ _ _ _ _ h hF => ⟨h.2.1, hF⟩
end Jvm.Pilot.@@N@@
namespace Jvm.Pilot.@@N@@
open Jvm Jvm.ClassFile Sem Op Lib Jvm.Free Jvm.Stand Jvm.Pilot.@@N@@.Jvm.D
/-! MADE BY PROGRAM (witnessworld.py) out of the Statement's table words and the real class files: 12 classes; the members and pool entries that the words name. The judged class is class 1, her method 1. -/
namespace start1
open Jvm.ClassFile
def u (s : String) : CpInfo := .utf8 (stringToUtf16 s)
/-- a pool by its gaps: so many unusable entries, then the entry; so many at the end -/
def gap : Nat → List CpInfo → List CpInfo
  | 0, r => r
  | n + 1, r => .unusable :: gap n r
def poolList (es : List (Nat × CpInfo)) (last : Nat) : List CpInfo := es.foldr (fun e r => gap e.1 (e.2 :: r)) (gap last [])
def pool (es : List (Nat × CpInfo)) (last : Nat) : Array CpInfo := ⟨poolList es last⟩
def fileOf (pool : Array CpInfo) (this : Nat) (attrs : Array Attribute := #[]) (ms : Array MethodInfo := #[]) (fl : Nat := 33) (sup : Nat := 0) (ifs : Array Nat := #[]) (fds : Array FieldInfo := #[]) : ClassFile where
  minorVersion := 0
  majorVersion := 65
  constantPool := pool
  accessFlags := fl
  thisClass := this
  superClass := sup
  interfaces := ifs
  fields := fds
  methods := ms
  attributes := attrs
def plain (name : String) (sup : Option ClassId) : Class where
  name := name
  kind := .ordinary
  loader := none
  accessFlags := 33
  super := sup
  interfaces := #[]
  cf := none
  fields := #[]
  methods := #[]
  instanceTypes := #[]
  staticTypes := #[]
  resolved := #[]
  callSites := []
  init := .initialized
  statics := none
  mirror := none

def pool0 : Array CpInfo := pool [(5, u "<init>"), (0, u "()V"), (1, .class_ 10), (1, u "java/lang/Object")] 113

def k0c0 : Code := { maxStack := 0, maxLocals := 1, code := object_method_1_code, exceptionTable := #[], attributes := #[] }
def k0m0 : Method := { name := "<init>", desc := "()V", sig := { parameters := [], returnType := none }, accessFlags := 1, code := some k0c0 }
/-- java/lang/Object -/
def k0 : Class := { plain "java/lang/Object" none with
  accessFlags := 33
  interfaces := #[]
  cf := some (fileOf pool0 8 #[] #[{ accessFlags := 1, nameIndex := 5, descriptorIndex := 6, attributes := #[] }] 33 0 #[] #[])
  fields := #[]
  methods := #[k0m0]
  instanceTypes := #[]
  staticTypes := #[]
  resolved := Array.replicate 124 none
  statics := none }

def pool1 : Array CpInfo := pool [(2, .class_ 4), (1, u "java/lang/Object"), (0, u "<init>"), (0, u "()V"), (0, .integer 65535), (0, .integer 2147483647), (0, .long 9), (1, .long 10), (1, .double 4598175219545276416), (1, .double 4602678819172646912), (1, .class_ 18), (0, u "com/example/meter/meter/demand/Measure"), (0, .methodref 17 20), (0, .nameAndType 5 21), (0, u "(DDDD)V"), (0, .methodref 23 24), (0, .class_ 25), (0, .nameAndType 26 27), (0, u "com/example/meter/meter/allocation/FlowShare"), (0, u "weight"), (0, u "(Lcom/example/meter/meter/demand/Measure;DD)D"), (0, .double 4606732058837280358), (1, .methodref 31 32), (0, .class_ 33), (0, .nameAndType 34 35), (0, u "com/example/meter/meter/allocation/FlowShareWeightPinLaw"), (0, u "share"), (0, u "(ZJJJJJ)D"), (2, u "law"), (0, u "(IIIIII)Z")] 3

def k1m0 : Method := { name := "<init>", desc := "()V", sig := { parameters := [], returnType := none }, accessFlags := 2, code := none }
def k1c1 : Code := { maxStack := 11, maxLocals := 43, code := code, exceptionTable := #[], attributes := #[] }
def k1m1 : Method := { name := "law", desc := "(IIIIII)Z", sig := { parameters := [.int, .int, .int, .int, .int, .int], returnType := some .boolean }, accessFlags := 9, code := some k1c1 }
def k1c2 : Code := { maxStack := 6, maxLocals := 15, code := method_3_code, exceptionTable := #[], attributes := #[] }
def k1m2 : Method := { name := "share", desc := "(ZJJJJJ)D", sig := { parameters := [.boolean, .long, .long, .long, .long, .long], returnType := some .double }, accessFlags := 10, code := some k1c2 }
/-- com/example/meter/meter/allocation/FlowShareWeightPinLaw -/
def k1 : Class := { plain "com/example/meter/meter/allocation/FlowShareWeightPinLaw" (some 0) with
  accessFlags := 49
  interfaces := #[]
  cf := some (fileOf pool1 31 #[] #[{ accessFlags := 2, nameIndex := 5, descriptorIndex := 6, attributes := #[] }, { accessFlags := 9, nameIndex := 38, descriptorIndex := 39, attributes := #[] }, { accessFlags := 10, nameIndex := 34, descriptorIndex := 35, attributes := #[] }] 49 2 #[] #[])
  fields := #[]
  methods := #[k1m0, k1m1, k1m2]
  instanceTypes := #[]
  staticTypes := #[]
  resolved := Array.replicate 43 none
  statics := none }

def pool2 : Array CpInfo := pool [(1, .methodref 2 3), (0, .class_ 4), (0, .nameAndType 5 6), (0, u "java/lang/Object"), (0, u "<init>"), (0, u "()V"), (0, .class_ 8), (0, u "java/lang/Record")] 13

def k2c0 : Code := { maxStack := 1, maxLocals := 1, code := jdk_30_method_1_code, exceptionTable := #[], attributes := #[] }
def k2m0 : Method := { name := "<init>", desc := "()V", sig := { parameters := [], returnType := none }, accessFlags := 4, code := some k2c0 }
/-- java/lang/Record -/
def k2 : Class := { plain "java/lang/Record" (some 0) with
  accessFlags := 1057
  interfaces := #[]
  cf := some (fileOf pool2 7 #[] #[{ accessFlags := 4, nameIndex := 5, descriptorIndex := 6, attributes := #[] }] 1057 2 #[] #[])
  fields := #[]
  methods := #[k2m0]
  instanceTypes := #[]
  staticTypes := #[]
  resolved := Array.replicate 22 none
  statics := none }

def pool3 : Array CpInfo := pool [(1, .methodref 2 3), (0, .class_ 4), (0, .nameAndType 5 6), (0, u "java/lang/Record"), (0, u "<init>"), (0, u "()V"), (0, .fieldref 8 9), (0, .class_ 10), (0, .nameAndType 11 12), (0, u "com/example/meter/meter/demand/Measure"), (0, u "limit"), (0, u "D"), (0, .fieldref 8 14), (0, .nameAndType 15 12), (0, u "used"), (0, .fieldref 8 17), (0, .nameAndType 18 12), (0, u "fastest"), (0, .fieldref 8 20), (0, .nameAndType 21 12), (0, u "held"), (12, u "(DDDD)V"), (6, u "()D")] 23

def k3c0 : Code := { maxStack := 3, maxLocals := 9, code := prog_5_method_1_code, exceptionTable := #[], attributes := #[] }
def k3m0 : Method := { name := "<init>", desc := "(DDDD)V", sig := { parameters := [.double, .double, .double, .double], returnType := none }, accessFlags := 1, code := some k3c0 }
def k3c1 : Code := { maxStack := 2, maxLocals := 1, code := prog_5_method_5_code, exceptionTable := #[], attributes := #[] }
def k3m1 : Method := { name := "limit", desc := "()D", sig := { parameters := [], returnType := some .double }, accessFlags := 1, code := some k3c1 }
def k3c2 : Code := { maxStack := 2, maxLocals := 1, code := prog_5_method_6_code, exceptionTable := #[], attributes := #[] }
def k3m2 : Method := { name := "used", desc := "()D", sig := { parameters := [], returnType := some .double }, accessFlags := 1, code := some k3c2 }
def k3c3 : Code := { maxStack := 2, maxLocals := 1, code := prog_5_method_7_code, exceptionTable := #[], attributes := #[] }
def k3m3 : Method := { name := "fastest", desc := "()D", sig := { parameters := [], returnType := some .double }, accessFlags := 1, code := some k3c3 }
def k3c4 : Code := { maxStack := 2, maxLocals := 1, code := prog_5_method_8_code, exceptionTable := #[], attributes := #[] }
def k3m4 : Method := { name := "held", desc := "()D", sig := { parameters := [], returnType := some .double }, accessFlags := 1, code := some k3c4 }
/-- com/example/meter/meter/demand/Measure -/
def k3 : Class := { plain "com/example/meter/meter/demand/Measure" (some 2) with
  accessFlags := 49
  interfaces := #[]
  cf := some (fileOf pool3 8 #[] #[{ accessFlags := 1, nameIndex := 5, descriptorIndex := 34, attributes := #[] }, { accessFlags := 1, nameIndex := 11, descriptorIndex := 41, attributes := #[] }, { accessFlags := 1, nameIndex := 15, descriptorIndex := 41, attributes := #[] }, { accessFlags := 1, nameIndex := 18, descriptorIndex := 41, attributes := #[] }, { accessFlags := 1, nameIndex := 21, descriptorIndex := 41, attributes := #[] }] 49 2 #[] #[{ accessFlags := 18, nameIndex := 11, descriptorIndex := 12, attributes := #[] }, { accessFlags := 18, nameIndex := 15, descriptorIndex := 12, attributes := #[] }, { accessFlags := 18, nameIndex := 18, descriptorIndex := 12, attributes := #[] }, { accessFlags := 18, nameIndex := 21, descriptorIndex := 12, attributes := #[] }])
  fields := #[{ name := "limit", type := .double, accessFlags := 18, slot := 0, constantValue := 0 }, { name := "used", type := .double, accessFlags := 18, slot := 1, constantValue := 0 }, { name := "fastest", type := .double, accessFlags := 18, slot := 2, constantValue := 0 }, { name := "held", type := .double, accessFlags := 18, slot := 3, constantValue := 0 }]
  methods := #[k3m0, k3m1, k3m2, k3m3, k3m4]
  instanceTypes := #[.double, .double, .double, .double]
  staticTypes := #[]
  resolved := Array.replicate 65 none
  statics := none }

def pool4 : Array CpInfo := pool [(2, .class_ 4), (1, u "java/lang/Object"), (0, u "<init>"), (0, u "()V"), (0, .methodref 8 9), (0, .class_ 10), (0, .nameAndType 11 12), (0, u "com/example/meter/meter/demand/Measure"), (0, u "fastest"), (0, u "()D"), (0, .class_ 14), (0, u "com/example/meter/meter/allocation/FlowShare"), (0, .methodref 8 16), (0, .nameAndType 17 12), (0, u "limit"), (0, .methodref 8 19), (0, .nameAndType 20 12), (0, u "used"), (0, .double 4606732058837280358), (1, .methodref 24 25), (0, .class_ 26), (0, .nameAndType 27 28), (0, u "java/lang/Math"), (0, u "min"), (0, u "(DD)D"), (0, .methodref 8 30), (0, .nameAndType 31 12), (0, u "held"), (0, .double 4602678819172646912), (1, .methodref 24 35), (0, .nameAndType 36 28), (0, u "max"), (0, u "HELD"), (0, u "D"), (1, u "MOST"), (0, u "NONE"), (4, u "weight"), (0, u "(Lcom/example/meter/meter/demand/Measure;DD)D")] 5

def k4m0 : Method := { name := "<init>", desc := "()V", sig := { parameters := [], returnType := none }, accessFlags := 2, code := none }
def k4c1 : Code := { maxStack := 6, maxLocals := 12, code := prog_1_method_2_code, exceptionTable := #[], attributes := #[] }
def k4m1 : Method := { name := "weight", desc := "(Lcom/example/meter/meter/demand/Measure;DD)D", sig := { parameters := [(.object "com/example/meter/meter/demand/Measure"), .double, .double], returnType := some .double }, accessFlags := 9, code := some k4c1 }
/-- com/example/meter/meter/allocation/FlowShare -/
def k4 : Class := { plain "com/example/meter/meter/allocation/FlowShare" (some 0) with
  accessFlags := 33
  interfaces := #[]
  cf := some (fileOf pool4 13 #[] #[{ accessFlags := 2, nameIndex := 5, descriptorIndex := 6, attributes := #[] }, { accessFlags := 9, nameIndex := 46, descriptorIndex := 47, attributes := #[] }] 33 2 #[] #[{ accessFlags := 26, nameIndex := 37, descriptorIndex := 38, attributes := #[] }, { accessFlags := 26, nameIndex := 40, descriptorIndex := 38, attributes := #[] }, { accessFlags := 26, nameIndex := 41, descriptorIndex := 38, attributes := #[] }])
  fields := #[{ name := "HELD", type := .double, accessFlags := 26, slot := 0, constantValue := 0 }, { name := "MOST", type := .double, accessFlags := 26, slot := 1, constantValue := 0 }, { name := "NONE", type := .double, accessFlags := 26, slot := 2, constantValue := 0 }]
  methods := #[k4m0, k4m1]
  instanceTypes := #[]
  staticTypes := #[.double, .double, .double]
  resolved := Array.replicate 53 none
  statics := none }

def pool5 : Array CpInfo := pool [(1, .class_ 2), (0, u "java/lang/Math"), (1, .class_ 6), (1, u "java/lang/Object"), (0, u "<init>"), (0, u "()V"), (43, u "(DD)D"), (45, .class_ 100), (1, u "java/lang/Math$RandomNumberGeneratorHolder"), (71, u "negativeZeroFloatBits"), (0, u "J"), (2, u "negativeZeroDoubleBits"), (21, u "max"), (2, u "min"), (43, u "$assertionsDisabled"), (0, u "Z"), (91, u "twoToTheDoubleScaleDown"), (0, u "D"), (4, u "twoToTheDoubleScaleUp"), (9, u "E"), (3, u "PI"), (2, u "TAU"), (2, u "DEGREES_TO_RADIANS"), (0, u "RADIANS_TO_DEGREES")] 94

def k5m0 : Method := { name := "<init>", desc := "()V", sig := { parameters := [], returnType := none }, accessFlags := 2, code := none }
def k5c1 : Code := { maxStack := 4, maxLocals := 4, code := jdk_29_method_68_code, exceptionTable := #[], attributes := #[] }
def k5m1 : Method := { name := "max", desc := "(DD)D", sig := { parameters := [.double, .double], returnType := some .double }, accessFlags := 9, code := some k5c1 }
def k5c2 : Code := { maxStack := 4, maxLocals := 4, code := jdk_29_method_72_code, exceptionTable := #[], attributes := #[] }
def k5m2 : Method := { name := "min", desc := "(DD)D", sig := { parameters := [.double, .double], returnType := some .double }, accessFlags := 9, code := some k5c2 }
/-- java/lang/Math -/
def k5 : Class := { plain "java/lang/Math" (some 0) with
  accessFlags := 49
  interfaces := #[]
  cf := some (fileOf pool5 1 #[.nestMembers #[98]] #[{ accessFlags := 2, nameIndex := 7, descriptorIndex := 8, attributes := #[] }, { accessFlags := 9, nameIndex := 198, descriptorIndex := 52, attributes := #[] }, { accessFlags := 9, nameIndex := 201, descriptorIndex := 52, attributes := #[] }] 49 4 #[] #[{ accessFlags := 25, nameIndex := 354, descriptorIndex := 339, attributes := #[] }, { accessFlags := 25, nameIndex := 358, descriptorIndex := 339, attributes := #[] }, { accessFlags := 25, nameIndex := 361, descriptorIndex := 339, attributes := #[] }, { accessFlags := 26, nameIndex := 364, descriptorIndex := 339, attributes := #[] }, { accessFlags := 26, nameIndex := 365, descriptorIndex := 339, attributes := #[] }, { accessFlags := 26, nameIndex := 172, descriptorIndex := 173, attributes := #[] }, { accessFlags := 26, nameIndex := 176, descriptorIndex := 173, attributes := #[] }, { accessFlags := 8, nameIndex := 344, descriptorIndex := 339, attributes := #[] }, { accessFlags := 8, nameIndex := 338, descriptorIndex := 339, attributes := #[] }, { accessFlags := 4120, nameIndex := 245, descriptorIndex := 246, attributes := #[] }])
  fields := #[{ name := "E", type := .double, accessFlags := 25, slot := 0, constantValue := 0 }, { name := "PI", type := .double, accessFlags := 25, slot := 1, constantValue := 0 }, { name := "TAU", type := .double, accessFlags := 25, slot := 2, constantValue := 0 }, { name := "DEGREES_TO_RADIANS", type := .double, accessFlags := 26, slot := 3, constantValue := 0 }, { name := "RADIANS_TO_DEGREES", type := .double, accessFlags := 26, slot := 4, constantValue := 0 }, { name := "negativeZeroFloatBits", type := .long, accessFlags := 26, slot := 5, constantValue := 0 }, { name := "negativeZeroDoubleBits", type := .long, accessFlags := 26, slot := 6, constantValue := 0 }, { name := "twoToTheDoubleScaleUp", type := .double, accessFlags := 8, slot := 7, constantValue := 0 }, { name := "twoToTheDoubleScaleDown", type := .double, accessFlags := 8, slot := 8, constantValue := 0 }, { name := "$assertionsDisabled", type := .boolean, accessFlags := 4120, slot := 9, constantValue := 0 }]
  methods := #[k5m0, k5m1, k5m2]
  instanceTypes := #[]
  staticTypes := #[.double, .double, .double, .double, .double, .long, .long, .double, .double, .boolean]
  resolved := Array.replicate 460 none
  statics := none }

def pool6 : Array CpInfo := pool [(1, u "java/lang/Cloneable"), (0, .class_ 1), (0, u "java/lang/Object"), (0, .class_ 3)] 3

/-- java/lang/Cloneable -/
def k6 : Class := { plain "java/lang/Cloneable" (some 0) with
  accessFlags := 1537
  interfaces := #[]
  cf := some (fileOf pool6 2 #[] #[] 1537 4 #[] #[])
  fields := #[]
  methods := #[]
  instanceTypes := #[]
  staticTypes := #[]
  resolved := Array.replicate 8 none
  statics := none }

def pool7 : Array CpInfo := pool [(1, u "java/io/Serializable"), (0, .class_ 1), (0, u "java/lang/Object"), (0, .class_ 3)] 3

/-- java/io/Serializable -/
def k7 : Class := { plain "java/io/Serializable" (some 0) with
  accessFlags := 1537
  interfaces := #[]
  cf := some (fileOf pool7 2 #[] #[] 1537 4 #[] #[])
  fields := #[]
  methods := #[]
  instanceTypes := #[]
  staticTypes := #[]
  resolved := Array.replicate 8 none
  statics := none }

/-- the primitive byte -/
def k8 : Class := { plain "byte" none with kind := .primitive 'B', accessFlags := 0x411 }
/-- [B -/
def k9 : Class := { plain "[B" (some 0) with kind := .array 8 .byte, interfaces := #[6, 7], accessFlags := 1041 }

/-- the primitive int -/
def k10 : Class := { plain "int" none with kind := .primitive 'I', accessFlags := 0x411 }
/-- [I -/
def k11 : Class := { plain "[I" (some 0) with kind := .array 10 .int, interfaces := #[6, 7], accessFlags := 1041 }

def heap : Heap := #[]
def classes : Array Class := #[k0, k1, k2, k3, k4, k5, k6, k7, k8, k9, k10, k11]
def interned : List (Array UInt16 × Addr) := []
def slotsUsed : Nat := 0
def theMethod : MethodId := ⟨1, 1⟩
def args0 : Array Value := #[.int 5, .int 7, .int 3, .int 2, .int 9, .int 4]
def aboutOver (below : List Frame) : State where
  vm := { classes := classes, interned := interned.toArray }
  heap := heap
  slotsUsed := slotsUsed
  threads := #[{ frames := .invoking theMethod args0 :: below }]
def below0 : List Frame := [.native { method := ⟨0, 0⟩, args := #[] }]
def about1 : State := aboutOver below0
def p0 : Program := .bare "" "" ""
def e0 : Env := launch0.env 0 0 0
theorem w_frames : about1.frames = Frame.invoking theMethod args0 :: below0 := rfl
set_option maxRecDepth 65536 in
theorem w_args : argsFit about1.vm theMethod args0 = true := by decide +kernel
set_option maxRecDepth 65536 in
theorem w_heap : heapFits about1 = true := by decide +kernel
set_option maxRecDepth 65536 in
theorem w_runnable : about1.curStatus? = some .runnable := by decide +kernel
set_option maxRecDepth 65536 in
theorem w_alone : about1.alone = true := by decide +kernel
set_option maxRecDepth 65536 in
theorem w_named : about1.methodNamed? x = some theMethod := by decide +kernel
set_option maxRecDepth 65536 in
theorem w_hears : about1.hears theMethod below0 = true := by decide +kernel
set_option maxRecDepth 65536 in
theorem w_ripe : about1.ripe theMethod args0 below0 = true := by decide +kernel
theorem w_running : about1.status = .running := rfl
set_option maxRecDepth 65536 in
theorem w_room : about1.hasRoom e0.platform room_1 = true :=
  launch0.hasRoom_least _ room_1 (by decide +kernel) (by decide +kernel) (by decide +kernel) (by decide +kernel) (by decide +kernel) (by decide +kernel)
theorem allAtoms_all (ts : List Jvm.Cond) (a : Array Jvm.Value) (st : Jvm.State) : (allAtoms ts).before a st = ts.all (fun c => c.before a st) := by
  induction ts with
  | nil => rfl
  | cons c t ih =>
    show (Jvm.Cond.and c (allAtoms t)).before a st = _
    rw [Jvm.Cond.before_and, ih, List.all_cons]
def words1 : List Jvm.Cond := Jvm.Cond.code x code maxLocals ret :: tables_1
/-- a 'code' word, met by the world's own term for the bytes: nothing is compared byte by byte -/
theorem code_word {y : MethodName} {bytes : ByteArray} {mx : Nat} {rt : Option FieldType} {a : Array Value} {s : State} {m : MethodId} {meth : Method} {c : Code} (h1 : s.methodNamed? y = some m) (h2 : s.vm.method? m = some meth) (h3 : meth.code = some c) (h4 : c.code = bytes)
    (h5 : (c.maxLocals == mx && c.exceptionTable.isEmpty && decide (c.maxStack ≤ mostOperands) && decide (meth.sig.returnType = rt) && !meth.locks && decide (parseMethodDescriptor y.desc = some meth.sig)) = true) : (Jvm.Cond.code y bytes mx rt).before a s = true := by
  simp only [Bool.and_eq_true, beq_iff_eq, Bool.not_eq_true', decide_eq_true_eq] at h5
  obtain ⟨⟨⟨⟨⟨g1, g2⟩, g3⟩, g4⟩, g5⟩, g6⟩ := h5
  simp [Cond.before, Cond.holds, Cond.value, h1, h2, h3, h4, g1, g2, g3, g4, g5, g6]
def isCode : Jvm.Cond → Bool
  | .code _ _ _ _ => true
  | _ => false
theorem all_split {L : List Jvm.Cond} {P : Jvm.Cond → Bool} (h1 : L.all (fun c => isCode c || P c) = true) (h2 : ∀ c ∈ L.filter isCode, P c = true) : L.all P = true := by
  refine List.all_eq_true.mpr fun c hc => ?_
  have h := List.all_eq_true.mp h1 c hc
  rcases Bool.eq_false_or_eq_true (isCode c) with hi | hi
  · exact h2 c (List.mem_filter.mpr ⟨hc, hi⟩)
  · simpa [hi] using h
set_option maxRecDepth 65536 in
theorem w_c0 : (Jvm.Cond.code x code maxLocals ret).before args0 about1 = true := code_word (m := ⟨1, 1⟩) (meth := k1m1) (c := k1c1) (by decide +kernel) rfl rfl rfl (by decide +kernel)
set_option maxRecDepth 65536 in
theorem w_c1 : (Jvm.Cond.code ({ cls := "com/example/meter/meter/demand/Measure", name := "<init>", desc := "(DDDD)V" } : Jvm.MethodName) prog_5_method_1_code (9 : Nat) (Option.none : Option Jvm.ClassFile.FieldType)).before args0 about1 = true := code_word (m := ⟨3, 0⟩) (meth := k3m0) (c := k3c0) (by decide +kernel) rfl rfl rfl (by decide +kernel)
set_option maxRecDepth 65536 in
theorem w_c2 : (Jvm.Cond.code ({ cls := "java/lang/Record", name := "<init>", desc := "()V" } : Jvm.MethodName) jdk_30_method_1_code (1 : Nat) (Option.none : Option Jvm.ClassFile.FieldType)).before args0 about1 = true := code_word (m := ⟨2, 0⟩) (meth := k2m0) (c := k2c0) (by decide +kernel) rfl rfl rfl (by decide +kernel)
set_option maxRecDepth 65536 in
theorem w_c3 : (Jvm.Cond.code ({ cls := "java/lang/Object", name := "<init>", desc := "()V" } : Jvm.MethodName) object_method_1_code (1 : Nat) (Option.none : Option Jvm.ClassFile.FieldType)).before args0 about1 = true := code_word (m := ⟨0, 0⟩) (meth := k0m0) (c := k0c0) (by decide +kernel) rfl rfl rfl (by decide +kernel)
set_option maxRecDepth 65536 in
theorem w_c4 : (Jvm.Cond.code ({ cls := "com/example/meter/meter/allocation/FlowShare", name := "weight", desc := "(Lcom/example/meter/meter/demand/Measure;DD)D" } : Jvm.MethodName) prog_1_method_2_code (12 : Nat) (Option.some Jvm.ClassFile.FieldType.double)).before args0 about1 = true := code_word (m := ⟨4, 1⟩) (meth := k4m1) (c := k4c1) (by decide +kernel) rfl rfl rfl (by decide +kernel)
set_option maxRecDepth 65536 in
theorem w_c5 : (Jvm.Cond.code ({ cls := "com/example/meter/meter/demand/Measure", name := "fastest", desc := "()D" } : Jvm.MethodName) prog_5_method_7_code (1 : Nat) (Option.some Jvm.ClassFile.FieldType.double)).before args0 about1 = true := code_word (m := ⟨3, 3⟩) (meth := k3m3) (c := k3c3) (by decide +kernel) rfl rfl rfl (by decide +kernel)
set_option maxRecDepth 65536 in
theorem w_c6 : (Jvm.Cond.code ({ cls := "com/example/meter/meter/demand/Measure", name := "used", desc := "()D" } : Jvm.MethodName) prog_5_method_6_code (1 : Nat) (Option.some Jvm.ClassFile.FieldType.double)).before args0 about1 = true := code_word (m := ⟨3, 2⟩) (meth := k3m2) (c := k3c2) (by decide +kernel) rfl rfl rfl (by decide +kernel)
set_option maxRecDepth 65536 in
theorem w_c7 : (Jvm.Cond.code ({ cls := "java/lang/Math", name := "min", desc := "(DD)D" } : Jvm.MethodName) jdk_29_method_72_code (4 : Nat) (Option.some Jvm.ClassFile.FieldType.double)).before args0 about1 = true := code_word (m := ⟨5, 2⟩) (meth := k5m2) (c := k5c2) (by decide +kernel) rfl rfl rfl (by decide +kernel)
set_option maxRecDepth 65536 in
theorem w_c8 : (Jvm.Cond.code ({ cls := "com/example/meter/meter/demand/Measure", name := "held", desc := "()D" } : Jvm.MethodName) prog_5_method_8_code (1 : Nat) (Option.some Jvm.ClassFile.FieldType.double)).before args0 about1 = true := code_word (m := ⟨3, 4⟩) (meth := k3m4) (c := k3c4) (by decide +kernel) rfl rfl rfl (by decide +kernel)
set_option maxRecDepth 65536 in
theorem w_c9 : (Jvm.Cond.code ({ cls := "com/example/meter/meter/demand/Measure", name := "limit", desc := "()D" } : Jvm.MethodName) prog_5_method_5_code (1 : Nat) (Option.some Jvm.ClassFile.FieldType.double)).before args0 about1 = true := code_word (m := ⟨3, 1⟩) (meth := k3m1) (c := k3c1) (by decide +kernel) rfl rfl rfl (by decide +kernel)
set_option maxRecDepth 65536 in
theorem w_c10 : (Jvm.Cond.code ({ cls := "java/lang/Math", name := "max", desc := "(DD)D" } : Jvm.MethodName) jdk_29_method_68_code (4 : Nat) (Option.some Jvm.ClassFile.FieldType.double)).before args0 about1 = true := code_word (m := ⟨5, 1⟩) (meth := k5m1) (c := k5c1) (by decide +kernel) rfl rfl rfl (by decide +kernel)
set_option maxRecDepth 65536 in
theorem w_c11 : (Jvm.Cond.code ({ cls := "com/example/meter/meter/allocation/FlowShareWeightPinLaw", name := "share", desc := "(ZJJJJJ)D" } : Jvm.MethodName) method_3_code (15 : Nat) (Option.some Jvm.ClassFile.FieldType.double)).before args0 about1 = true := code_word (m := ⟨1, 2⟩) (meth := k1m2) (c := k1c2) (by decide +kernel) rfl rfl rfl (by decide +kernel)
def codes1 : List Jvm.Cond := [Jvm.Cond.code x code maxLocals ret, Jvm.Cond.code ({ cls := "com/example/meter/meter/demand/Measure", name := "<init>", desc := "(DDDD)V" } : Jvm.MethodName) prog_5_method_1_code (9 : Nat) (Option.none : Option Jvm.ClassFile.FieldType), Jvm.Cond.code ({ cls := "java/lang/Record", name := "<init>", desc := "()V" } : Jvm.MethodName) jdk_30_method_1_code (1 : Nat) (Option.none : Option Jvm.ClassFile.FieldType), Jvm.Cond.code ({ cls := "java/lang/Object", name := "<init>", desc := "()V" } : Jvm.MethodName) object_method_1_code (1 : Nat) (Option.none : Option Jvm.ClassFile.FieldType), Jvm.Cond.code ({ cls := "com/example/meter/meter/allocation/FlowShare", name := "weight", desc := "(Lcom/example/meter/meter/demand/Measure;DD)D" } : Jvm.MethodName) prog_1_method_2_code (12 : Nat) (Option.some Jvm.ClassFile.FieldType.double), Jvm.Cond.code ({ cls := "com/example/meter/meter/demand/Measure", name := "fastest", desc := "()D" } : Jvm.MethodName) prog_5_method_7_code (1 : Nat) (Option.some Jvm.ClassFile.FieldType.double), Jvm.Cond.code ({ cls := "com/example/meter/meter/demand/Measure", name := "used", desc := "()D" } : Jvm.MethodName) prog_5_method_6_code (1 : Nat) (Option.some Jvm.ClassFile.FieldType.double), Jvm.Cond.code ({ cls := "java/lang/Math", name := "min", desc := "(DD)D" } : Jvm.MethodName) jdk_29_method_72_code (4 : Nat) (Option.some Jvm.ClassFile.FieldType.double), Jvm.Cond.code ({ cls := "com/example/meter/meter/demand/Measure", name := "held", desc := "()D" } : Jvm.MethodName) prog_5_method_8_code (1 : Nat) (Option.some Jvm.ClassFile.FieldType.double), Jvm.Cond.code ({ cls := "com/example/meter/meter/demand/Measure", name := "limit", desc := "()D" } : Jvm.MethodName) prog_5_method_5_code (1 : Nat) (Option.some Jvm.ClassFile.FieldType.double), Jvm.Cond.code ({ cls := "java/lang/Math", name := "max", desc := "(DD)D" } : Jvm.MethodName) jdk_29_method_68_code (4 : Nat) (Option.some Jvm.ClassFile.FieldType.double), Jvm.Cond.code ({ cls := "com/example/meter/meter/allocation/FlowShareWeightPinLaw", name := "share", desc := "(ZJJJJJ)D" } : Jvm.MethodName) method_3_code (15 : Nat) (Option.some Jvm.ClassFile.FieldType.double)]
set_option maxRecDepth 65536 in
theorem codes_eq : words1.filter isCode = codes1 := rfl
theorem w_codes : ∀ c ∈ words1.filter isCode, c.before args0 about1 = true := by
  rw [codes_eq]
  intro c hc
  simp only [codes1, List.mem_cons, List.not_mem_nil, or_false] at hc
  rcases hc with rfl | rfl | rfl | rfl | rfl | rfl | rfl | rfl | rfl | rfl | rfl | rfl
  · exact w_c0
  · exact w_c1
  · exact w_c2
  · exact w_c3
  · exact w_c4
  · exact w_c5
  · exact w_c6
  · exact w_c7
  · exact w_c8
  · exact w_c9
  · exact w_c10
  · exact w_c11
set_option maxRecDepth 65536 in
theorem w_t1 : (words1.take 24).all (fun c => isCode c || c.before args0 about1) = true := by decide +kernel
set_option maxRecDepth 65536 in
theorem w_t2 : ((words1.drop 24).take 24).all (fun c => isCode c || c.before args0 about1) = true := by decide +kernel
set_option maxRecDepth 65536 in
theorem w_t3 : ((words1.drop 24).drop 24).all (fun c => isCode c || c.before args0 about1) = true := by decide +kernel
theorem w_tables : (allAtoms (Jvm.Cond.code x code maxLocals ret :: tables_1)).before args0 about1 = true := by
  rw [allAtoms_all]
  show words1.all (fun c => c.before args0 about1) = true
  refine all_split ?_ w_codes
  rw [← List.take_append_drop 24 words1, List.all_append, w_t1, ← List.take_append_drop 24 (words1.drop 24), List.all_append, w_t2, w_t3]
  rfl
set_option maxRecDepth 65536 in
theorem w_case : (Jvm.Cond.and given_1 narrow_1).before args0 about1 = true := by decide +kernel
theorem w_applies : (headSpec (Jvm.Cond.code x code maxLocals ret :: tables_1) room_1).applies x e0.platform about1 = true :=
  (Spec.applies_iff w_frames).mpr ⟨w_running, w_runnable, w_alone, w_named, w_hears, w_ripe, w_room, w_tables⟩
theorem atStart : AtStart classFile x code maxLocals ret World_1 tables_1 room_1 Calls_1 rest_1 Pre_1 launch0 p0 e0 about1 theMethod args0 below0 :=
  ⟨lists_1, trivial, launch0.admits_env _ _ _, launch0.least_env, fairChoices_fair.cas, fairChoices_fair.clock, w_frames, w_args, w_heap, w_applies, trivial, trivial, w_case⟩
end start1
theorem witness_1 : WitnessClaimed_1 := ⟨start1.p0, start1.e0, start1.about1, start1.theMethod, start1.args0, start1.below0, start1.atStart⟩
end Jvm.Pilot.@@N@@
