import JvmDerived
import JvmDerived.Pilot.@@N@@Statement
import JvmDerived.Pilot.@@N@@Code
set_option linter.unusedVariables false
set_option linter.unusedSimpArgs false
namespace Jvm.RoadKit
open Sem ClassFile Op Lib Jvm.Stand Jvm.Free Jvm.LawKit
section Own
variable {p : Program} {l : Launch} {e : Env} {R : Room} {s : State} {m : MethodId} {args : Array Value} {below : List Frame} {meth : Method} {c : Code} {T : State} {locs : List Loc} {cells slots : Nat} {Z : State} {a0 : Array Value} {h : Heap}
/-- the run goes on from the frame g over T to an end that P says -/
def own_Go (p : Program) (e : Env) (below : List Frame) (P : Outcome → State → Prop) (T : State) (g : JFrame) : Prop :=
  ∃ s₂ o, Steps p.tables e below (T.setTop g) s₂ ∧ s₂.status = .running ∧ Ended s₂ below o ∧ P o s₂
theorem own_via {P : Outcome → State → Prop} {T' : State} {g g' : JFrame} (k : ∀ target, Steps p.tables e below (T'.setTop g') target → Steps p.tables e below (T.setTop g) target) (q : own_Go p e below P T' g') : own_Go p e below P T g := by
  obtain ⟨s2, o, h1, h2⟩ := q
  exact ⟨s2, o, k _ h1, h2⟩
theorem own_start {P : Outcome → State → Prop} {g g' : JFrame} (q : g = g') (k : own_Go p e below P T g') : own_Go p e below P T g := q ▸ k
/-- what a body owes at its end -/
abbrev own_End (s : State) (Q : Option Value → Heap → List Loc → Prop) (k n : Nat) : Outcome → State → Prop := fun o U' => ∃ v L, o = .returned v ∧ Q v U'.heap L ∧ FrameEnd s o U' L k n
theorem own_ret {Q : Option Value → Heap → List Loc → Prop} {k n : Nat} {pc : Nat} {Ls : Array Slot} {w : Value} {t : FieldType} {i : Instr} {rest : List Value} (X : Stand p l e R s m args below meth c T locs cells slots) (hx : p.tables.exec = Jvm.exec) (hret : meth.sig.returnType = some t) (hlk : meth.locks = false) (hn : narrow t w = w)
    (hi : (i = .ireturn ∧ (t = .int ∨ t = .boolean ∨ t = .byte ∨ t = .char ∨ t = .short) ∧ ∃ z, w = .int z) ∨ (i = .lreturn ∧ t = .long ∧ ∃ z, w = .long z) ∨ (i = .dreturn ∧ t = .double ∧ ∃ z, w = .double z) ∨ (i = .freturn ∧ t = .float ∧ ∃ z, w = .float z) ∨ (i = .areturn ∧ t.isReference = true ∧ w.isRef = true))
    (hd : decode c.code pc = .ok (i, 1)) (hk : cells ≤ k) (hs : slots ≤ n) (hQ : Q (some w) T.heap locs) : own_Go p e below (own_End s Q k n) T (mkF m pc Ls (w :: rest)) := by
  obtain ⟨fs, hr, hrun, hended, hW, hsame⟩ := X.leave (v := some w) (fun q => by rw [hret] at q; cases q) hlk
  exact ⟨_, _, retOut X hx hret hn hi hd hr, hrun, hended, _, _, rfl, hQ, ⟨_, rfl⟩, hW, hsame.mono hk hs⟩
theorem own_retV {Q : Option Value → Heap → List Loc → Prop} {k n : Nat} {pc : Nat} {Ls : Array Slot} (X : Stand p l e R s m args below meth c T locs cells slots) (hx : p.tables.exec = Jvm.exec) (hret : meth.sig.returnType = none) (hlk : meth.locks = false)
    (hd : decode c.code pc = .ok (.return_, 1)) (hk : cells ≤ k) (hs : slots ≤ n) (hQ : Q none T.heap locs) : own_Go p e below (own_End s Q k n) T (mkF m pc Ls []) := by
  obtain ⟨fs, hr, hrun, hended, hW, hsame⟩ := X.leave (v := none) (fun _ => rfl) hlk
  exact ⟨_, _, X.returnOut hx hret hd hr, hrun, hended, _, _, rfl, hQ, ⟨_, rfl⟩, hW, hsame.mono hk hs⟩
/-- a callee that leaves the heap as it was -/
def own_Q (r : Option Value) (h0 : Heap) (v : Option Value) (h : Heap) (L : List Loc) : Prop := v = r ∧ L = [] ∧ h = h0
def own_F (r : Option Value) (n0 : Nat) (v : Option Value) (h : Heap) (L : List Loc) : Prop := v = r ∧ Fr n0 L
theorem own_fin {r v : Option Value} {n0 : Nat} {h : Heap} {L : List Loc} (q : own_F r n0 v h L) : v = r ∧ Fr n0 L := q
abbrev own_Met (l : Launch) (Z : State) (y : MethodName) (ws : List Cond) (rm : Room) (as' : Array Value) (h0 : Heap) (Q : Option Value → Heap → List Loc → Prop) : Prop :=
  MetFree l y (head1 ws rm) (fun a U => a = as' ∧ Z.Warmed39 U.vm ∧ U.heap = h0) (fun _ _ _ _ _ => True) (fun _ U o U' => ∃ v L, o = .returned v ∧ Q v U'.heap L ∧ FrameEnd U o U' L rm.cells rm.slots)
theorem own_callV {own C : String} {index : Nat} {y z : MethodName} {bytes : ByteArray} {maxL : Nat} {ret : Option FieldType} {rm : Room} {as' : Array Value} {r : Option Value} {W : Nat} {b : Addr}
    (X : Stand p l e R s m args below meth c T locs cells slots) (hx : p.tables.exec = Jvm.exec) (hZ : Z.Warmed39 s.vm) (hown : s.vm.findClass own = some m.cls)
    (wl : (Cond.methodLink own index y).before a0 Z = true) (wd : (Cond.declares y).before a0 Z = true) (nf : NotFace s y) (ws : (Cond.selects C y z).before a0 Z = true) (wi : (Cond.instanceMethod z).before a0 Z = true) (hy : y.cls ≠ "java/lang/invoke/MethodHandle" ∧ y.cls ≠ "java/lang/invoke/VarHandle")
    (wc : (Cond.code z bytes maxL ret).before a0 Z = true) (wz : (Cond.initialized z.cls).before a0 Z = true) (hM : own_Met l Z z [Cond.code z bytes maxL ret] rm as' h (own_Q r h)) (eT : T.heap = h) (E : Exa Z h b C)
    (hf : rm.frames + 1 ≤ R.frames) (hl : W + (maxL + 11) + rm.locals ≤ R.locals) (hc : cells + rm.cells ≤ R.cells) (hs : slots + rm.slots ≤ R.slots)
    {g : JFrame} (hg : g.method = m) (hsize : g.locals.size = c.maxLocals) {argsL rest : List Value} (hlen : ∀ sig, parseMethodDescriptor y.desc = some sig → argsL.length = sig.parameters.length) (hstack : g.stack = argsL.reverse ++ .ref b :: rest)
    (hW : 2 * g.monitorRoom + (rest.map fun v => v.category).sum ≤ W) (hdg : decode c.code g.pc = .ok (.invokevirtual index, 3)) (hargs : (.ref b :: argsL).toArray = as') :
    ∃ T', Stand p l e R s m args below meth c T' locs (cells + rm.cells) (slots + rm.slots) ∧ T'.heap = h ∧ ∀ target, Steps p.tables e below (T'.setTop { g with pc := g.pc + 3, stack := r.toList ++ rest }) target → Steps p.tables e below (T.setTop g) target := by
  obtain ⟨cB, kB, q1, q2, q3⟩ := isOf hZ eT E
  obtain ⟨_, _, ⟨T', L', k', n'⟩, -, X', ⟨Lc, hQ, hl', hk', hn'⟩, st⟩ := X.virtualBack hx (y := y) (z := z) hown (mvT hZ wl) (mvT hZ wd) nf (mvT hZ ws) (mvT hZ wi) hy (backOf (W := W) hM hZ wc wz hf hl) q1 q3 hg hsize (Steps.refl _) hlen hstack hW hdg (fun _ _ => ⟨hargs, eT, hc, hs⟩)
  dsimp only [Pt.U, Pt.locs, Pt.cells, Pt.slots] at X' hl' hk' hn' st hQ
  subst hl' hk' hn'
  obtain ⟨rfl, rfl, e'⟩ := hQ
  rw [List.append_nil] at X'
  exact ⟨T', X', e', fun target k => st.trans k⟩
theorem own_callU {own C owner : String} {index : Nat} {y z : MethodName} {bytes : ByteArray} {maxL : Nat} {ret : Option FieldType} {rm : Room} {as' : Array Value} {r : Option Value} {W : Nat} {b : Addr}
    (X : Stand p l e R s m args below meth c T locs cells slots) (hx : p.tables.exec = Jvm.exec) (hZ : Z.Warmed39 s.vm) (hown : s.vm.findClass own = some m.cls)
    (wl : (Cond.methodLink own index y).before a0 Z = true) (wm : (Cond.sameMethod y.cls owner y.name y.desc).before a0 Z = true) (wd : (Cond.declares ⟨owner, y.name, y.desc⟩).before a0 Z = true) (ho : owner ≠ "java/lang/invoke/MethodHandle" ∧ owner ≠ "java/lang/invoke/VarHandle") (ws : (Cond.selects C y z).before a0 Z = true) (wi : (Cond.instanceMethod z).before a0 Z = true)
    (wc : (Cond.code z bytes maxL ret).before a0 Z = true) (wz : (Cond.initialized z.cls).before a0 Z = true) (hM : own_Met l Z z [Cond.code z bytes maxL ret] rm as' h (own_Q r h)) (eT : T.heap = h) (E : Exa Z h b C)
    (hf : rm.frames + 1 ≤ R.frames) (hl : W + (maxL + 11) + rm.locals ≤ R.locals) (hc : cells + rm.cells ≤ R.cells) (hs : slots + rm.slots ≤ R.slots)
    {g : JFrame} (hg : g.method = m) (hsize : g.locals.size = c.maxLocals) {argsL rest : List Value} (hlen : ∀ sig, parseMethodDescriptor y.desc = some sig → argsL.length = sig.parameters.length) (hstack : g.stack = argsL.reverse ++ .ref b :: rest)
    (hW : 2 * g.monitorRoom + (rest.map fun v => v.category).sum ≤ W) (hdg : decode c.code g.pc = .ok (.invokevirtual index, 3)) (hargs : (.ref b :: argsL).toArray = as') :
    ∃ T', Stand p l e R s m args below meth c T' locs (cells + rm.cells) (slots + rm.slots) ∧ T'.heap = h ∧ ∀ target, Steps p.tables e below (T'.setTop { g with pc := g.pc + 3, stack := r.toList ++ rest }) target → Steps p.tables e below (T.setTop g) target := by
  obtain ⟨cB, kB, q1, q2, q3⟩ := isOf hZ eT E
  obtain ⟨_, _, ⟨T', L', k', n'⟩, -, X', ⟨Lc, hQ, hl', hk', hn'⟩, st⟩ := X.virtualBackUp hx (x := y) (y := z) (owner := owner) hown (mvT hZ wl) (mvT hZ wm) (mvT hZ wd) ho (mvT hZ ws) (mvT hZ wi) (backOf (W := W) hM hZ wc wz hf hl) q1 q3 hg hsize (Steps.refl _) hlen hstack hW hdg (fun _ _ => ⟨hargs, eT, hc, hs⟩)
  dsimp only [Pt.U, Pt.locs, Pt.cells, Pt.slots] at X' hl' hk' hn' st hQ
  subst hl' hk' hn'
  obtain ⟨rfl, rfl, e'⟩ := hQ
  rw [List.append_nil] at X'
  exact ⟨T', X', e', fun target k => st.trans k⟩
theorem own_callS {own : String} {index : Nat} {y : MethodName} {bytes : ByteArray} {maxL : Nat} {ret : Option FieldType} {rm : Room} {as' : Array Value} {r : Option Value} {W : Nat}
    (X : Stand p l e R s m args below meth c T locs cells slots) (hx : p.tables.exec = Jvm.exec) (hZ : Z.Warmed39 s.vm) (hown : s.vm.findClass own = some m.cls)
    (wl : (Cond.methodLink own index y).before a0 Z = true) (wt : (Cond.static y).before a0 Z = true) (wz : (Cond.initialized y.cls).before a0 Z = true) (wc : (Cond.code y bytes maxL ret).before a0 Z = true) (hy : y.cls ≠ "java/lang/invoke/MethodHandle" ∧ y.cls ≠ "java/lang/invoke/VarHandle")
    (hM : own_Met l Z y [Cond.code y bytes maxL ret] rm as' h (own_Q r h)) (eT : T.heap = h)
    (hf : rm.frames + 1 ≤ R.frames) (hl : W + (maxL + 11) + rm.locals ≤ R.locals) (hc : cells + rm.cells ≤ R.cells) (hs : slots + rm.slots ≤ R.slots)
    {g : JFrame} (hg : g.method = m) (hsize : g.locals.size = c.maxLocals) {argsL rest : List Value} (hlen : ∀ sig, parseMethodDescriptor y.desc = some sig → argsL.length = sig.parameters.length) (hstack : g.stack = argsL.reverse ++ rest)
    (hW : 2 * g.monitorRoom + (rest.map fun v => v.category).sum ≤ W) (hdg : decode c.code g.pc = .ok (.invokestatic index, 3)) (hargs : argsL.toArray = as') :
    ∃ T', Stand p l e R s m args below meth c T' locs (cells + rm.cells) (slots + rm.slots) ∧ T'.heap = h ∧ ∀ target, Steps p.tables e below (T'.setTop { g with pc := g.pc + 3, stack := r.toList ++ rest }) target → Steps p.tables e below (T.setTop g) target := by
  obtain ⟨_, _, ⟨T', L', k', n'⟩, -, X', ⟨Lc, hQ, hl', hk', hn'⟩, st⟩ := Jvm.LawKit.callS X hx (y := y) hown (mvT hZ wl) (mvT hZ wt) (mvT hZ wz) (mvT hZ wc) hy (backOf (W := W) hM hZ wc wz hf hl) hg hsize hlen hstack hW hdg (fun _ _ => ⟨hargs, eT, hc, hs⟩)
  dsimp only [Pt.U, Pt.locs, Pt.cells, Pt.slots] at X' hl' hk' hn' st hQ
  subst hl' hk' hn'
  obtain ⟨rfl, rfl, e'⟩ := hQ
  rw [List.append_nil] at X'
  exact ⟨T', X', e', st⟩
theorem own_evI {t : Term} {k : Int32} (q : (Cond.eq t (.int k)).value args Z none Z [] = some true) : t.eval args Z none [] Z = some (.int k) := eqv_i rfl q
theorem own_evL {t : Term} {k : Int64} (q : (Cond.eq t (.long k)).value args Z none Z [] = some true) : t.eval args Z none [] Z = some (.long k) := eqv_l rfl q
theorem own_fld {t : Term} {k : Int32} {a : Addr} {C n d : String} (q : (Cond.eq (.field t C n d) (.int k)).value args Z none Z [] = some true) (ht : t.eval args Z none [] Z = some (.ref a)) : Fld Z Z.heap a C n d (.int k) := Fld.start ((fld_at ht).symm.trans (own_evI q))
theorem own_staK {h' : Heap} {C n d : String} {v : Value} (F : Sta Z h C n d v) (K : Keep h h' []) : Sta Z h' C n d v := by
  obtain ⟨cf, i, k, f, st, cell, h1, h2, h3, h4, h5, r⟩ := F
  exact ⟨cf, i, k, f, st, cell, h1, h2, h3, h4, K.2.1 _ _ h5 nin0, r⟩
theorem own_arrK {h' : Heap} {a : Addr} {cl : Cell} {ty : FieldType} (F : Arr Z h a cl ty) (K : Keep h h' []) : Arr Z h' a cl ty := ⟨K.2.1 _ _ F.1 nin0, F.2⟩
/-- a static call by a contract of any kind -/
theorem own_callSQ {own : String} {index : Nat} {y : MethodName} {bytes : ByteArray} {maxL : Nat} {ret : Option FieldType} {rm : Room} {as' : Array Value} {Q : Option Value → Heap → List Loc → Prop} {W : Nat}
    (X : Stand p l e R s m args below meth c T locs cells slots) (hx : p.tables.exec = Jvm.exec) (hZ : Z.Warmed39 s.vm) (hown : s.vm.findClass own = some m.cls)
    (wl : (Cond.methodLink own index y).before a0 Z = true) (wt : (Cond.static y).before a0 Z = true) (wz : (Cond.initialized y.cls).before a0 Z = true) (wc : (Cond.code y bytes maxL ret).before a0 Z = true) (hy : y.cls ≠ "java/lang/invoke/MethodHandle" ∧ y.cls ≠ "java/lang/invoke/VarHandle")
    (hM : own_Met l Z y [Cond.code y bytes maxL ret] rm as' h Q) (eT : T.heap = h)
    (hf : rm.frames + 1 ≤ R.frames) (hl : W + (maxL + 11) + rm.locals ≤ R.locals) (hc : cells + rm.cells ≤ R.cells) (hs : slots + rm.slots ≤ R.slots)
    {g : JFrame} (hg : g.method = m) (hsize : g.locals.size = c.maxLocals) {argsL rest : List Value} (hlen : ∀ sig, parseMethodDescriptor y.desc = some sig → argsL.length = sig.parameters.length) (hstack : g.stack = argsL.reverse ++ rest)
    (hW : 2 * g.monitorRoom + (rest.map fun v => v.category).sum ≤ W) (hdg : decode c.code g.pc = .ok (.invokestatic index, 3)) (hargs : argsL.toArray = as') :
    ∃ v T' Lc, Stand p l e R s m args below meth c T' (locs ++ Lc) (cells + rm.cells) (slots + rm.slots) ∧ Q v T'.heap Lc ∧ ∀ target, Steps p.tables e below (T'.setTop { g with pc := g.pc + 3, stack := v.toList ++ rest }) target → Steps p.tables e below (T.setTop g) target := by
  obtain ⟨v, _, ⟨T', L', k', n'⟩, -, X', ⟨Lc, hQ, hl', hk', hn'⟩, st⟩ := Jvm.LawKit.callS X hx (y := y) hown (mvT hZ wl) (mvT hZ wt) (mvT hZ wz) (mvT hZ wc) hy (backOf (W := W) hM hZ wc wz hf hl) hg hsize hlen hstack hW hdg (fun _ _ => ⟨hargs, eT, hc, hs⟩)
  dsimp only [Pt.U, Pt.locs, Pt.cells, Pt.slots] at X' hl' hk' hn' st hQ
  subst hl' hk' hn'
  exact ⟨v, T', Lc, X', hQ, st⟩
/-- a constructor's call by a contract of any kind -/
theorem own_callIQ {own : String} {index : Nat} {y : MethodName} {bytes : ByteArray} {maxL : Nat} {rm : Room} {as' : Array Value} {Q : Option Value → Heap → List Loc → Prop} {W : Nat} {b : Addr}
    (X : Stand p l e R s m args below meth c T locs cells slots) (hx : p.tables.exec = Jvm.exec) (hZ : Z.Warmed39 s.vm) (hy1 : y.name = "<init>") (hown : s.vm.findClass own = some m.cls)
    (wl : (Cond.methodLink own index y).before a0 Z = true) (wi : (Cond.instanceMethod y).before a0 Z = true) (wz : (Cond.initialized y.cls).before a0 Z = true) (wc : (Cond.code y bytes maxL none).before a0 Z = true) (hy : y.cls ≠ "java/lang/invoke/MethodHandle" ∧ y.cls ≠ "java/lang/invoke/VarHandle")
    (hM : own_Met l Z y [Cond.code y bytes maxL none] rm as' h Q) (eT : T.heap = h)
    (hf : rm.frames + 1 ≤ R.frames) (hl : W + (maxL + 11) + rm.locals ≤ R.locals) (hc : cells + rm.cells ≤ R.cells) (hs : slots + rm.slots ≤ R.slots)
    {g : JFrame} (hg : g.method = m) (hsize : g.locals.size = c.maxLocals) {argsL rest : List Value} (hlen : ∀ sig, parseMethodDescriptor y.desc = some sig → argsL.length = sig.parameters.length) (hstack : g.stack = argsL.reverse ++ .ref b :: rest)
    (hW : 2 * g.monitorRoom + (rest.map fun v => v.category).sum ≤ W) (hdg : decode c.code g.pc = .ok (.invokespecial index, 3)) (hargs : (.ref b :: argsL).toArray = as') :
    ∃ v T' Lc, Stand p l e R s m args below meth c T' (locs ++ Lc) (cells + rm.cells) (slots + rm.slots) ∧ Q v T'.heap Lc ∧ ∀ target, Steps p.tables e below (T'.setTop { g with pc := g.pc + 3, stack := v.toList ++ rest }) target → Steps p.tables e below (T.setTop g) target := by
  obtain ⟨v, _, ⟨T', L', k', n'⟩, -, X', ⟨Lc, hQ, hl', hk', hn'⟩, st⟩ := X.specialBack hx (y := y) hy1 hown (mvT hZ wl) (mvT hZ wi) (mvT hZ wc) hy (backOf (W := W) hM hZ wc wz hf hl) hg hsize (Steps.refl _) (a := b) hlen hstack hW hdg (fun _ _ => ⟨hargs, eT, hc, hs⟩)
  dsimp only [Pt.U, Pt.locs, Pt.cells, Pt.slots] at X' hl' hk' hn' st hQ
  subst hl' hk' hn'
  exact ⟨v, T', Lc, X', hQ, fun target k => st.trans k⟩
/-- the same where the callee leaves the heap as it is -/
theorem own_callI {own : String} {index : Nat} {y : MethodName} {bytes : ByteArray} {maxL : Nat} {rm : Room} {as' : Array Value} {W : Nat} {b : Addr}
    (X : Stand p l e R s m args below meth c T locs cells slots) (hx : p.tables.exec = Jvm.exec) (hZ : Z.Warmed39 s.vm) (hy1 : y.name = "<init>") (hown : s.vm.findClass own = some m.cls)
    (wl : (Cond.methodLink own index y).before a0 Z = true) (wi : (Cond.instanceMethod y).before a0 Z = true) (wz : (Cond.initialized y.cls).before a0 Z = true) (wc : (Cond.code y bytes maxL none).before a0 Z = true) (hy : y.cls ≠ "java/lang/invoke/MethodHandle" ∧ y.cls ≠ "java/lang/invoke/VarHandle")
    (hM : own_Met l Z y [Cond.code y bytes maxL none] rm as' h (own_Q none h)) (eT : T.heap = h)
    (hf : rm.frames + 1 ≤ R.frames) (hl : W + (maxL + 11) + rm.locals ≤ R.locals) (hc : cells + rm.cells ≤ R.cells) (hs : slots + rm.slots ≤ R.slots)
    {g : JFrame} (hg : g.method = m) (hsize : g.locals.size = c.maxLocals) {argsL rest : List Value} (hlen : ∀ sig, parseMethodDescriptor y.desc = some sig → argsL.length = sig.parameters.length) (hstack : g.stack = argsL.reverse ++ .ref b :: rest)
    (hW : 2 * g.monitorRoom + (rest.map fun v => v.category).sum ≤ W) (hdg : decode c.code g.pc = .ok (.invokespecial index, 3)) (hargs : (.ref b :: argsL).toArray = as') :
    ∃ T', Stand p l e R s m args below meth c T' locs (cells + rm.cells) (slots + rm.slots) ∧ T'.heap = h ∧ ∀ target, Steps p.tables e below (T'.setTop { g with pc := g.pc + 3, stack := rest }) target → Steps p.tables e below (T.setTop g) target := by
  obtain ⟨v, T', Lc, X', ⟨rfl, rfl, e'⟩, st⟩ := own_callIQ X hx hZ hy1 hown wl wi wz wc hy hM eT hf hl hc hs hg hsize hlen hstack hW hdg hargs
  rw [List.append_nil] at X'
  exact ⟨T', X', e', st⟩
/-- roads that join: the rest of the walk is told once, for every x -/
theorem own_join {α : Type} {P : Outcome → State → Prop} {g : α → JFrame} {g0 : JFrame} (X : Stand p l e R s m args below meth c T locs cells slots) (eT : T.heap = h)
    (body : ∀ (x : α) (T' : State), Stand p l e R s m args below meth c T' locs cells slots → T'.heap = h → own_Go p e below P T' (g x))
    (rest : (∀ (x : α) (T' : State), Stand p l e R s m args below meth c T' locs cells slots → T'.heap = h → own_Go p e below P T' (g x)) → own_Go p e below P T g0) : own_Go p e below P T g0 := rest body
/-- a class whose line of superclasses ends without K is none of K's, where K is a class that can be instantiated -/
theorem own_NSroot {O K : String} {n : Nat} (w : (Cond.noSuperclass O).before a0 Z = true) (wk : (Cond.instantiable K n).before a0 Z = true) (hn : O ≠ K) : NS Z O K := by
  obtain ⟨c, k, h1, h2, h3, -, -⟩ := Cond.noSuperclass_spec w
  obtain ⟨t, kt, g1, -⟩ := Cond.instantiable_spec wk
  have ne := ids_ne h1 g1 hn
  refine ⟨c, t, h1, g1, fun fuel => ?_⟩
  cases fuel with
  | zero => rfl
  | succ f => simp [Vm.isSubclassAux, ne, h2, h3]
theorem own_NSno {C S K : String} {n : Nat} (w : (Cond.superclass C S).before a0 Z = true) (wk : (Cond.instantiable K n).before a0 Z = true) (q : NS Z C K) (hn : C ≠ K) : ∃ c t, Z.vm.findClass C = some c ∧ Z.vm.findClass K = some t ∧ Z.vm.assignable c t = false := by
  obtain ⟨c, t, h0, g0, n3⟩ := q
  obtain ⟨p, k, kp, h1, h2, h3, h4, h5, -, h7⟩ := Cond.superclass_spec h0 w
  obtain ⟨t', kt, g1, g2, g5, g7, -⟩ := Cond.instantiable_spec wk
  cases g0.symm.trans g1
  have g8 : kt.isInterface = false := by simp at g7; exact g7.1
  have ne := ids_ne h0 g0 hn
  refine ⟨c, t, h0, g0, ?_⟩
  show Z.vm.assignableAux (255 + 1) c t = false
  simp [Vm.assignableAux, ne, h2, g2, h5, g5, g8, Vm.isSubclass, n3]
theorem own_len {t : Term} {a : Addr} {cl : Cell} {ty : FieldType} {z : Int32} (ev : t.eval args Z none [] Z = some (.ref a)) (A : Arr Z Z.heap a cl ty) (q : (Term.length t).eval args Z none [] Z = some (.int z)) : cl.slots.size < 2 ^ 31 ∧ cl.slots.size.toInt32 = z := by
  have ha : Z.arrayAt? a = some cl := A.fin (Vm.Alike.refl _)
  by_cases hl : cl.slots.size < 2 ^ 31
  · rw [len_f ev ha hl] at q
    exact ⟨hl, Value.int.inj (Option.some.inj q)⟩
  · exfalso
    simp [Term.eval, ev, ha, hl] at q
theorem own_size {n : Nat} {z : Int32} (q : n < 2 ^ 31) (e : n.toInt32 = z) : n = z.toNatClampNeg := by
  rw [← e]
  simp only [Int32.toNatClampNeg, len_toInt q]
  rfl
end Own
end Jvm.RoadKit
namespace Jvm.Pilot.@@N@@
open Jvm Jvm.ClassFile Sem Op Lib Jvm.Free Jvm.Stand Jvm.LawKit Jvm.RoadKit Bundle Jvm.Pilot.@@N@@.Jvm.D
theorem pn_0 : plainName "com/example/end_component/endcomponent/language/TypeAcceptsPinLaw" = true := by first | (simp [plainName, overriddenIn]; done) | decide +kernel
theorem d_method_2_code_0 : decode method_2_code 0 = .ok (.iload_n 0, 1) := by decide +kernel
theorem d_method_2_code_1 : decode method_2_code 1 = .ok (.ldc 7, 2) := by decide +kernel
theorem d_method_2_code_3 : decode method_2_code 3 = .ok (.iand, 1) := by decide +kernel
theorem d_method_2_code_4 : decode method_2_code 4 = .ok (.iconst 3, 1) := by decide +kernel
theorem d_method_2_code_5 : decode method_2_code 5 = .ok (.irem, 1) := by decide +kernel
theorem d_method_2_code_6 : decode method_2_code 6 = .ok (.ireturn, 1) := by decide +kernel
set_option maxRecDepth 65536 in
set_option maxHeartbeats 40000000 in
theorem own_c1 (l : Launch) (Z : State) (a0 : Array Value) (hw : ∀ d ∈ tables_1, d.before a0 Z = true) (p1 : Int32) (h0 : Heap)  :
    own_Met l Z (⟨"com/example/end_component/endcomponent/language/TypeAcceptsPinLaw", "index", "(I)I"⟩ : MethodName) [Jvm.Cond.code (⟨"com/example/end_component/endcomponent/language/TypeAcceptsPinLaw", "index", "(I)I"⟩ : MethodName) method_2_code 1 (some .int)] ({ frames := 0, cells := 0, slots := 0, locals := 0 } : Room) #[(.int p1)] h0 (own_Q (some (.int ((p1 &&& (2147483647 : Int32)) % (3 : Int32)))) h0) := by
  refine MetFree.of_bodySF (plainFor_of_name pn_0) hisR ?_
  intro p e s m args below meth c s₁ Bd hml0 hP hK
  obtain ⟨rfl, hZ, hh⟩ := hP
  have hx := Bd.exec
  have hby := Bd.bytes
  have hml : c.maxLocals = 1 := hml0
  have hown : s.vm.findClass "com/example/end_component/endcomponent/language/TypeAcceptsPinLaw" = some m.cls := findClass_of_methodNamed Bd.named
  have hnm := (name_of_methodNamed Bd.named Bd.method).1
  have hlk : meth.locks = false := BodyLoose.notSynchronized Bd
  have X0 : Stand p l e ({ frames := 0, cells := 0, slots := 0, locals := 0 } : Room) s m #[(.int p1)] below meth c s₁ [] 0 0 := Stand.of_body Bd
  have e0 : s₁.heap = h0 := by rw [← hh, Bd.state]; rfl
  show own_Go p e below (own_End s (own_Q (some (.int ((p1 &&& (2147483647 : Int32)) % (3 : Int32)))) h0) 0 0) s₁ (entryFrame m #[(.int p1)] 1)
  refine own_start (g' := mkF m 0 #[.val (.int p1)] []) (by first | rfl | (simp [entryFrame, mkF, argsToLocals, Value.category, maxLocals]; done)) ?_
  refine own_via (T' := s₁) (g' := (mkF m 1 #[.val (.int p1)] [(.int p1)])) (fun t k => XS.iloadN X0.here hx rfl (hb hby d_method_2_code_0) rfl k) ?_
  refine own_via (T' := s₁) (g' := (mkF m 3 #[.val (.int p1)] [(.int (2147483647 : Int32)), (.int p1)])) (fun t k => Stand.ldcI (g := (mkF m 1 #[.val (.int p1)] [(.int p1)])) X0 hx hown (mvT hZ (hw _ (List.mem_of_getElem? (i := 4) rfl))) rfl (hb hby d_method_2_code_1) k) ?_
  refine own_via (T' := s₁) (g' := (mkF m 4 #[.val (.int p1)] [(.int (p1 &&& (2147483647 : Int32)))])) (fun t k => XS.iand X0.here hx rfl (hb hby d_method_2_code_3) rfl k) ?_
  refine own_via (T' := s₁) (g' := (mkF m 5 #[.val (.int p1)] [(.int (3 : Int32)), (.int (p1 &&& (2147483647 : Int32)))])) (fun t k => XS.iconst X0.here hx rfl (hb hby d_method_2_code_4) k) ?_
  refine own_via (T' := s₁) (g' := (mkF m 6 #[.val (.int p1)] [(.int ((p1 &&& (2147483647 : Int32)) % (3 : Int32)))])) (fun t k => iremM X0 hx rfl (hb hby d_method_2_code_5) rfl (by decide) k) ?_
  exact own_ret (t := .int) X0 hx Bd.returns hlk rfl (Or.inl ⟨rfl, by simp, _, rfl⟩) (hb hby d_method_2_code_6) (by decide) (by decide) ⟨rfl, rfl, e0⟩
def own_pick (i : Int32) (wB wI wD : Addr) : Addr := if i = 0 then wB else if i = 1 then wI else wD
theorem d_method_3_code_0 : decode method_3_code 0 = .ok (.iload_n 0, 1) := by decide +kernel
theorem d_method_3_code_1 : decode method_3_code 1 = .ok (.ifCond .ne 7, 3) := by decide +kernel
theorem d_method_3_code_4 : decode method_3_code 4 = .ok (.getstatic 8, 3) := by decide +kernel
theorem d_method_3_code_7 : decode method_3_code 7 = .ok (.areturn, 1) := by decide +kernel
theorem d_method_3_code_8 : decode method_3_code 8 = .ok (.iload_n 0, 1) := by decide +kernel
theorem d_method_3_code_9 : decode method_3_code 9 = .ok (.iconst 1, 1) := by decide +kernel
theorem d_method_3_code_10 : decode method_3_code 10 = .ok (.if_icmp .ne 7, 3) := by decide +kernel
theorem d_method_3_code_13 : decode method_3_code 13 = .ok (.getstatic 14, 3) := by decide +kernel
theorem d_method_3_code_16 : decode method_3_code 16 = .ok (.areturn, 1) := by decide +kernel
theorem d_method_3_code_17 : decode method_3_code 17 = .ok (.getstatic 17, 3) := by decide +kernel
theorem d_method_3_code_20 : decode method_3_code 20 = .ok (.areturn, 1) := by decide +kernel
set_option maxRecDepth 65536 in
set_option maxHeartbeats 40000000 in
theorem own_c2 (l : Launch) (Z : State) (a0 : Array Value) (hw : ∀ d ∈ tables_1, d.before a0 Z = true) (p1 : Int32) (wB wI wD r : Addr) (h0 : Heap) (SB : Sta Z h0 "com/example/end_component/endcomponent/language/Type" "BOOL" "Lcom/example/end_component/endcomponent/language/Type;" (.ref wB)) (SI : Sta Z h0 "com/example/end_component/endcomponent/language/Type" "INT" "Lcom/example/end_component/endcomponent/language/Type;" (.ref wI)) (SD : Sta Z h0 "com/example/end_component/endcomponent/language/Type" "DOUBLE" "Lcom/example/end_component/endcomponent/language/Type;" (.ref wD)) (hr : r = own_pick p1 wB wI wD) :
    own_Met l Z (⟨"com/example/end_component/endcomponent/language/TypeAcceptsPinLaw", "pick", "(I)Lcom/example/end_component/endcomponent/language/Type;"⟩ : MethodName) [Jvm.Cond.code (⟨"com/example/end_component/endcomponent/language/TypeAcceptsPinLaw", "pick", "(I)Lcom/example/end_component/endcomponent/language/Type;"⟩ : MethodName) method_3_code 1 (some (.object "com/example/end_component/endcomponent/language/Type"))] ({ frames := 0, cells := 0, slots := 0, locals := 0 } : Room) #[(.int p1)] h0 (own_Q (some (.ref r)) h0) := by
  refine MetFree.of_bodySF (plainFor_of_name pn_0) hisR ?_
  intro p e s m args below meth c s₁ Bd hml0 hP hK
  obtain ⟨rfl, hZ, hh⟩ := hP
  have hx := Bd.exec
  have hby := Bd.bytes
  have hml : c.maxLocals = 1 := hml0
  have hown : s.vm.findClass "com/example/end_component/endcomponent/language/TypeAcceptsPinLaw" = some m.cls := findClass_of_methodNamed Bd.named
  have hnm := (name_of_methodNamed Bd.named Bd.method).1
  have hlk : meth.locks = false := BodyLoose.notSynchronized Bd
  have X0 : Stand p l e ({ frames := 0, cells := 0, slots := 0, locals := 0 } : Room) s m #[(.int p1)] below meth c s₁ [] 0 0 := Stand.of_body Bd
  have e0 : s₁.heap = h0 := by rw [← hh, Bd.state]; rfl
  show own_Go p e below (own_End s (own_Q (some (.ref r)) h0) 0 0) s₁ (entryFrame m #[(.int p1)] 1)
  refine own_start (g' := mkF m 0 #[.val (.int p1)] []) (by first | rfl | (simp [entryFrame, mkF, argsToLocals, Value.category, maxLocals]; done)) ?_
  refine own_via (T' := s₁) (g' := (mkF m 1 #[.val (.int p1)] [(.int p1)])) (fun t k => XS.iloadN X0.here hx rfl (hb hby d_method_3_code_0) rfl k) ?_
  by_cases hc1 : p1 = (0 : Int32)
  · refine own_via (T' := s₁) (g' := (mkF m 4 #[.val (.int p1)] [])) (fun t k => XS.ifNo X0.here hx rfl (hb hby d_method_3_code_1) rfl ((if0 _ _).trans (teq hc1).2) k) ?_
    obtain ⟨T2, X2, e2, st2⟩ := getS2 X0 hx hZ hown (host := "") (Or.inl (hw _ (List.mem_of_getElem? (i := 8) rfl))) Via.refl e0 SB (g := (mkF m 4 #[.val (.int p1)] [])) rfl (hb hby d_method_3_code_4)
    refine own_via (T' := T2) (g' := (mkF m 7 #[.val (.int p1)] [(.ref wB)])) st2 ?_
    exact own_ret (t := (.object "com/example/end_component/endcomponent/language/Type")) X2 hx Bd.returns hlk rfl (Or.inr (Or.inr (Or.inr (Or.inr ⟨rfl, rfl, rfl⟩)))) (hb hby d_method_3_code_7) (by decide) (by decide) ⟨by rw [hr]; simp [own_pick, hc1], rfl, e2⟩
  · refine own_via (T' := s₁) (g' := (mkF m 8 #[.val (.int p1)] [])) (fun t k => XS.ifYes X0.here hx rfl (pc0 := 1) (pc' := 8) rfl (hb hby d_method_3_code_1) rfl ((if0 _ _).trans (feq hc1).2) (by decide) (by decide) k) ?_
    refine own_via (T' := s₁) (g' := (mkF m 9 #[.val (.int p1)] [(.int p1)])) (fun t k => XS.iloadN X0.here hx rfl (hb hby d_method_3_code_8) rfl k) ?_
    refine own_via (T' := s₁) (g' := (mkF m 10 #[.val (.int p1)] [(.int (1 : Int32)), (.int p1)])) (fun t k => XS.iconst X0.here hx rfl (hb hby d_method_3_code_9) k) ?_
    by_cases hc3 : p1 = (1 : Int32)
    · refine own_via (T' := s₁) (g' := (mkF m 13 #[.val (.int p1)] [])) (fun t k => XS.icmpNo X0.here hx rfl (hb hby d_method_3_code_10) rfl (teq hc3).2 k) ?_
      obtain ⟨T4, X4, e4, st4⟩ := getS2 X0 hx hZ hown (host := "") (Or.inl (hw _ (List.mem_of_getElem? (i := 18) rfl))) Via.refl e0 SI (g := (mkF m 13 #[.val (.int p1)] [])) rfl (hb hby d_method_3_code_13)
      refine own_via (T' := T4) (g' := (mkF m 16 #[.val (.int p1)] [(.ref wI)])) st4 ?_
      exact own_ret (t := (.object "com/example/end_component/endcomponent/language/Type")) X4 hx Bd.returns hlk rfl (Or.inr (Or.inr (Or.inr (Or.inr ⟨rfl, rfl, rfl⟩)))) (hb hby d_method_3_code_16) (by decide) (by decide) ⟨by rw [hr]; simp [own_pick, hc1, hc3], rfl, e4⟩
    · refine own_via (T' := s₁) (g' := (mkF m 17 #[.val (.int p1)] [])) (fun t k => XS.icmpYes X0.here hx rfl (pc0 := 10) (pc' := 17) rfl (hb hby d_method_3_code_10) rfl (feq hc3).2 (by decide) (by decide) k) ?_
      obtain ⟨T5, X5, e5, st5⟩ := getS2 X0 hx hZ hown (host := "") (Or.inl (hw _ (List.mem_of_getElem? (i := 16) rfl))) Via.refl e0 SD (g := (mkF m 17 #[.val (.int p1)] [])) rfl (hb hby d_method_3_code_17)
      refine own_via (T' := T5) (g' := (mkF m 20 #[.val (.int p1)] [(.ref wD)])) st5 ?_
      exact own_ret (t := (.object "com/example/end_component/endcomponent/language/Type")) X5 hx Bd.returns hlk rfl (Or.inr (Or.inr (Or.inr (Or.inr ⟨rfl, rfl, rfl⟩)))) (hb hby d_method_3_code_20) (by decide) (by decide) ⟨by rw [hr]; simp [own_pick, hc1, hc3], rfl, e5⟩
def own_acc (b o wI wD : Addr) : Int32 := if b = o ∨ b = wD ∧ o = wI then 1 else 0
theorem own_acc1 {b o wI wD : Addr} (h : b = o) : own_acc b o wI wD = 1 := if_pos (Or.inl h)
theorem own_acc2 {b o wI wD : Addr} (h1 : b = wD) (h2 : o = wI) : own_acc b o wI wD = 1 := if_pos (Or.inr ⟨h1, h2⟩)
theorem own_acc3 {b o wI wD : Addr} (h : ¬ b = o) (h1 : ¬ b = wD) : own_acc b o wI wD = 0 := if_neg fun q => q.elim h fun q => h1 q.1
theorem own_acc4 {b o wI wD : Addr} (h : ¬ b = o) (h1 : ¬ o = wI) : own_acc b o wI wD = 0 := if_neg fun q => q.elim h fun q => h1 q.2
theorem pn_1 : plainName "com/example/end_component/endcomponent/language/Type" = true := by first | (simp [plainName, overriddenIn]; done) | decide +kernel
theorem d_prog_81_method_5_code_0 : decode prog_81_method_5_code 0 = .ok (.aload_n 0, 1) := by decide +kernel
theorem d_prog_81_method_5_code_1 : decode prog_81_method_5_code 1 = .ok (.aload_n 1, 1) := by decide +kernel
theorem d_prog_81_method_5_code_2 : decode prog_81_method_5_code 2 = .ok (.if_acmp .eq 17, 3) := by decide +kernel
theorem d_prog_81_method_5_code_5 : decode prog_81_method_5_code 5 = .ok (.aload_n 0, 1) := by decide +kernel
theorem d_prog_81_method_5_code_6 : decode prog_81_method_5_code 6 = .ok (.getstatic 10, 3) := by decide +kernel
theorem d_prog_81_method_5_code_9 : decode prog_81_method_5_code 9 = .ok (.if_acmp .ne 14, 3) := by decide +kernel
theorem d_prog_81_method_5_code_12 : decode prog_81_method_5_code 12 = .ok (.aload_n 1, 1) := by decide +kernel
theorem d_prog_81_method_5_code_13 : decode prog_81_method_5_code 13 = .ok (.getstatic 7, 3) := by decide +kernel
theorem d_prog_81_method_5_code_16 : decode prog_81_method_5_code 16 = .ok (.if_acmp .ne 7, 3) := by decide +kernel
theorem d_prog_81_method_5_code_19 : decode prog_81_method_5_code 19 = .ok (.iconst 1, 1) := by decide +kernel
theorem d_prog_81_method_5_code_20 : decode prog_81_method_5_code 20 = .ok (.goto 4, 3) := by decide +kernel
theorem d_prog_81_method_5_code_23 : decode prog_81_method_5_code 23 = .ok (.iconst 0, 1) := by decide +kernel
theorem d_prog_81_method_5_code_24 : decode prog_81_method_5_code 24 = .ok (.ireturn, 1) := by decide +kernel
set_option maxRecDepth 65536 in
set_option maxHeartbeats 40000000 in
theorem own_c3 (l : Launch) (Z : State) (a0 : Array Value) (hw : ∀ d ∈ tables_1, d.before a0 Z = true) (b o wI wD : Addr) (r : Int32) (h0 : Heap) (SI : Sta Z h0 "com/example/end_component/endcomponent/language/Type" "INT" "Lcom/example/end_component/endcomponent/language/Type;" (.ref wI)) (SD : Sta Z h0 "com/example/end_component/endcomponent/language/Type" "DOUBLE" "Lcom/example/end_component/endcomponent/language/Type;" (.ref wD)) (hr : r = own_acc b o wI wD) :
    own_Met l Z (⟨"com/example/end_component/endcomponent/language/Type", "accepts", "(Lcom/example/end_component/endcomponent/language/Type;)Z"⟩ : MethodName) [Jvm.Cond.code (⟨"com/example/end_component/endcomponent/language/Type", "accepts", "(Lcom/example/end_component/endcomponent/language/Type;)Z"⟩ : MethodName) prog_81_method_5_code 2 (some .boolean)] ({ frames := 0, cells := 0, slots := 0, locals := 0 } : Room) #[(.ref b), (.ref o)] h0 (own_Q (some (.int r)) h0) := by
  refine MetFree.of_bodySF (plainFor_of_name pn_1) hisR ?_
  intro p e s m args below meth c s₁ Bd hml0 hP hK
  obtain ⟨rfl, hZ, hh⟩ := hP
  have hx := Bd.exec
  have hby := Bd.bytes
  have hml : c.maxLocals = 2 := hml0
  have hown : s.vm.findClass "com/example/end_component/endcomponent/language/Type" = some m.cls := findClass_of_methodNamed Bd.named
  have hnm := (name_of_methodNamed Bd.named Bd.method).1
  have hlk : meth.locks = false := BodyLoose.notSynchronized Bd
  have X0 : Stand p l e ({ frames := 0, cells := 0, slots := 0, locals := 0 } : Room) s m #[(.ref b), (.ref o)] below meth c s₁ [] 0 0 := Stand.of_body Bd
  have e0 : s₁.heap = h0 := by rw [← hh, Bd.state]; rfl
  show own_Go p e below (own_End s (own_Q (some (.int r)) h0) 0 0) s₁ (entryFrame m #[(.ref b), (.ref o)] 2)
  refine own_start (g' := mkF m 0 #[.val (.ref b), .val (.ref o)] []) (by first | rfl | (simp [entryFrame, mkF, argsToLocals, Value.category, maxLocals]; done)) ?_
  refine own_via (T' := s₁) (g' := (mkF m 1 #[.val (.ref b), .val (.ref o)] [(.ref b)])) (fun t k => XS.aloadN X0.here hx rfl (hb hby d_prog_81_method_5_code_0) rfl rfl k) ?_
  refine own_via (T' := s₁) (g' := (mkF m 2 #[.val (.ref b), .val (.ref o)] [(.ref o), (.ref b)])) (fun t k => XS.aloadN X0.here hx rfl (hb hby d_prog_81_method_5_code_1) rfl rfl k) ?_
  by_cases hc1 : b = o
  · refine own_via (T' := s₁) (g' := (mkF m 19 #[.val (.ref b), .val (.ref o)] [])) (fun t k => Jvm.RoadKit.acmp (g := (mkF m 2 #[.val (.ref b), .val (.ref o)] [(.ref o), (.ref b)])) X0 hx rfl rfl rfl (pc0 := 2) (pc' := 19) (same := true) rfl (hb hby d_prog_81_method_5_code_2) rfl (decide_eq_true (congrArg Value.ref hc1)) (by decide) (by decide) k) ?_
    refine own_via (T' := s₁) (g' := (mkF m 20 #[.val (.ref b), .val (.ref o)] [(.int (1 : Int32))])) (fun t k => XS.iconst X0.here hx rfl (hb hby d_prog_81_method_5_code_19) k) ?_
    refine own_via (T' := s₁) (g' := (mkF m 24 #[.val (.ref b), .val (.ref o)] [(.int (1 : Int32))])) (fun t k => XS.goto X0.here hx rfl (pc0 := 20) (pc' := 24) rfl (hb hby d_prog_81_method_5_code_20) (by decide) (by decide) k) ?_
    exact own_ret (t := .boolean) X0 hx Bd.returns hlk rfl (Or.inl ⟨rfl, by simp, _, rfl⟩) (hb hby d_prog_81_method_5_code_24) (by decide) (by decide) ⟨congrArg (fun z => some (Value.int z)) (hr.trans (own_acc1 hc1)).symm, rfl, e0⟩
  · refine own_via (T' := s₁) (g' := (mkF m 5 #[.val (.ref b), .val (.ref o)] [])) (fun t k => Jvm.RoadKit.acmp (g := (mkF m 2 #[.val (.ref b), .val (.ref o)] [(.ref o), (.ref b)])) X0 hx rfl rfl rfl (pc0 := 2) (pc' := 5) (same := false) rfl (hb hby d_prog_81_method_5_code_2) rfl (decide_eq_false fun q => hc1 (Value.ref.inj q)) (by decide) (by decide) k) ?_
    refine own_via (T' := s₁) (g' := (mkF m 6 #[.val (.ref b), .val (.ref o)] [(.ref b)])) (fun t k => XS.aloadN X0.here hx rfl (hb hby d_prog_81_method_5_code_5) rfl rfl k) ?_
    obtain ⟨T2, X2, e2, st2⟩ := getS2 X0 hx hZ hown (host := "") (Or.inl (hw _ (List.mem_of_getElem? (i := 20) rfl))) Via.refl e0 SD (g := (mkF m 6 #[.val (.ref b), .val (.ref o)] [(.ref b)])) rfl (hb hby d_prog_81_method_5_code_6)
    refine own_via (T' := T2) (g' := (mkF m 9 #[.val (.ref b), .val (.ref o)] [(.ref wD), (.ref b)])) st2 ?_
    by_cases hc3 : b = wD
    · refine own_via (T' := T2) (g' := (mkF m 12 #[.val (.ref b), .val (.ref o)] [])) (fun t k => Jvm.RoadKit.acmp (g := (mkF m 9 #[.val (.ref b), .val (.ref o)] [(.ref wD), (.ref b)])) X2 hx rfl rfl rfl (pc0 := 9) (pc' := 12) (same := true) rfl (hb hby d_prog_81_method_5_code_9) rfl (decide_eq_true (congrArg Value.ref hc3)) (by decide) (by decide) k) ?_
      refine own_via (T' := T2) (g' := (mkF m 13 #[.val (.ref b), .val (.ref o)] [(.ref o)])) (fun t k => XS.aloadN X2.here hx rfl (hb hby d_prog_81_method_5_code_12) rfl rfl k) ?_
      obtain ⟨T4, X4, e4, st4⟩ := getS2 X2 hx hZ hown (host := "") (Or.inl (hw _ (List.mem_of_getElem? (i := 21) rfl))) Via.refl e2 SI (g := (mkF m 13 #[.val (.ref b), .val (.ref o)] [(.ref o)])) rfl (hb hby d_prog_81_method_5_code_13)
      refine own_via (T' := T4) (g' := (mkF m 16 #[.val (.ref b), .val (.ref o)] [(.ref wI), (.ref o)])) st4 ?_
      by_cases hc5 : o = wI
      · refine own_via (T' := T4) (g' := (mkF m 19 #[.val (.ref b), .val (.ref o)] [])) (fun t k => Jvm.RoadKit.acmp (g := (mkF m 16 #[.val (.ref b), .val (.ref o)] [(.ref wI), (.ref o)])) X4 hx rfl rfl rfl (pc0 := 16) (pc' := 19) (same := true) rfl (hb hby d_prog_81_method_5_code_16) rfl (decide_eq_true (congrArg Value.ref hc5)) (by decide) (by decide) k) ?_
        refine own_via (T' := T4) (g' := (mkF m 20 #[.val (.ref b), .val (.ref o)] [(.int (1 : Int32))])) (fun t k => XS.iconst X4.here hx rfl (hb hby d_prog_81_method_5_code_19) k) ?_
        refine own_via (T' := T4) (g' := (mkF m 24 #[.val (.ref b), .val (.ref o)] [(.int (1 : Int32))])) (fun t k => XS.goto X4.here hx rfl (pc0 := 20) (pc' := 24) rfl (hb hby d_prog_81_method_5_code_20) (by decide) (by decide) k) ?_
        exact own_ret (t := .boolean) X4 hx Bd.returns hlk rfl (Or.inl ⟨rfl, by simp, _, rfl⟩) (hb hby d_prog_81_method_5_code_24) (by decide) (by decide) ⟨congrArg (fun z => some (Value.int z)) (hr.trans (own_acc2 hc3 hc5)).symm, rfl, e4⟩
      · refine own_via (T' := T4) (g' := (mkF m 23 #[.val (.ref b), .val (.ref o)] [])) (fun t k => Jvm.RoadKit.acmp (g := (mkF m 16 #[.val (.ref b), .val (.ref o)] [(.ref wI), (.ref o)])) X4 hx rfl rfl rfl (pc0 := 16) (pc' := 23) (same := false) rfl (hb hby d_prog_81_method_5_code_16) rfl (decide_eq_false fun q => hc5 (Value.ref.inj q)) (by decide) (by decide) k) ?_
        refine own_via (T' := T4) (g' := (mkF m 24 #[.val (.ref b), .val (.ref o)] [(.int (0 : Int32))])) (fun t k => XS.iconst X4.here hx rfl (hb hby d_prog_81_method_5_code_23) k) ?_
        exact own_ret (t := .boolean) X4 hx Bd.returns hlk rfl (Or.inl ⟨rfl, by simp, _, rfl⟩) (hb hby d_prog_81_method_5_code_24) (by decide) (by decide) ⟨congrArg (fun z => some (Value.int z)) (hr.trans (own_acc4 hc1 hc5)).symm, rfl, e4⟩
    · refine own_via (T' := T2) (g' := (mkF m 23 #[.val (.ref b), .val (.ref o)] [])) (fun t k => Jvm.RoadKit.acmp (g := (mkF m 9 #[.val (.ref b), .val (.ref o)] [(.ref wD), (.ref b)])) X2 hx rfl rfl rfl (pc0 := 9) (pc' := 23) (same := false) rfl (hb hby d_prog_81_method_5_code_9) rfl (decide_eq_false fun q => hc3 (Value.ref.inj q)) (by decide) (by decide) k) ?_
      refine own_via (T' := T2) (g' := (mkF m 24 #[.val (.ref b), .val (.ref o)] [(.int (0 : Int32))])) (fun t k => XS.iconst X2.here hx rfl (hb hby d_prog_81_method_5_code_23) k) ?_
      exact own_ret (t := .boolean) X2 hx Bd.returns hlk rfl (Or.inl ⟨rfl, by simp, _, rfl⟩) (hb hby d_prog_81_method_5_code_24) (by decide) (by decide) ⟨congrArg (fun z => some (Value.int z)) (hr.trans (own_acc3 hc1 hc3)).symm, rfl, e2⟩
theorem own_mod3 (x k : Int32) (hk : (x &&& (2147483647 : Int32)) % (3 : Int32) = k) : k = 0 ∨ k = 1 ∨ k = 2 := by
  have h1 := c_mask x 2147483647 31 (by decide) (by decide)
  have h2 := (c_irem (x &&& 2147483647) 3 3 (by decide)).1 (by rw [h1]; omega)
  rw [hk] at h2
  have h3 : k.toInt = 0 ∨ k.toInt = 1 ∨ k.toInt = 2 := by omega
  rcases h3 with h | h | h
  · exact Or.inl (Int32.toInt_inj.mp (by rw [h]; decide))
  · exact Or.inr (Or.inl (Int32.toInt_inj.mp (by rw [h]; decide)))
  · exact Or.inr (Or.inr (Int32.toInt_inj.mp (by rw [h]; decide)))
theorem pd_30 : parseMethodDescriptor "(I)I" = some ⟨[.int], some .int⟩ := by decide +kernel
theorem pd_31 : parseMethodDescriptor "(I)Lcom/example/end_component/endcomponent/language/Type;" = some ⟨[.int], some (.object "com/example/end_component/endcomponent/language/Type")⟩ := by decide +kernel
theorem pd_32 : parseMethodDescriptor "(Lcom/example/end_component/endcomponent/language/Type;)Z" = some ⟨[(.object "com/example/end_component/endcomponent/language/Type")], some .boolean⟩ := by decide +kernel
set_option maxRecDepth 65536 in
set_option maxHeartbeats 40000000 in
theorem own_c0 (l : Launch) (Z : State) (a0 : Array Value) (hw : ∀ d ∈ tables_1, d.before a0 Z = true) (p1 p2 : Int32) (w_BOOL w_INT w_DOUBLE : Addr) (h0 : Heap) (S_BOOL : Sta Z h0 "com/example/end_component/endcomponent/language/Type" "BOOL" "Lcom/example/end_component/endcomponent/language/Type;" (.ref w_BOOL)) (E_BOOL : Exa Z h0 w_BOOL "com/example/end_component/endcomponent/language/Type") (O_BOOL : Fld Z h0 w_BOOL "java/lang/Enum" "ordinal" "I" (.int (0 : Int32))) (S_INT : Sta Z h0 "com/example/end_component/endcomponent/language/Type" "INT" "Lcom/example/end_component/endcomponent/language/Type;" (.ref w_INT)) (E_INT : Exa Z h0 w_INT "com/example/end_component/endcomponent/language/Type") (O_INT : Fld Z h0 w_INT "java/lang/Enum" "ordinal" "I" (.int (1 : Int32))) (S_DOUBLE : Sta Z h0 "com/example/end_component/endcomponent/language/Type" "DOUBLE" "Lcom/example/end_component/endcomponent/language/Type;" (.ref w_DOUBLE)) (E_DOUBLE : Exa Z h0 w_DOUBLE "com/example/end_component/endcomponent/language/Type") (O_DOUBLE : Fld Z h0 w_DOUBLE "java/lang/Enum" "ordinal" "I" (.int (2 : Int32))) :
    own_Met l Z x (Jvm.Cond.code x code maxLocals ret :: tables_1) room_1 #[(.int p1), (.int p2)] h0 (own_F (some (.int 1)) h0.size) := by
  refine MetFree.of_bodySF (plainFor_of_name pn_0) hisR ?_
  intro p e s m args below meth c s₁ Bd hml0 hP hK
  obtain ⟨rfl, hZ, hh⟩ := hP
  have hx := Bd.exec
  have hby := Bd.bytes
  have hml : c.maxLocals = 8 := hml0
  have hown : s.vm.findClass "com/example/end_component/endcomponent/language/TypeAcceptsPinLaw" = some m.cls := findClass_of_methodNamed Bd.named
  have hnm := (name_of_methodNamed Bd.named Bd.method).1
  have hlk : meth.locks = false := BodyLoose.notSynchronized Bd
  have X0 : Stand p l e room_1 s m #[(.int p1), (.int p2)] below meth c s₁ [] 0 0 := Stand.of_body Bd
  have e0 : s₁.heap = h0 := by rw [← hh, Bd.state]; rfl
  show own_Go p e below (own_End s (own_F (some (.int 1)) h0.size) 0 0) s₁ (entryFrame m #[(.int p1), (.int p2)] maxLocals)
  refine own_start (g' := mkF m 0 #[.val (.int p1), .val (.int p2), .unset, .unset, .unset, .unset, .unset, .unset] []) (by first | rfl | (simp [entryFrame, mkF, argsToLocals, Value.category, maxLocals]; done)) ?_
  have ne_BOOL_INT : ¬ w_BOOL = w_INT := Fld.ne O_BOOL O_INT (by simp)
  have ne_BOOL_DOUBLE : ¬ w_BOOL = w_DOUBLE := Fld.ne O_BOOL O_DOUBLE (by simp)
  have ne_INT_BOOL : ¬ w_INT = w_BOOL := Fld.ne O_INT O_BOOL (by simp)
  have ne_INT_DOUBLE : ¬ w_INT = w_DOUBLE := Fld.ne O_INT O_DOUBLE (by simp)
  have ne_DOUBLE_BOOL : ¬ w_DOUBLE = w_BOOL := Fld.ne O_DOUBLE O_BOOL (by simp)
  have ne_DOUBLE_INT : ¬ w_DOUBLE = w_INT := Fld.ne O_DOUBLE O_INT (by simp)
  refine own_via (T' := s₁) (g' := (mkF m 1 #[.val (.int p1), .val (.int p2), .unset, .unset, .unset, .unset, .unset, .unset] [(.int p1)])) (fun t k => XS.iloadN X0.here hx rfl (hb hby at_0) rfl k) ?_
  obtain ⟨T1, X1, e1, st1⟩ := own_callS (W := 0) (r := (some (.int ((p1 &&& (2147483647 : Int32)) % (3 : Int32))))) (y := (⟨"com/example/end_component/endcomponent/language/TypeAcceptsPinLaw", "index", "(I)I"⟩ : MethodName)) X0 hx hZ hown (hw _ (List.mem_of_getElem? (i := 0) rfl)) (hw _ (List.mem_of_getElem? (i := 1) rfl)) (hw _ (List.mem_of_getElem? (i := 2) rfl)) (hw _ (List.mem_of_getElem? (i := 3) rfl)) (by decide) (own_c1 l Z a0 hw p1 h0) e0 (by decide) (by decide) (by decide) (by decide) (g := (mkF m 1 #[.val (.int p1), .val (.int p2), .unset, .unset, .unset, .unset, .unset, .unset] [(.int p1)])) rfl (by rw [hml]; rfl) (argsL := [(.int p1)]) (rest := []) (lenOf pd_30 rfl) rfl (by show 2 * 0 + _ ≤ _; exact Nat.le_of_eq rfl) (hb hby at_1) rfl
  refine own_via (T' := T1) (g' := (mkF m 4 #[.val (.int p1), .val (.int p2), .unset, .unset, .unset, .unset, .unset, .unset] [(.int ((p1 &&& (2147483647 : Int32)) % (3 : Int32)))])) st1 ?_
  generalize hi : ((p1 &&& (2147483647 : Int32)) % (3 : Int32)) = i
  rcases own_mod3 p1 i hi with rfl | rfl | rfl
  · refine own_via (T' := T1) (g' := (mkF m 5 #[.val (.int p1), .val (.int p2), .val (.int (0 : Int32)), .unset, .unset, .unset, .unset, .unset] [])) (fun t k => XS.istoreN X1.here hx rfl (hb hby at_4) rfl (l' := #[.val (.int p1), .val (.int p2), .val (.int (0 : Int32)), .unset, .unset, .unset, .unset, .unset]) rfl k) ?_
    refine own_via (T' := T1) (g' := (mkF m 6 #[.val (.int p1), .val (.int p2), .val (.int (0 : Int32)), .unset, .unset, .unset, .unset, .unset] [(.int p2)])) (fun t k => XS.iloadN X1.here hx rfl (hb hby at_5) rfl k) ?_
    obtain ⟨T2, X2, e2, st2⟩ := own_callS (W := 0) (r := (some (.int ((p2 &&& (2147483647 : Int32)) % (3 : Int32))))) (y := (⟨"com/example/end_component/endcomponent/language/TypeAcceptsPinLaw", "index", "(I)I"⟩ : MethodName)) X1 hx hZ hown (hw _ (List.mem_of_getElem? (i := 0) rfl)) (hw _ (List.mem_of_getElem? (i := 1) rfl)) (hw _ (List.mem_of_getElem? (i := 2) rfl)) (hw _ (List.mem_of_getElem? (i := 3) rfl)) (by decide) (own_c1 l Z a0 hw p2 h0) e1 (by decide) (by decide) (by decide) (by decide) (g := (mkF m 6 #[.val (.int p1), .val (.int p2), .val (.int (0 : Int32)), .unset, .unset, .unset, .unset, .unset] [(.int p2)])) rfl (by rw [hml]; rfl) (argsL := [(.int p2)]) (rest := []) (lenOf pd_30 rfl) rfl (by show 2 * 0 + _ ≤ _; exact Nat.le_of_eq rfl) (hb hby at_6) rfl
    refine own_via (T' := T2) (g' := (mkF m 9 #[.val (.int p1), .val (.int p2), .val (.int (0 : Int32)), .unset, .unset, .unset, .unset, .unset] [(.int ((p2 &&& (2147483647 : Int32)) % (3 : Int32)))])) st2 ?_
    generalize hj : ((p2 &&& (2147483647 : Int32)) % (3 : Int32)) = j
    rcases own_mod3 p2 j hj with rfl | rfl | rfl
    · refine own_via (T' := T2) (g' := (mkF m 10 #[.val (.int p1), .val (.int p2), .val (.int (0 : Int32)), .val (.int (0 : Int32)), .unset, .unset, .unset, .unset] [])) (fun t k => XS.istoreN X2.here hx rfl (hb hby at_9) rfl (l' := #[.val (.int p1), .val (.int p2), .val (.int (0 : Int32)), .val (.int (0 : Int32)), .unset, .unset, .unset, .unset]) rfl k) ?_
      refine own_via (T' := T2) (g' := (mkF m 11 #[.val (.int p1), .val (.int p2), .val (.int (0 : Int32)), .val (.int (0 : Int32)), .unset, .unset, .unset, .unset] [(.int (0 : Int32))])) (fun t k => XS.iloadN X2.here hx rfl (hb hby at_10) rfl k) ?_
      obtain ⟨T3, X3, e3, st3⟩ := own_callS (W := 0) (r := (some (.ref w_BOOL))) (y := (⟨"com/example/end_component/endcomponent/language/TypeAcceptsPinLaw", "pick", "(I)Lcom/example/end_component/endcomponent/language/Type;"⟩ : MethodName)) X2 hx hZ hown (hw _ (List.mem_of_getElem? (i := 5) rfl)) (hw _ (List.mem_of_getElem? (i := 6) rfl)) (hw _ (List.mem_of_getElem? (i := 2) rfl)) (hw _ (List.mem_of_getElem? (i := 7) rfl)) (by decide) (own_c2 l Z a0 hw (0 : Int32) w_BOOL w_INT w_DOUBLE w_BOOL h0 S_BOOL S_INT S_DOUBLE (by simp [own_pick])) e2 (by decide) (by decide) (by decide) (by decide) (g := (mkF m 11 #[.val (.int p1), .val (.int p2), .val (.int (0 : Int32)), .val (.int (0 : Int32)), .unset, .unset, .unset, .unset] [(.int (0 : Int32))])) rfl (by rw [hml]; rfl) (argsL := [(.int (0 : Int32))]) (rest := []) (lenOf pd_31 rfl) rfl (by show 2 * 0 + _ ≤ _; exact Nat.le_of_eq rfl) (hb hby at_11) rfl
      refine own_via (T' := T3) (g' := (mkF m 14 #[.val (.int p1), .val (.int p2), .val (.int (0 : Int32)), .val (.int (0 : Int32)), .unset, .unset, .unset, .unset] [(.ref w_BOOL)])) st3 ?_
      refine own_via (T' := T3) (g' := (mkF m 16 #[.val (.int p1), .val (.int p2), .val (.int (0 : Int32)), .val (.int (0 : Int32)), .val (.ref w_BOOL), .unset, .unset, .unset] [])) (fun t k => XS.astore X3.here hx rfl (hb hby at_14) rfl rfl (l' := #[.val (.int p1), .val (.int p2), .val (.int (0 : Int32)), .val (.int (0 : Int32)), .val (.ref w_BOOL), .unset, .unset, .unset]) rfl k) ?_
      refine own_via (T' := T3) (g' := (mkF m 17 #[.val (.int p1), .val (.int p2), .val (.int (0 : Int32)), .val (.int (0 : Int32)), .val (.ref w_BOOL), .unset, .unset, .unset] [(.int (0 : Int32))])) (fun t k => XS.iloadN X3.here hx rfl (hb hby at_16) rfl k) ?_
      obtain ⟨T4, X4, e4, st4⟩ := own_callS (W := 0) (r := (some (.ref w_BOOL))) (y := (⟨"com/example/end_component/endcomponent/language/TypeAcceptsPinLaw", "pick", "(I)Lcom/example/end_component/endcomponent/language/Type;"⟩ : MethodName)) X3 hx hZ hown (hw _ (List.mem_of_getElem? (i := 5) rfl)) (hw _ (List.mem_of_getElem? (i := 6) rfl)) (hw _ (List.mem_of_getElem? (i := 2) rfl)) (hw _ (List.mem_of_getElem? (i := 7) rfl)) (by decide) (own_c2 l Z a0 hw (0 : Int32) w_BOOL w_INT w_DOUBLE w_BOOL h0 S_BOOL S_INT S_DOUBLE (by simp [own_pick])) e3 (by decide) (by decide) (by decide) (by decide) (g := (mkF m 17 #[.val (.int p1), .val (.int p2), .val (.int (0 : Int32)), .val (.int (0 : Int32)), .val (.ref w_BOOL), .unset, .unset, .unset] [(.int (0 : Int32))])) rfl (by rw [hml]; rfl) (argsL := [(.int (0 : Int32))]) (rest := []) (lenOf pd_31 rfl) rfl (by show 2 * 0 + _ ≤ _; exact Nat.le_of_eq rfl) (hb hby at_17) rfl
      refine own_via (T' := T4) (g' := (mkF m 20 #[.val (.int p1), .val (.int p2), .val (.int (0 : Int32)), .val (.int (0 : Int32)), .val (.ref w_BOOL), .unset, .unset, .unset] [(.ref w_BOOL)])) st4 ?_
      refine own_via (T' := T4) (g' := (mkF m 22 #[.val (.int p1), .val (.int p2), .val (.int (0 : Int32)), .val (.int (0 : Int32)), .val (.ref w_BOOL), .val (.ref w_BOOL), .unset, .unset] [])) (fun t k => XS.astore X4.here hx rfl (hb hby at_20) rfl rfl (l' := #[.val (.int p1), .val (.int p2), .val (.int (0 : Int32)), .val (.int (0 : Int32)), .val (.ref w_BOOL), .val (.ref w_BOOL), .unset, .unset]) rfl k) ?_
      refine own_via (T' := T4) (g' := (mkF m 25 #[.val (.int p1), .val (.int p2), .val (.int (0 : Int32)), .val (.int (0 : Int32)), .val (.ref w_BOOL), .val (.ref w_BOOL), .unset, .unset] [(.int (401 : Int32))])) (fun t k => XS.sipush X4.here hx rfl (hb hby at_22) k) ?_
      refine own_via (T' := T4) (g' := (mkF m 27 #[.val (.int p1), .val (.int p2), .val (.int (0 : Int32)), .val (.int (0 : Int32)), .val (.ref w_BOOL), .val (.ref w_BOOL), .val (.int (401 : Int32)), .unset] [])) (fun t k => XS.istore X4.here hx rfl (hb hby at_25) rfl (l' := #[.val (.int p1), .val (.int p2), .val (.int (0 : Int32)), .val (.int (0 : Int32)), .val (.ref w_BOOL), .val (.ref w_BOOL), .val (.int (401 : Int32)), .unset]) rfl k) ?_
      refine own_via (T' := T4) (g' := (mkF m 29 #[.val (.int p1), .val (.int p2), .val (.int (0 : Int32)), .val (.int (0 : Int32)), .val (.ref w_BOOL), .val (.ref w_BOOL), .val (.int (401 : Int32)), .unset] [(.int (401 : Int32))])) (fun t k => XS.iload X4.here hx rfl (hb hby at_27) rfl k) ?_
      refine own_via (T' := T4) (g' := (mkF m 30 #[.val (.int p1), .val (.int p2), .val (.int (0 : Int32)), .val (.int (0 : Int32)), .val (.ref w_BOOL), .val (.ref w_BOOL), .val (.int (401 : Int32)), .unset] [(.int (3 : Int32)), (.int (401 : Int32))])) (fun t k => XS.iconst X4.here hx rfl (hb hby at_29) k) ?_
      refine own_via (T' := T4) (g' := (mkF m 31 #[.val (.int p1), .val (.int p2), .val (.int (0 : Int32)), .val (.int (0 : Int32)), .val (.ref w_BOOL), .val (.ref w_BOOL), .val (.int (401 : Int32)), .unset] [(.int (0 : Int32)), (.int (3 : Int32)), (.int (401 : Int32))])) (fun t k => XS.iloadN X4.here hx rfl (hb hby at_30) rfl k) ?_
      refine own_via (T' := T4) (g' := (mkF m 32 #[.val (.int p1), .val (.int p2), .val (.int (0 : Int32)), .val (.int (0 : Int32)), .val (.ref w_BOOL), .val (.ref w_BOOL), .val (.int (401 : Int32)), .unset] [(.int ((3 : Int32) * (0 : Int32))), (.int (401 : Int32))])) (fun t k => XS.imul X4.here hx rfl (hb hby at_31) rfl k) ?_
      rw [show ((3 : Int32) * (0 : Int32)) = (0 : Int32) from by decide]
      refine own_via (T' := T4) (g' := (mkF m 33 #[.val (.int p1), .val (.int p2), .val (.int (0 : Int32)), .val (.int (0 : Int32)), .val (.ref w_BOOL), .val (.ref w_BOOL), .val (.int (401 : Int32)), .unset] [(.int (0 : Int32)), (.int (0 : Int32)), (.int (401 : Int32))])) (fun t k => XS.iloadN X4.here hx rfl (hb hby at_32) rfl k) ?_
      refine own_via (T' := T4) (g' := (mkF m 34 #[.val (.int p1), .val (.int p2), .val (.int (0 : Int32)), .val (.int (0 : Int32)), .val (.ref w_BOOL), .val (.ref w_BOOL), .val (.int (401 : Int32)), .unset] [(.int ((0 : Int32) + (0 : Int32))), (.int (401 : Int32))])) (fun t k => XS.iadd X4.here hx rfl (hb hby at_33) rfl k) ?_
      rw [show ((0 : Int32) + (0 : Int32)) = (0 : Int32) from by decide]
      refine own_via (T' := T4) (g' := (mkF m 35 #[.val (.int p1), .val (.int p2), .val (.int (0 : Int32)), .val (.int (0 : Int32)), .val (.ref w_BOOL), .val (.ref w_BOOL), .val (.int (401 : Int32)), .unset] [(.int ((401 : Int32) >>> ((0 : Int32) &&& 31)))])) (fun t k => XS.ishr X4.here hx rfl (hb hby at_34) rfl k) ?_
      rw [show ((401 : Int32) >>> ((0 : Int32) &&& 31)) = (401 : Int32) from by decide]
      refine own_via (T' := T4) (g' := (mkF m 36 #[.val (.int p1), .val (.int p2), .val (.int (0 : Int32)), .val (.int (0 : Int32)), .val (.ref w_BOOL), .val (.ref w_BOOL), .val (.int (401 : Int32)), .unset] [(.int (1 : Int32)), (.int (401 : Int32))])) (fun t k => XS.iconst X4.here hx rfl (hb hby at_35) k) ?_
      refine own_via (T' := T4) (g' := (mkF m 37 #[.val (.int p1), .val (.int p2), .val (.int (0 : Int32)), .val (.int (0 : Int32)), .val (.ref w_BOOL), .val (.ref w_BOOL), .val (.int (401 : Int32)), .unset] [(.int ((401 : Int32) &&& (1 : Int32)))])) (fun t k => XS.iand X4.here hx rfl (hb hby at_36) rfl k) ?_
      rw [show ((401 : Int32) &&& (1 : Int32)) = (1 : Int32) from by decide]
      refine own_via (T' := T4) (g' := (mkF m 40 #[.val (.int p1), .val (.int p2), .val (.int (0 : Int32)), .val (.int (0 : Int32)), .val (.ref w_BOOL), .val (.ref w_BOOL), .val (.int (401 : Int32)), .unset] [])) (fun t k => XS.ifNo X4.here hx rfl (hb hby at_37) rfl ((if0 _ _).trans (feq (by decide)).1) k) ?_
      refine own_via (T' := T4) (g' := (mkF m 41 #[.val (.int p1), .val (.int p2), .val (.int (0 : Int32)), .val (.int (0 : Int32)), .val (.ref w_BOOL), .val (.ref w_BOOL), .val (.int (401 : Int32)), .unset] [(.int (1 : Int32))])) (fun t k => XS.iconst X4.here hx rfl (hb hby at_40) k) ?_
      refine own_via (T' := T4) (g' := (mkF m 45 #[.val (.int p1), .val (.int p2), .val (.int (0 : Int32)), .val (.int (0 : Int32)), .val (.ref w_BOOL), .val (.ref w_BOOL), .val (.int (401 : Int32)), .unset] [(.int (1 : Int32))])) (fun t k => XS.goto X4.here hx rfl (pc0 := 41) (pc' := 45) rfl (hb hby at_41) (by decide) (by decide) k) ?_
      refine own_via (T' := T4) (g' := (mkF m 47 #[.val (.int p1), .val (.int p2), .val (.int (0 : Int32)), .val (.int (0 : Int32)), .val (.ref w_BOOL), .val (.ref w_BOOL), .val (.int (401 : Int32)), .val (.int (1 : Int32))] [])) (fun t k => XS.istore X4.here hx rfl (hb hby at_45) rfl (l' := #[.val (.int p1), .val (.int p2), .val (.int (0 : Int32)), .val (.int (0 : Int32)), .val (.ref w_BOOL), .val (.ref w_BOOL), .val (.int (401 : Int32)), .val (.int (1 : Int32))]) rfl k) ?_
      refine own_via (T' := T4) (g' := (mkF m 49 #[.val (.int p1), .val (.int p2), .val (.int (0 : Int32)), .val (.int (0 : Int32)), .val (.ref w_BOOL), .val (.ref w_BOOL), .val (.int (401 : Int32)), .val (.int (1 : Int32))] [(.ref w_BOOL)])) (fun t k => XS.aload X4.here hx rfl (hb hby at_47) rfl rfl k) ?_
      refine own_via (T' := T4) (g' := (mkF m 51 #[.val (.int p1), .val (.int p2), .val (.int (0 : Int32)), .val (.int (0 : Int32)), .val (.ref w_BOOL), .val (.ref w_BOOL), .val (.int (401 : Int32)), .val (.int (1 : Int32))] [(.ref w_BOOL), (.ref w_BOOL)])) (fun t k => XS.aload X4.here hx rfl (hb hby at_49) rfl rfl k) ?_
      obtain ⟨T5, X5, e5, st5⟩ := own_callV (W := 0) (r := (some (.int (1 : Int32)))) (y := (⟨"com/example/end_component/endcomponent/language/Type", "accepts", "(Lcom/example/end_component/endcomponent/language/Type;)Z"⟩ : MethodName)) (z := (⟨"com/example/end_component/endcomponent/language/Type", "accepts", "(Lcom/example/end_component/endcomponent/language/Type;)Z"⟩ : MethodName)) X4 hx hZ hown (hw _ (List.mem_of_getElem? (i := 11) rfl)) (hw _ (List.mem_of_getElem? (i := 12) rfl)) (notFace_of_selects (args := #[]) (mvT hZ (hw _ (List.mem_of_getElem? (i := 14) rfl)))) (hw _ (List.mem_of_getElem? (i := 14) rfl)) (hw _ (List.mem_of_getElem? (i := 13) rfl)) (by decide) (hw _ (List.mem_of_getElem? (i := 15) rfl)) (hw _ (List.mem_of_getElem? (i := 9) rfl)) (own_c3 l Z a0 hw w_BOOL w_BOOL w_INT w_DOUBLE (1 : Int32) h0 S_INT S_DOUBLE (by simp [own_acc, ne_BOOL_INT, ne_BOOL_DOUBLE, ne_INT_BOOL, ne_INT_DOUBLE, ne_DOUBLE_BOOL, ne_DOUBLE_INT])) e4 E_BOOL (by decide) (by decide) (by decide) (by decide) (g := (mkF m 51 #[.val (.int p1), .val (.int p2), .val (.int (0 : Int32)), .val (.int (0 : Int32)), .val (.ref w_BOOL), .val (.ref w_BOOL), .val (.int (401 : Int32)), .val (.int (1 : Int32))] [(.ref w_BOOL), (.ref w_BOOL)])) rfl (by rw [hml]; rfl) (argsL := [(.ref w_BOOL)]) (rest := []) (lenOf pd_32 rfl) rfl (by show 2 * 0 + _ ≤ _; exact Nat.le_of_eq rfl) (hb hby at_51) rfl
      refine own_via (T' := T5) (g' := (mkF m 54 #[.val (.int p1), .val (.int p2), .val (.int (0 : Int32)), .val (.int (0 : Int32)), .val (.ref w_BOOL), .val (.ref w_BOOL), .val (.int (401 : Int32)), .val (.int (1 : Int32))] [(.int (1 : Int32))])) st5 ?_
      refine own_via (T' := T5) (g' := (mkF m 56 #[.val (.int p1), .val (.int p2), .val (.int (0 : Int32)), .val (.int (0 : Int32)), .val (.ref w_BOOL), .val (.ref w_BOOL), .val (.int (401 : Int32)), .val (.int (1 : Int32))] [(.int (1 : Int32)), (.int (1 : Int32))])) (fun t k => XS.iload X5.here hx rfl (hb hby at_54) rfl k) ?_
      refine own_via (T' := T5) (g' := (mkF m 59 #[.val (.int p1), .val (.int p2), .val (.int (0 : Int32)), .val (.int (0 : Int32)), .val (.ref w_BOOL), .val (.ref w_BOOL), .val (.int (401 : Int32)), .val (.int (1 : Int32))] [])) (fun t k => XS.icmpNo X5.here hx rfl (hb hby at_56) rfl (teq rfl).2 k) ?_
      refine own_via (T' := T5) (g' := (mkF m 60 #[.val (.int p1), .val (.int p2), .val (.int (0 : Int32)), .val (.int (0 : Int32)), .val (.ref w_BOOL), .val (.ref w_BOOL), .val (.int (401 : Int32)), .val (.int (1 : Int32))] [(.int (1 : Int32))])) (fun t k => XS.iconst X5.here hx rfl (hb hby at_59) k) ?_
      refine own_via (T' := T5) (g' := (mkF m 64 #[.val (.int p1), .val (.int p2), .val (.int (0 : Int32)), .val (.int (0 : Int32)), .val (.ref w_BOOL), .val (.ref w_BOOL), .val (.int (401 : Int32)), .val (.int (1 : Int32))] [(.int (1 : Int32))])) (fun t k => XS.goto X5.here hx rfl (pc0 := 60) (pc' := 64) rfl (hb hby at_60) (by decide) (by decide) k) ?_
      exact own_ret (t := .boolean) X5 hx Bd.returns hlk rfl (Or.inl ⟨rfl, by simp, _, rfl⟩) (hb hby at_64) (by decide) (by decide) ⟨rfl, Fr.nil _⟩
    · refine own_via (T' := T2) (g' := (mkF m 10 #[.val (.int p1), .val (.int p2), .val (.int (0 : Int32)), .val (.int (1 : Int32)), .unset, .unset, .unset, .unset] [])) (fun t k => XS.istoreN X2.here hx rfl (hb hby at_9) rfl (l' := #[.val (.int p1), .val (.int p2), .val (.int (0 : Int32)), .val (.int (1 : Int32)), .unset, .unset, .unset, .unset]) rfl k) ?_
      refine own_via (T' := T2) (g' := (mkF m 11 #[.val (.int p1), .val (.int p2), .val (.int (0 : Int32)), .val (.int (1 : Int32)), .unset, .unset, .unset, .unset] [(.int (0 : Int32))])) (fun t k => XS.iloadN X2.here hx rfl (hb hby at_10) rfl k) ?_
      obtain ⟨T6, X6, e6, st6⟩ := own_callS (W := 0) (r := (some (.ref w_BOOL))) (y := (⟨"com/example/end_component/endcomponent/language/TypeAcceptsPinLaw", "pick", "(I)Lcom/example/end_component/endcomponent/language/Type;"⟩ : MethodName)) X2 hx hZ hown (hw _ (List.mem_of_getElem? (i := 5) rfl)) (hw _ (List.mem_of_getElem? (i := 6) rfl)) (hw _ (List.mem_of_getElem? (i := 2) rfl)) (hw _ (List.mem_of_getElem? (i := 7) rfl)) (by decide) (own_c2 l Z a0 hw (0 : Int32) w_BOOL w_INT w_DOUBLE w_BOOL h0 S_BOOL S_INT S_DOUBLE (by simp [own_pick])) e2 (by decide) (by decide) (by decide) (by decide) (g := (mkF m 11 #[.val (.int p1), .val (.int p2), .val (.int (0 : Int32)), .val (.int (1 : Int32)), .unset, .unset, .unset, .unset] [(.int (0 : Int32))])) rfl (by rw [hml]; rfl) (argsL := [(.int (0 : Int32))]) (rest := []) (lenOf pd_31 rfl) rfl (by show 2 * 0 + _ ≤ _; exact Nat.le_of_eq rfl) (hb hby at_11) rfl
      refine own_via (T' := T6) (g' := (mkF m 14 #[.val (.int p1), .val (.int p2), .val (.int (0 : Int32)), .val (.int (1 : Int32)), .unset, .unset, .unset, .unset] [(.ref w_BOOL)])) st6 ?_
      refine own_via (T' := T6) (g' := (mkF m 16 #[.val (.int p1), .val (.int p2), .val (.int (0 : Int32)), .val (.int (1 : Int32)), .val (.ref w_BOOL), .unset, .unset, .unset] [])) (fun t k => XS.astore X6.here hx rfl (hb hby at_14) rfl rfl (l' := #[.val (.int p1), .val (.int p2), .val (.int (0 : Int32)), .val (.int (1 : Int32)), .val (.ref w_BOOL), .unset, .unset, .unset]) rfl k) ?_
      refine own_via (T' := T6) (g' := (mkF m 17 #[.val (.int p1), .val (.int p2), .val (.int (0 : Int32)), .val (.int (1 : Int32)), .val (.ref w_BOOL), .unset, .unset, .unset] [(.int (1 : Int32))])) (fun t k => XS.iloadN X6.here hx rfl (hb hby at_16) rfl k) ?_
      obtain ⟨T7, X7, e7, st7⟩ := own_callS (W := 0) (r := (some (.ref w_INT))) (y := (⟨"com/example/end_component/endcomponent/language/TypeAcceptsPinLaw", "pick", "(I)Lcom/example/end_component/endcomponent/language/Type;"⟩ : MethodName)) X6 hx hZ hown (hw _ (List.mem_of_getElem? (i := 5) rfl)) (hw _ (List.mem_of_getElem? (i := 6) rfl)) (hw _ (List.mem_of_getElem? (i := 2) rfl)) (hw _ (List.mem_of_getElem? (i := 7) rfl)) (by decide) (own_c2 l Z a0 hw (1 : Int32) w_BOOL w_INT w_DOUBLE w_INT h0 S_BOOL S_INT S_DOUBLE (by simp [own_pick])) e6 (by decide) (by decide) (by decide) (by decide) (g := (mkF m 17 #[.val (.int p1), .val (.int p2), .val (.int (0 : Int32)), .val (.int (1 : Int32)), .val (.ref w_BOOL), .unset, .unset, .unset] [(.int (1 : Int32))])) rfl (by rw [hml]; rfl) (argsL := [(.int (1 : Int32))]) (rest := []) (lenOf pd_31 rfl) rfl (by show 2 * 0 + _ ≤ _; exact Nat.le_of_eq rfl) (hb hby at_17) rfl
      refine own_via (T' := T7) (g' := (mkF m 20 #[.val (.int p1), .val (.int p2), .val (.int (0 : Int32)), .val (.int (1 : Int32)), .val (.ref w_BOOL), .unset, .unset, .unset] [(.ref w_INT)])) st7 ?_
      refine own_via (T' := T7) (g' := (mkF m 22 #[.val (.int p1), .val (.int p2), .val (.int (0 : Int32)), .val (.int (1 : Int32)), .val (.ref w_BOOL), .val (.ref w_INT), .unset, .unset] [])) (fun t k => XS.astore X7.here hx rfl (hb hby at_20) rfl rfl (l' := #[.val (.int p1), .val (.int p2), .val (.int (0 : Int32)), .val (.int (1 : Int32)), .val (.ref w_BOOL), .val (.ref w_INT), .unset, .unset]) rfl k) ?_
      refine own_via (T' := T7) (g' := (mkF m 25 #[.val (.int p1), .val (.int p2), .val (.int (0 : Int32)), .val (.int (1 : Int32)), .val (.ref w_BOOL), .val (.ref w_INT), .unset, .unset] [(.int (401 : Int32))])) (fun t k => XS.sipush X7.here hx rfl (hb hby at_22) k) ?_
      refine own_via (T' := T7) (g' := (mkF m 27 #[.val (.int p1), .val (.int p2), .val (.int (0 : Int32)), .val (.int (1 : Int32)), .val (.ref w_BOOL), .val (.ref w_INT), .val (.int (401 : Int32)), .unset] [])) (fun t k => XS.istore X7.here hx rfl (hb hby at_25) rfl (l' := #[.val (.int p1), .val (.int p2), .val (.int (0 : Int32)), .val (.int (1 : Int32)), .val (.ref w_BOOL), .val (.ref w_INT), .val (.int (401 : Int32)), .unset]) rfl k) ?_
      refine own_via (T' := T7) (g' := (mkF m 29 #[.val (.int p1), .val (.int p2), .val (.int (0 : Int32)), .val (.int (1 : Int32)), .val (.ref w_BOOL), .val (.ref w_INT), .val (.int (401 : Int32)), .unset] [(.int (401 : Int32))])) (fun t k => XS.iload X7.here hx rfl (hb hby at_27) rfl k) ?_
      refine own_via (T' := T7) (g' := (mkF m 30 #[.val (.int p1), .val (.int p2), .val (.int (0 : Int32)), .val (.int (1 : Int32)), .val (.ref w_BOOL), .val (.ref w_INT), .val (.int (401 : Int32)), .unset] [(.int (3 : Int32)), (.int (401 : Int32))])) (fun t k => XS.iconst X7.here hx rfl (hb hby at_29) k) ?_
      refine own_via (T' := T7) (g' := (mkF m 31 #[.val (.int p1), .val (.int p2), .val (.int (0 : Int32)), .val (.int (1 : Int32)), .val (.ref w_BOOL), .val (.ref w_INT), .val (.int (401 : Int32)), .unset] [(.int (0 : Int32)), (.int (3 : Int32)), (.int (401 : Int32))])) (fun t k => XS.iloadN X7.here hx rfl (hb hby at_30) rfl k) ?_
      refine own_via (T' := T7) (g' := (mkF m 32 #[.val (.int p1), .val (.int p2), .val (.int (0 : Int32)), .val (.int (1 : Int32)), .val (.ref w_BOOL), .val (.ref w_INT), .val (.int (401 : Int32)), .unset] [(.int ((3 : Int32) * (0 : Int32))), (.int (401 : Int32))])) (fun t k => XS.imul X7.here hx rfl (hb hby at_31) rfl k) ?_
      rw [show ((3 : Int32) * (0 : Int32)) = (0 : Int32) from by decide]
      refine own_via (T' := T7) (g' := (mkF m 33 #[.val (.int p1), .val (.int p2), .val (.int (0 : Int32)), .val (.int (1 : Int32)), .val (.ref w_BOOL), .val (.ref w_INT), .val (.int (401 : Int32)), .unset] [(.int (1 : Int32)), (.int (0 : Int32)), (.int (401 : Int32))])) (fun t k => XS.iloadN X7.here hx rfl (hb hby at_32) rfl k) ?_
      refine own_via (T' := T7) (g' := (mkF m 34 #[.val (.int p1), .val (.int p2), .val (.int (0 : Int32)), .val (.int (1 : Int32)), .val (.ref w_BOOL), .val (.ref w_INT), .val (.int (401 : Int32)), .unset] [(.int ((0 : Int32) + (1 : Int32))), (.int (401 : Int32))])) (fun t k => XS.iadd X7.here hx rfl (hb hby at_33) rfl k) ?_
      rw [show ((0 : Int32) + (1 : Int32)) = (1 : Int32) from by decide]
      refine own_via (T' := T7) (g' := (mkF m 35 #[.val (.int p1), .val (.int p2), .val (.int (0 : Int32)), .val (.int (1 : Int32)), .val (.ref w_BOOL), .val (.ref w_INT), .val (.int (401 : Int32)), .unset] [(.int ((401 : Int32) >>> ((1 : Int32) &&& 31)))])) (fun t k => XS.ishr X7.here hx rfl (hb hby at_34) rfl k) ?_
      rw [show ((401 : Int32) >>> ((1 : Int32) &&& 31)) = (200 : Int32) from by decide]
      refine own_via (T' := T7) (g' := (mkF m 36 #[.val (.int p1), .val (.int p2), .val (.int (0 : Int32)), .val (.int (1 : Int32)), .val (.ref w_BOOL), .val (.ref w_INT), .val (.int (401 : Int32)), .unset] [(.int (1 : Int32)), (.int (200 : Int32))])) (fun t k => XS.iconst X7.here hx rfl (hb hby at_35) k) ?_
      refine own_via (T' := T7) (g' := (mkF m 37 #[.val (.int p1), .val (.int p2), .val (.int (0 : Int32)), .val (.int (1 : Int32)), .val (.ref w_BOOL), .val (.ref w_INT), .val (.int (401 : Int32)), .unset] [(.int ((200 : Int32) &&& (1 : Int32)))])) (fun t k => XS.iand X7.here hx rfl (hb hby at_36) rfl k) ?_
      rw [show ((200 : Int32) &&& (1 : Int32)) = (0 : Int32) from by decide]
      refine own_via (T' := T7) (g' := (mkF m 44 #[.val (.int p1), .val (.int p2), .val (.int (0 : Int32)), .val (.int (1 : Int32)), .val (.ref w_BOOL), .val (.ref w_INT), .val (.int (401 : Int32)), .unset] [])) (fun t k => XS.ifYes X7.here hx rfl (pc0 := 37) (pc' := 44) rfl (hb hby at_37) rfl ((if0 _ _).trans (teq rfl).1) (by decide) (by decide) k) ?_
      refine own_via (T' := T7) (g' := (mkF m 45 #[.val (.int p1), .val (.int p2), .val (.int (0 : Int32)), .val (.int (1 : Int32)), .val (.ref w_BOOL), .val (.ref w_INT), .val (.int (401 : Int32)), .unset] [(.int (0 : Int32))])) (fun t k => XS.iconst X7.here hx rfl (hb hby at_44) k) ?_
      refine own_via (T' := T7) (g' := (mkF m 47 #[.val (.int p1), .val (.int p2), .val (.int (0 : Int32)), .val (.int (1 : Int32)), .val (.ref w_BOOL), .val (.ref w_INT), .val (.int (401 : Int32)), .val (.int (0 : Int32))] [])) (fun t k => XS.istore X7.here hx rfl (hb hby at_45) rfl (l' := #[.val (.int p1), .val (.int p2), .val (.int (0 : Int32)), .val (.int (1 : Int32)), .val (.ref w_BOOL), .val (.ref w_INT), .val (.int (401 : Int32)), .val (.int (0 : Int32))]) rfl k) ?_
      refine own_via (T' := T7) (g' := (mkF m 49 #[.val (.int p1), .val (.int p2), .val (.int (0 : Int32)), .val (.int (1 : Int32)), .val (.ref w_BOOL), .val (.ref w_INT), .val (.int (401 : Int32)), .val (.int (0 : Int32))] [(.ref w_BOOL)])) (fun t k => XS.aload X7.here hx rfl (hb hby at_47) rfl rfl k) ?_
      refine own_via (T' := T7) (g' := (mkF m 51 #[.val (.int p1), .val (.int p2), .val (.int (0 : Int32)), .val (.int (1 : Int32)), .val (.ref w_BOOL), .val (.ref w_INT), .val (.int (401 : Int32)), .val (.int (0 : Int32))] [(.ref w_INT), (.ref w_BOOL)])) (fun t k => XS.aload X7.here hx rfl (hb hby at_49) rfl rfl k) ?_
      obtain ⟨T8, X8, e8, st8⟩ := own_callV (W := 0) (r := (some (.int (0 : Int32)))) (y := (⟨"com/example/end_component/endcomponent/language/Type", "accepts", "(Lcom/example/end_component/endcomponent/language/Type;)Z"⟩ : MethodName)) (z := (⟨"com/example/end_component/endcomponent/language/Type", "accepts", "(Lcom/example/end_component/endcomponent/language/Type;)Z"⟩ : MethodName)) X7 hx hZ hown (hw _ (List.mem_of_getElem? (i := 11) rfl)) (hw _ (List.mem_of_getElem? (i := 12) rfl)) (notFace_of_selects (args := #[]) (mvT hZ (hw _ (List.mem_of_getElem? (i := 14) rfl)))) (hw _ (List.mem_of_getElem? (i := 14) rfl)) (hw _ (List.mem_of_getElem? (i := 13) rfl)) (by decide) (hw _ (List.mem_of_getElem? (i := 15) rfl)) (hw _ (List.mem_of_getElem? (i := 9) rfl)) (own_c3 l Z a0 hw w_BOOL w_INT w_INT w_DOUBLE (0 : Int32) h0 S_INT S_DOUBLE (by simp [own_acc, ne_BOOL_INT, ne_BOOL_DOUBLE, ne_INT_BOOL, ne_INT_DOUBLE, ne_DOUBLE_BOOL, ne_DOUBLE_INT])) e7 E_BOOL (by decide) (by decide) (by decide) (by decide) (g := (mkF m 51 #[.val (.int p1), .val (.int p2), .val (.int (0 : Int32)), .val (.int (1 : Int32)), .val (.ref w_BOOL), .val (.ref w_INT), .val (.int (401 : Int32)), .val (.int (0 : Int32))] [(.ref w_INT), (.ref w_BOOL)])) rfl (by rw [hml]; rfl) (argsL := [(.ref w_INT)]) (rest := []) (lenOf pd_32 rfl) rfl (by show 2 * 0 + _ ≤ _; exact Nat.le_of_eq rfl) (hb hby at_51) rfl
      refine own_via (T' := T8) (g' := (mkF m 54 #[.val (.int p1), .val (.int p2), .val (.int (0 : Int32)), .val (.int (1 : Int32)), .val (.ref w_BOOL), .val (.ref w_INT), .val (.int (401 : Int32)), .val (.int (0 : Int32))] [(.int (0 : Int32))])) st8 ?_
      refine own_via (T' := T8) (g' := (mkF m 56 #[.val (.int p1), .val (.int p2), .val (.int (0 : Int32)), .val (.int (1 : Int32)), .val (.ref w_BOOL), .val (.ref w_INT), .val (.int (401 : Int32)), .val (.int (0 : Int32))] [(.int (0 : Int32)), (.int (0 : Int32))])) (fun t k => XS.iload X8.here hx rfl (hb hby at_54) rfl k) ?_
      refine own_via (T' := T8) (g' := (mkF m 59 #[.val (.int p1), .val (.int p2), .val (.int (0 : Int32)), .val (.int (1 : Int32)), .val (.ref w_BOOL), .val (.ref w_INT), .val (.int (401 : Int32)), .val (.int (0 : Int32))] [])) (fun t k => XS.icmpNo X8.here hx rfl (hb hby at_56) rfl (teq rfl).2 k) ?_
      refine own_via (T' := T8) (g' := (mkF m 60 #[.val (.int p1), .val (.int p2), .val (.int (0 : Int32)), .val (.int (1 : Int32)), .val (.ref w_BOOL), .val (.ref w_INT), .val (.int (401 : Int32)), .val (.int (0 : Int32))] [(.int (1 : Int32))])) (fun t k => XS.iconst X8.here hx rfl (hb hby at_59) k) ?_
      refine own_via (T' := T8) (g' := (mkF m 64 #[.val (.int p1), .val (.int p2), .val (.int (0 : Int32)), .val (.int (1 : Int32)), .val (.ref w_BOOL), .val (.ref w_INT), .val (.int (401 : Int32)), .val (.int (0 : Int32))] [(.int (1 : Int32))])) (fun t k => XS.goto X8.here hx rfl (pc0 := 60) (pc' := 64) rfl (hb hby at_60) (by decide) (by decide) k) ?_
      exact own_ret (t := .boolean) X8 hx Bd.returns hlk rfl (Or.inl ⟨rfl, by simp, _, rfl⟩) (hb hby at_64) (by decide) (by decide) ⟨rfl, Fr.nil _⟩
    · refine own_via (T' := T2) (g' := (mkF m 10 #[.val (.int p1), .val (.int p2), .val (.int (0 : Int32)), .val (.int (2 : Int32)), .unset, .unset, .unset, .unset] [])) (fun t k => XS.istoreN X2.here hx rfl (hb hby at_9) rfl (l' := #[.val (.int p1), .val (.int p2), .val (.int (0 : Int32)), .val (.int (2 : Int32)), .unset, .unset, .unset, .unset]) rfl k) ?_
      refine own_via (T' := T2) (g' := (mkF m 11 #[.val (.int p1), .val (.int p2), .val (.int (0 : Int32)), .val (.int (2 : Int32)), .unset, .unset, .unset, .unset] [(.int (0 : Int32))])) (fun t k => XS.iloadN X2.here hx rfl (hb hby at_10) rfl k) ?_
      obtain ⟨T9, X9, e9, st9⟩ := own_callS (W := 0) (r := (some (.ref w_BOOL))) (y := (⟨"com/example/end_component/endcomponent/language/TypeAcceptsPinLaw", "pick", "(I)Lcom/example/end_component/endcomponent/language/Type;"⟩ : MethodName)) X2 hx hZ hown (hw _ (List.mem_of_getElem? (i := 5) rfl)) (hw _ (List.mem_of_getElem? (i := 6) rfl)) (hw _ (List.mem_of_getElem? (i := 2) rfl)) (hw _ (List.mem_of_getElem? (i := 7) rfl)) (by decide) (own_c2 l Z a0 hw (0 : Int32) w_BOOL w_INT w_DOUBLE w_BOOL h0 S_BOOL S_INT S_DOUBLE (by simp [own_pick])) e2 (by decide) (by decide) (by decide) (by decide) (g := (mkF m 11 #[.val (.int p1), .val (.int p2), .val (.int (0 : Int32)), .val (.int (2 : Int32)), .unset, .unset, .unset, .unset] [(.int (0 : Int32))])) rfl (by rw [hml]; rfl) (argsL := [(.int (0 : Int32))]) (rest := []) (lenOf pd_31 rfl) rfl (by show 2 * 0 + _ ≤ _; exact Nat.le_of_eq rfl) (hb hby at_11) rfl
      refine own_via (T' := T9) (g' := (mkF m 14 #[.val (.int p1), .val (.int p2), .val (.int (0 : Int32)), .val (.int (2 : Int32)), .unset, .unset, .unset, .unset] [(.ref w_BOOL)])) st9 ?_
      refine own_via (T' := T9) (g' := (mkF m 16 #[.val (.int p1), .val (.int p2), .val (.int (0 : Int32)), .val (.int (2 : Int32)), .val (.ref w_BOOL), .unset, .unset, .unset] [])) (fun t k => XS.astore X9.here hx rfl (hb hby at_14) rfl rfl (l' := #[.val (.int p1), .val (.int p2), .val (.int (0 : Int32)), .val (.int (2 : Int32)), .val (.ref w_BOOL), .unset, .unset, .unset]) rfl k) ?_
      refine own_via (T' := T9) (g' := (mkF m 17 #[.val (.int p1), .val (.int p2), .val (.int (0 : Int32)), .val (.int (2 : Int32)), .val (.ref w_BOOL), .unset, .unset, .unset] [(.int (2 : Int32))])) (fun t k => XS.iloadN X9.here hx rfl (hb hby at_16) rfl k) ?_
      obtain ⟨T10, X10, e10, st10⟩ := own_callS (W := 0) (r := (some (.ref w_DOUBLE))) (y := (⟨"com/example/end_component/endcomponent/language/TypeAcceptsPinLaw", "pick", "(I)Lcom/example/end_component/endcomponent/language/Type;"⟩ : MethodName)) X9 hx hZ hown (hw _ (List.mem_of_getElem? (i := 5) rfl)) (hw _ (List.mem_of_getElem? (i := 6) rfl)) (hw _ (List.mem_of_getElem? (i := 2) rfl)) (hw _ (List.mem_of_getElem? (i := 7) rfl)) (by decide) (own_c2 l Z a0 hw (2 : Int32) w_BOOL w_INT w_DOUBLE w_DOUBLE h0 S_BOOL S_INT S_DOUBLE (by simp [own_pick])) e9 (by decide) (by decide) (by decide) (by decide) (g := (mkF m 17 #[.val (.int p1), .val (.int p2), .val (.int (0 : Int32)), .val (.int (2 : Int32)), .val (.ref w_BOOL), .unset, .unset, .unset] [(.int (2 : Int32))])) rfl (by rw [hml]; rfl) (argsL := [(.int (2 : Int32))]) (rest := []) (lenOf pd_31 rfl) rfl (by show 2 * 0 + _ ≤ _; exact Nat.le_of_eq rfl) (hb hby at_17) rfl
      refine own_via (T' := T10) (g' := (mkF m 20 #[.val (.int p1), .val (.int p2), .val (.int (0 : Int32)), .val (.int (2 : Int32)), .val (.ref w_BOOL), .unset, .unset, .unset] [(.ref w_DOUBLE)])) st10 ?_
      refine own_via (T' := T10) (g' := (mkF m 22 #[.val (.int p1), .val (.int p2), .val (.int (0 : Int32)), .val (.int (2 : Int32)), .val (.ref w_BOOL), .val (.ref w_DOUBLE), .unset, .unset] [])) (fun t k => XS.astore X10.here hx rfl (hb hby at_20) rfl rfl (l' := #[.val (.int p1), .val (.int p2), .val (.int (0 : Int32)), .val (.int (2 : Int32)), .val (.ref w_BOOL), .val (.ref w_DOUBLE), .unset, .unset]) rfl k) ?_
      refine own_via (T' := T10) (g' := (mkF m 25 #[.val (.int p1), .val (.int p2), .val (.int (0 : Int32)), .val (.int (2 : Int32)), .val (.ref w_BOOL), .val (.ref w_DOUBLE), .unset, .unset] [(.int (401 : Int32))])) (fun t k => XS.sipush X10.here hx rfl (hb hby at_22) k) ?_
      refine own_via (T' := T10) (g' := (mkF m 27 #[.val (.int p1), .val (.int p2), .val (.int (0 : Int32)), .val (.int (2 : Int32)), .val (.ref w_BOOL), .val (.ref w_DOUBLE), .val (.int (401 : Int32)), .unset] [])) (fun t k => XS.istore X10.here hx rfl (hb hby at_25) rfl (l' := #[.val (.int p1), .val (.int p2), .val (.int (0 : Int32)), .val (.int (2 : Int32)), .val (.ref w_BOOL), .val (.ref w_DOUBLE), .val (.int (401 : Int32)), .unset]) rfl k) ?_
      refine own_via (T' := T10) (g' := (mkF m 29 #[.val (.int p1), .val (.int p2), .val (.int (0 : Int32)), .val (.int (2 : Int32)), .val (.ref w_BOOL), .val (.ref w_DOUBLE), .val (.int (401 : Int32)), .unset] [(.int (401 : Int32))])) (fun t k => XS.iload X10.here hx rfl (hb hby at_27) rfl k) ?_
      refine own_via (T' := T10) (g' := (mkF m 30 #[.val (.int p1), .val (.int p2), .val (.int (0 : Int32)), .val (.int (2 : Int32)), .val (.ref w_BOOL), .val (.ref w_DOUBLE), .val (.int (401 : Int32)), .unset] [(.int (3 : Int32)), (.int (401 : Int32))])) (fun t k => XS.iconst X10.here hx rfl (hb hby at_29) k) ?_
      refine own_via (T' := T10) (g' := (mkF m 31 #[.val (.int p1), .val (.int p2), .val (.int (0 : Int32)), .val (.int (2 : Int32)), .val (.ref w_BOOL), .val (.ref w_DOUBLE), .val (.int (401 : Int32)), .unset] [(.int (0 : Int32)), (.int (3 : Int32)), (.int (401 : Int32))])) (fun t k => XS.iloadN X10.here hx rfl (hb hby at_30) rfl k) ?_
      refine own_via (T' := T10) (g' := (mkF m 32 #[.val (.int p1), .val (.int p2), .val (.int (0 : Int32)), .val (.int (2 : Int32)), .val (.ref w_BOOL), .val (.ref w_DOUBLE), .val (.int (401 : Int32)), .unset] [(.int ((3 : Int32) * (0 : Int32))), (.int (401 : Int32))])) (fun t k => XS.imul X10.here hx rfl (hb hby at_31) rfl k) ?_
      rw [show ((3 : Int32) * (0 : Int32)) = (0 : Int32) from by decide]
      refine own_via (T' := T10) (g' := (mkF m 33 #[.val (.int p1), .val (.int p2), .val (.int (0 : Int32)), .val (.int (2 : Int32)), .val (.ref w_BOOL), .val (.ref w_DOUBLE), .val (.int (401 : Int32)), .unset] [(.int (2 : Int32)), (.int (0 : Int32)), (.int (401 : Int32))])) (fun t k => XS.iloadN X10.here hx rfl (hb hby at_32) rfl k) ?_
      refine own_via (T' := T10) (g' := (mkF m 34 #[.val (.int p1), .val (.int p2), .val (.int (0 : Int32)), .val (.int (2 : Int32)), .val (.ref w_BOOL), .val (.ref w_DOUBLE), .val (.int (401 : Int32)), .unset] [(.int ((0 : Int32) + (2 : Int32))), (.int (401 : Int32))])) (fun t k => XS.iadd X10.here hx rfl (hb hby at_33) rfl k) ?_
      rw [show ((0 : Int32) + (2 : Int32)) = (2 : Int32) from by decide]
      refine own_via (T' := T10) (g' := (mkF m 35 #[.val (.int p1), .val (.int p2), .val (.int (0 : Int32)), .val (.int (2 : Int32)), .val (.ref w_BOOL), .val (.ref w_DOUBLE), .val (.int (401 : Int32)), .unset] [(.int ((401 : Int32) >>> ((2 : Int32) &&& 31)))])) (fun t k => XS.ishr X10.here hx rfl (hb hby at_34) rfl k) ?_
      rw [show ((401 : Int32) >>> ((2 : Int32) &&& 31)) = (100 : Int32) from by decide]
      refine own_via (T' := T10) (g' := (mkF m 36 #[.val (.int p1), .val (.int p2), .val (.int (0 : Int32)), .val (.int (2 : Int32)), .val (.ref w_BOOL), .val (.ref w_DOUBLE), .val (.int (401 : Int32)), .unset] [(.int (1 : Int32)), (.int (100 : Int32))])) (fun t k => XS.iconst X10.here hx rfl (hb hby at_35) k) ?_
      refine own_via (T' := T10) (g' := (mkF m 37 #[.val (.int p1), .val (.int p2), .val (.int (0 : Int32)), .val (.int (2 : Int32)), .val (.ref w_BOOL), .val (.ref w_DOUBLE), .val (.int (401 : Int32)), .unset] [(.int ((100 : Int32) &&& (1 : Int32)))])) (fun t k => XS.iand X10.here hx rfl (hb hby at_36) rfl k) ?_
      rw [show ((100 : Int32) &&& (1 : Int32)) = (0 : Int32) from by decide]
      refine own_via (T' := T10) (g' := (mkF m 44 #[.val (.int p1), .val (.int p2), .val (.int (0 : Int32)), .val (.int (2 : Int32)), .val (.ref w_BOOL), .val (.ref w_DOUBLE), .val (.int (401 : Int32)), .unset] [])) (fun t k => XS.ifYes X10.here hx rfl (pc0 := 37) (pc' := 44) rfl (hb hby at_37) rfl ((if0 _ _).trans (teq rfl).1) (by decide) (by decide) k) ?_
      refine own_via (T' := T10) (g' := (mkF m 45 #[.val (.int p1), .val (.int p2), .val (.int (0 : Int32)), .val (.int (2 : Int32)), .val (.ref w_BOOL), .val (.ref w_DOUBLE), .val (.int (401 : Int32)), .unset] [(.int (0 : Int32))])) (fun t k => XS.iconst X10.here hx rfl (hb hby at_44) k) ?_
      refine own_via (T' := T10) (g' := (mkF m 47 #[.val (.int p1), .val (.int p2), .val (.int (0 : Int32)), .val (.int (2 : Int32)), .val (.ref w_BOOL), .val (.ref w_DOUBLE), .val (.int (401 : Int32)), .val (.int (0 : Int32))] [])) (fun t k => XS.istore X10.here hx rfl (hb hby at_45) rfl (l' := #[.val (.int p1), .val (.int p2), .val (.int (0 : Int32)), .val (.int (2 : Int32)), .val (.ref w_BOOL), .val (.ref w_DOUBLE), .val (.int (401 : Int32)), .val (.int (0 : Int32))]) rfl k) ?_
      refine own_via (T' := T10) (g' := (mkF m 49 #[.val (.int p1), .val (.int p2), .val (.int (0 : Int32)), .val (.int (2 : Int32)), .val (.ref w_BOOL), .val (.ref w_DOUBLE), .val (.int (401 : Int32)), .val (.int (0 : Int32))] [(.ref w_BOOL)])) (fun t k => XS.aload X10.here hx rfl (hb hby at_47) rfl rfl k) ?_
      refine own_via (T' := T10) (g' := (mkF m 51 #[.val (.int p1), .val (.int p2), .val (.int (0 : Int32)), .val (.int (2 : Int32)), .val (.ref w_BOOL), .val (.ref w_DOUBLE), .val (.int (401 : Int32)), .val (.int (0 : Int32))] [(.ref w_DOUBLE), (.ref w_BOOL)])) (fun t k => XS.aload X10.here hx rfl (hb hby at_49) rfl rfl k) ?_
      obtain ⟨T11, X11, e11, st11⟩ := own_callV (W := 0) (r := (some (.int (0 : Int32)))) (y := (⟨"com/example/end_component/endcomponent/language/Type", "accepts", "(Lcom/example/end_component/endcomponent/language/Type;)Z"⟩ : MethodName)) (z := (⟨"com/example/end_component/endcomponent/language/Type", "accepts", "(Lcom/example/end_component/endcomponent/language/Type;)Z"⟩ : MethodName)) X10 hx hZ hown (hw _ (List.mem_of_getElem? (i := 11) rfl)) (hw _ (List.mem_of_getElem? (i := 12) rfl)) (notFace_of_selects (args := #[]) (mvT hZ (hw _ (List.mem_of_getElem? (i := 14) rfl)))) (hw _ (List.mem_of_getElem? (i := 14) rfl)) (hw _ (List.mem_of_getElem? (i := 13) rfl)) (by decide) (hw _ (List.mem_of_getElem? (i := 15) rfl)) (hw _ (List.mem_of_getElem? (i := 9) rfl)) (own_c3 l Z a0 hw w_BOOL w_DOUBLE w_INT w_DOUBLE (0 : Int32) h0 S_INT S_DOUBLE (by simp [own_acc, ne_BOOL_INT, ne_BOOL_DOUBLE, ne_INT_BOOL, ne_INT_DOUBLE, ne_DOUBLE_BOOL, ne_DOUBLE_INT])) e10 E_BOOL (by decide) (by decide) (by decide) (by decide) (g := (mkF m 51 #[.val (.int p1), .val (.int p2), .val (.int (0 : Int32)), .val (.int (2 : Int32)), .val (.ref w_BOOL), .val (.ref w_DOUBLE), .val (.int (401 : Int32)), .val (.int (0 : Int32))] [(.ref w_DOUBLE), (.ref w_BOOL)])) rfl (by rw [hml]; rfl) (argsL := [(.ref w_DOUBLE)]) (rest := []) (lenOf pd_32 rfl) rfl (by show 2 * 0 + _ ≤ _; exact Nat.le_of_eq rfl) (hb hby at_51) rfl
      refine own_via (T' := T11) (g' := (mkF m 54 #[.val (.int p1), .val (.int p2), .val (.int (0 : Int32)), .val (.int (2 : Int32)), .val (.ref w_BOOL), .val (.ref w_DOUBLE), .val (.int (401 : Int32)), .val (.int (0 : Int32))] [(.int (0 : Int32))])) st11 ?_
      refine own_via (T' := T11) (g' := (mkF m 56 #[.val (.int p1), .val (.int p2), .val (.int (0 : Int32)), .val (.int (2 : Int32)), .val (.ref w_BOOL), .val (.ref w_DOUBLE), .val (.int (401 : Int32)), .val (.int (0 : Int32))] [(.int (0 : Int32)), (.int (0 : Int32))])) (fun t k => XS.iload X11.here hx rfl (hb hby at_54) rfl k) ?_
      refine own_via (T' := T11) (g' := (mkF m 59 #[.val (.int p1), .val (.int p2), .val (.int (0 : Int32)), .val (.int (2 : Int32)), .val (.ref w_BOOL), .val (.ref w_DOUBLE), .val (.int (401 : Int32)), .val (.int (0 : Int32))] [])) (fun t k => XS.icmpNo X11.here hx rfl (hb hby at_56) rfl (teq rfl).2 k) ?_
      refine own_via (T' := T11) (g' := (mkF m 60 #[.val (.int p1), .val (.int p2), .val (.int (0 : Int32)), .val (.int (2 : Int32)), .val (.ref w_BOOL), .val (.ref w_DOUBLE), .val (.int (401 : Int32)), .val (.int (0 : Int32))] [(.int (1 : Int32))])) (fun t k => XS.iconst X11.here hx rfl (hb hby at_59) k) ?_
      refine own_via (T' := T11) (g' := (mkF m 64 #[.val (.int p1), .val (.int p2), .val (.int (0 : Int32)), .val (.int (2 : Int32)), .val (.ref w_BOOL), .val (.ref w_DOUBLE), .val (.int (401 : Int32)), .val (.int (0 : Int32))] [(.int (1 : Int32))])) (fun t k => XS.goto X11.here hx rfl (pc0 := 60) (pc' := 64) rfl (hb hby at_60) (by decide) (by decide) k) ?_
      exact own_ret (t := .boolean) X11 hx Bd.returns hlk rfl (Or.inl ⟨rfl, by simp, _, rfl⟩) (hb hby at_64) (by decide) (by decide) ⟨rfl, Fr.nil _⟩
  · refine own_via (T' := T1) (g' := (mkF m 5 #[.val (.int p1), .val (.int p2), .val (.int (1 : Int32)), .unset, .unset, .unset, .unset, .unset] [])) (fun t k => XS.istoreN X1.here hx rfl (hb hby at_4) rfl (l' := #[.val (.int p1), .val (.int p2), .val (.int (1 : Int32)), .unset, .unset, .unset, .unset, .unset]) rfl k) ?_
    refine own_via (T' := T1) (g' := (mkF m 6 #[.val (.int p1), .val (.int p2), .val (.int (1 : Int32)), .unset, .unset, .unset, .unset, .unset] [(.int p2)])) (fun t k => XS.iloadN X1.here hx rfl (hb hby at_5) rfl k) ?_
    obtain ⟨T12, X12, e12, st12⟩ := own_callS (W := 0) (r := (some (.int ((p2 &&& (2147483647 : Int32)) % (3 : Int32))))) (y := (⟨"com/example/end_component/endcomponent/language/TypeAcceptsPinLaw", "index", "(I)I"⟩ : MethodName)) X1 hx hZ hown (hw _ (List.mem_of_getElem? (i := 0) rfl)) (hw _ (List.mem_of_getElem? (i := 1) rfl)) (hw _ (List.mem_of_getElem? (i := 2) rfl)) (hw _ (List.mem_of_getElem? (i := 3) rfl)) (by decide) (own_c1 l Z a0 hw p2 h0) e1 (by decide) (by decide) (by decide) (by decide) (g := (mkF m 6 #[.val (.int p1), .val (.int p2), .val (.int (1 : Int32)), .unset, .unset, .unset, .unset, .unset] [(.int p2)])) rfl (by rw [hml]; rfl) (argsL := [(.int p2)]) (rest := []) (lenOf pd_30 rfl) rfl (by show 2 * 0 + _ ≤ _; exact Nat.le_of_eq rfl) (hb hby at_6) rfl
    refine own_via (T' := T12) (g' := (mkF m 9 #[.val (.int p1), .val (.int p2), .val (.int (1 : Int32)), .unset, .unset, .unset, .unset, .unset] [(.int ((p2 &&& (2147483647 : Int32)) % (3 : Int32)))])) st12 ?_
    generalize hj : ((p2 &&& (2147483647 : Int32)) % (3 : Int32)) = j
    rcases own_mod3 p2 j hj with rfl | rfl | rfl
    · refine own_via (T' := T12) (g' := (mkF m 10 #[.val (.int p1), .val (.int p2), .val (.int (1 : Int32)), .val (.int (0 : Int32)), .unset, .unset, .unset, .unset] [])) (fun t k => XS.istoreN X12.here hx rfl (hb hby at_9) rfl (l' := #[.val (.int p1), .val (.int p2), .val (.int (1 : Int32)), .val (.int (0 : Int32)), .unset, .unset, .unset, .unset]) rfl k) ?_
      refine own_via (T' := T12) (g' := (mkF m 11 #[.val (.int p1), .val (.int p2), .val (.int (1 : Int32)), .val (.int (0 : Int32)), .unset, .unset, .unset, .unset] [(.int (1 : Int32))])) (fun t k => XS.iloadN X12.here hx rfl (hb hby at_10) rfl k) ?_
      obtain ⟨T13, X13, e13, st13⟩ := own_callS (W := 0) (r := (some (.ref w_INT))) (y := (⟨"com/example/end_component/endcomponent/language/TypeAcceptsPinLaw", "pick", "(I)Lcom/example/end_component/endcomponent/language/Type;"⟩ : MethodName)) X12 hx hZ hown (hw _ (List.mem_of_getElem? (i := 5) rfl)) (hw _ (List.mem_of_getElem? (i := 6) rfl)) (hw _ (List.mem_of_getElem? (i := 2) rfl)) (hw _ (List.mem_of_getElem? (i := 7) rfl)) (by decide) (own_c2 l Z a0 hw (1 : Int32) w_BOOL w_INT w_DOUBLE w_INT h0 S_BOOL S_INT S_DOUBLE (by simp [own_pick])) e12 (by decide) (by decide) (by decide) (by decide) (g := (mkF m 11 #[.val (.int p1), .val (.int p2), .val (.int (1 : Int32)), .val (.int (0 : Int32)), .unset, .unset, .unset, .unset] [(.int (1 : Int32))])) rfl (by rw [hml]; rfl) (argsL := [(.int (1 : Int32))]) (rest := []) (lenOf pd_31 rfl) rfl (by show 2 * 0 + _ ≤ _; exact Nat.le_of_eq rfl) (hb hby at_11) rfl
      refine own_via (T' := T13) (g' := (mkF m 14 #[.val (.int p1), .val (.int p2), .val (.int (1 : Int32)), .val (.int (0 : Int32)), .unset, .unset, .unset, .unset] [(.ref w_INT)])) st13 ?_
      refine own_via (T' := T13) (g' := (mkF m 16 #[.val (.int p1), .val (.int p2), .val (.int (1 : Int32)), .val (.int (0 : Int32)), .val (.ref w_INT), .unset, .unset, .unset] [])) (fun t k => XS.astore X13.here hx rfl (hb hby at_14) rfl rfl (l' := #[.val (.int p1), .val (.int p2), .val (.int (1 : Int32)), .val (.int (0 : Int32)), .val (.ref w_INT), .unset, .unset, .unset]) rfl k) ?_
      refine own_via (T' := T13) (g' := (mkF m 17 #[.val (.int p1), .val (.int p2), .val (.int (1 : Int32)), .val (.int (0 : Int32)), .val (.ref w_INT), .unset, .unset, .unset] [(.int (0 : Int32))])) (fun t k => XS.iloadN X13.here hx rfl (hb hby at_16) rfl k) ?_
      obtain ⟨T14, X14, e14, st14⟩ := own_callS (W := 0) (r := (some (.ref w_BOOL))) (y := (⟨"com/example/end_component/endcomponent/language/TypeAcceptsPinLaw", "pick", "(I)Lcom/example/end_component/endcomponent/language/Type;"⟩ : MethodName)) X13 hx hZ hown (hw _ (List.mem_of_getElem? (i := 5) rfl)) (hw _ (List.mem_of_getElem? (i := 6) rfl)) (hw _ (List.mem_of_getElem? (i := 2) rfl)) (hw _ (List.mem_of_getElem? (i := 7) rfl)) (by decide) (own_c2 l Z a0 hw (0 : Int32) w_BOOL w_INT w_DOUBLE w_BOOL h0 S_BOOL S_INT S_DOUBLE (by simp [own_pick])) e13 (by decide) (by decide) (by decide) (by decide) (g := (mkF m 17 #[.val (.int p1), .val (.int p2), .val (.int (1 : Int32)), .val (.int (0 : Int32)), .val (.ref w_INT), .unset, .unset, .unset] [(.int (0 : Int32))])) rfl (by rw [hml]; rfl) (argsL := [(.int (0 : Int32))]) (rest := []) (lenOf pd_31 rfl) rfl (by show 2 * 0 + _ ≤ _; exact Nat.le_of_eq rfl) (hb hby at_17) rfl
      refine own_via (T' := T14) (g' := (mkF m 20 #[.val (.int p1), .val (.int p2), .val (.int (1 : Int32)), .val (.int (0 : Int32)), .val (.ref w_INT), .unset, .unset, .unset] [(.ref w_BOOL)])) st14 ?_
      refine own_via (T' := T14) (g' := (mkF m 22 #[.val (.int p1), .val (.int p2), .val (.int (1 : Int32)), .val (.int (0 : Int32)), .val (.ref w_INT), .val (.ref w_BOOL), .unset, .unset] [])) (fun t k => XS.astore X14.here hx rfl (hb hby at_20) rfl rfl (l' := #[.val (.int p1), .val (.int p2), .val (.int (1 : Int32)), .val (.int (0 : Int32)), .val (.ref w_INT), .val (.ref w_BOOL), .unset, .unset]) rfl k) ?_
      refine own_via (T' := T14) (g' := (mkF m 25 #[.val (.int p1), .val (.int p2), .val (.int (1 : Int32)), .val (.int (0 : Int32)), .val (.ref w_INT), .val (.ref w_BOOL), .unset, .unset] [(.int (401 : Int32))])) (fun t k => XS.sipush X14.here hx rfl (hb hby at_22) k) ?_
      refine own_via (T' := T14) (g' := (mkF m 27 #[.val (.int p1), .val (.int p2), .val (.int (1 : Int32)), .val (.int (0 : Int32)), .val (.ref w_INT), .val (.ref w_BOOL), .val (.int (401 : Int32)), .unset] [])) (fun t k => XS.istore X14.here hx rfl (hb hby at_25) rfl (l' := #[.val (.int p1), .val (.int p2), .val (.int (1 : Int32)), .val (.int (0 : Int32)), .val (.ref w_INT), .val (.ref w_BOOL), .val (.int (401 : Int32)), .unset]) rfl k) ?_
      refine own_via (T' := T14) (g' := (mkF m 29 #[.val (.int p1), .val (.int p2), .val (.int (1 : Int32)), .val (.int (0 : Int32)), .val (.ref w_INT), .val (.ref w_BOOL), .val (.int (401 : Int32)), .unset] [(.int (401 : Int32))])) (fun t k => XS.iload X14.here hx rfl (hb hby at_27) rfl k) ?_
      refine own_via (T' := T14) (g' := (mkF m 30 #[.val (.int p1), .val (.int p2), .val (.int (1 : Int32)), .val (.int (0 : Int32)), .val (.ref w_INT), .val (.ref w_BOOL), .val (.int (401 : Int32)), .unset] [(.int (3 : Int32)), (.int (401 : Int32))])) (fun t k => XS.iconst X14.here hx rfl (hb hby at_29) k) ?_
      refine own_via (T' := T14) (g' := (mkF m 31 #[.val (.int p1), .val (.int p2), .val (.int (1 : Int32)), .val (.int (0 : Int32)), .val (.ref w_INT), .val (.ref w_BOOL), .val (.int (401 : Int32)), .unset] [(.int (1 : Int32)), (.int (3 : Int32)), (.int (401 : Int32))])) (fun t k => XS.iloadN X14.here hx rfl (hb hby at_30) rfl k) ?_
      refine own_via (T' := T14) (g' := (mkF m 32 #[.val (.int p1), .val (.int p2), .val (.int (1 : Int32)), .val (.int (0 : Int32)), .val (.ref w_INT), .val (.ref w_BOOL), .val (.int (401 : Int32)), .unset] [(.int ((3 : Int32) * (1 : Int32))), (.int (401 : Int32))])) (fun t k => XS.imul X14.here hx rfl (hb hby at_31) rfl k) ?_
      rw [show ((3 : Int32) * (1 : Int32)) = (3 : Int32) from by decide]
      refine own_via (T' := T14) (g' := (mkF m 33 #[.val (.int p1), .val (.int p2), .val (.int (1 : Int32)), .val (.int (0 : Int32)), .val (.ref w_INT), .val (.ref w_BOOL), .val (.int (401 : Int32)), .unset] [(.int (0 : Int32)), (.int (3 : Int32)), (.int (401 : Int32))])) (fun t k => XS.iloadN X14.here hx rfl (hb hby at_32) rfl k) ?_
      refine own_via (T' := T14) (g' := (mkF m 34 #[.val (.int p1), .val (.int p2), .val (.int (1 : Int32)), .val (.int (0 : Int32)), .val (.ref w_INT), .val (.ref w_BOOL), .val (.int (401 : Int32)), .unset] [(.int ((3 : Int32) + (0 : Int32))), (.int (401 : Int32))])) (fun t k => XS.iadd X14.here hx rfl (hb hby at_33) rfl k) ?_
      rw [show ((3 : Int32) + (0 : Int32)) = (3 : Int32) from by decide]
      refine own_via (T' := T14) (g' := (mkF m 35 #[.val (.int p1), .val (.int p2), .val (.int (1 : Int32)), .val (.int (0 : Int32)), .val (.ref w_INT), .val (.ref w_BOOL), .val (.int (401 : Int32)), .unset] [(.int ((401 : Int32) >>> ((3 : Int32) &&& 31)))])) (fun t k => XS.ishr X14.here hx rfl (hb hby at_34) rfl k) ?_
      rw [show ((401 : Int32) >>> ((3 : Int32) &&& 31)) = (50 : Int32) from by decide]
      refine own_via (T' := T14) (g' := (mkF m 36 #[.val (.int p1), .val (.int p2), .val (.int (1 : Int32)), .val (.int (0 : Int32)), .val (.ref w_INT), .val (.ref w_BOOL), .val (.int (401 : Int32)), .unset] [(.int (1 : Int32)), (.int (50 : Int32))])) (fun t k => XS.iconst X14.here hx rfl (hb hby at_35) k) ?_
      refine own_via (T' := T14) (g' := (mkF m 37 #[.val (.int p1), .val (.int p2), .val (.int (1 : Int32)), .val (.int (0 : Int32)), .val (.ref w_INT), .val (.ref w_BOOL), .val (.int (401 : Int32)), .unset] [(.int ((50 : Int32) &&& (1 : Int32)))])) (fun t k => XS.iand X14.here hx rfl (hb hby at_36) rfl k) ?_
      rw [show ((50 : Int32) &&& (1 : Int32)) = (0 : Int32) from by decide]
      refine own_via (T' := T14) (g' := (mkF m 44 #[.val (.int p1), .val (.int p2), .val (.int (1 : Int32)), .val (.int (0 : Int32)), .val (.ref w_INT), .val (.ref w_BOOL), .val (.int (401 : Int32)), .unset] [])) (fun t k => XS.ifYes X14.here hx rfl (pc0 := 37) (pc' := 44) rfl (hb hby at_37) rfl ((if0 _ _).trans (teq rfl).1) (by decide) (by decide) k) ?_
      refine own_via (T' := T14) (g' := (mkF m 45 #[.val (.int p1), .val (.int p2), .val (.int (1 : Int32)), .val (.int (0 : Int32)), .val (.ref w_INT), .val (.ref w_BOOL), .val (.int (401 : Int32)), .unset] [(.int (0 : Int32))])) (fun t k => XS.iconst X14.here hx rfl (hb hby at_44) k) ?_
      refine own_via (T' := T14) (g' := (mkF m 47 #[.val (.int p1), .val (.int p2), .val (.int (1 : Int32)), .val (.int (0 : Int32)), .val (.ref w_INT), .val (.ref w_BOOL), .val (.int (401 : Int32)), .val (.int (0 : Int32))] [])) (fun t k => XS.istore X14.here hx rfl (hb hby at_45) rfl (l' := #[.val (.int p1), .val (.int p2), .val (.int (1 : Int32)), .val (.int (0 : Int32)), .val (.ref w_INT), .val (.ref w_BOOL), .val (.int (401 : Int32)), .val (.int (0 : Int32))]) rfl k) ?_
      refine own_via (T' := T14) (g' := (mkF m 49 #[.val (.int p1), .val (.int p2), .val (.int (1 : Int32)), .val (.int (0 : Int32)), .val (.ref w_INT), .val (.ref w_BOOL), .val (.int (401 : Int32)), .val (.int (0 : Int32))] [(.ref w_INT)])) (fun t k => XS.aload X14.here hx rfl (hb hby at_47) rfl rfl k) ?_
      refine own_via (T' := T14) (g' := (mkF m 51 #[.val (.int p1), .val (.int p2), .val (.int (1 : Int32)), .val (.int (0 : Int32)), .val (.ref w_INT), .val (.ref w_BOOL), .val (.int (401 : Int32)), .val (.int (0 : Int32))] [(.ref w_BOOL), (.ref w_INT)])) (fun t k => XS.aload X14.here hx rfl (hb hby at_49) rfl rfl k) ?_
      obtain ⟨T15, X15, e15, st15⟩ := own_callV (W := 0) (r := (some (.int (0 : Int32)))) (y := (⟨"com/example/end_component/endcomponent/language/Type", "accepts", "(Lcom/example/end_component/endcomponent/language/Type;)Z"⟩ : MethodName)) (z := (⟨"com/example/end_component/endcomponent/language/Type", "accepts", "(Lcom/example/end_component/endcomponent/language/Type;)Z"⟩ : MethodName)) X14 hx hZ hown (hw _ (List.mem_of_getElem? (i := 11) rfl)) (hw _ (List.mem_of_getElem? (i := 12) rfl)) (notFace_of_selects (args := #[]) (mvT hZ (hw _ (List.mem_of_getElem? (i := 14) rfl)))) (hw _ (List.mem_of_getElem? (i := 14) rfl)) (hw _ (List.mem_of_getElem? (i := 13) rfl)) (by decide) (hw _ (List.mem_of_getElem? (i := 15) rfl)) (hw _ (List.mem_of_getElem? (i := 9) rfl)) (own_c3 l Z a0 hw w_INT w_BOOL w_INT w_DOUBLE (0 : Int32) h0 S_INT S_DOUBLE (by simp [own_acc, ne_BOOL_INT, ne_BOOL_DOUBLE, ne_INT_BOOL, ne_INT_DOUBLE, ne_DOUBLE_BOOL, ne_DOUBLE_INT])) e14 E_INT (by decide) (by decide) (by decide) (by decide) (g := (mkF m 51 #[.val (.int p1), .val (.int p2), .val (.int (1 : Int32)), .val (.int (0 : Int32)), .val (.ref w_INT), .val (.ref w_BOOL), .val (.int (401 : Int32)), .val (.int (0 : Int32))] [(.ref w_BOOL), (.ref w_INT)])) rfl (by rw [hml]; rfl) (argsL := [(.ref w_BOOL)]) (rest := []) (lenOf pd_32 rfl) rfl (by show 2 * 0 + _ ≤ _; exact Nat.le_of_eq rfl) (hb hby at_51) rfl
      refine own_via (T' := T15) (g' := (mkF m 54 #[.val (.int p1), .val (.int p2), .val (.int (1 : Int32)), .val (.int (0 : Int32)), .val (.ref w_INT), .val (.ref w_BOOL), .val (.int (401 : Int32)), .val (.int (0 : Int32))] [(.int (0 : Int32))])) st15 ?_
      refine own_via (T' := T15) (g' := (mkF m 56 #[.val (.int p1), .val (.int p2), .val (.int (1 : Int32)), .val (.int (0 : Int32)), .val (.ref w_INT), .val (.ref w_BOOL), .val (.int (401 : Int32)), .val (.int (0 : Int32))] [(.int (0 : Int32)), (.int (0 : Int32))])) (fun t k => XS.iload X15.here hx rfl (hb hby at_54) rfl k) ?_
      refine own_via (T' := T15) (g' := (mkF m 59 #[.val (.int p1), .val (.int p2), .val (.int (1 : Int32)), .val (.int (0 : Int32)), .val (.ref w_INT), .val (.ref w_BOOL), .val (.int (401 : Int32)), .val (.int (0 : Int32))] [])) (fun t k => XS.icmpNo X15.here hx rfl (hb hby at_56) rfl (teq rfl).2 k) ?_
      refine own_via (T' := T15) (g' := (mkF m 60 #[.val (.int p1), .val (.int p2), .val (.int (1 : Int32)), .val (.int (0 : Int32)), .val (.ref w_INT), .val (.ref w_BOOL), .val (.int (401 : Int32)), .val (.int (0 : Int32))] [(.int (1 : Int32))])) (fun t k => XS.iconst X15.here hx rfl (hb hby at_59) k) ?_
      refine own_via (T' := T15) (g' := (mkF m 64 #[.val (.int p1), .val (.int p2), .val (.int (1 : Int32)), .val (.int (0 : Int32)), .val (.ref w_INT), .val (.ref w_BOOL), .val (.int (401 : Int32)), .val (.int (0 : Int32))] [(.int (1 : Int32))])) (fun t k => XS.goto X15.here hx rfl (pc0 := 60) (pc' := 64) rfl (hb hby at_60) (by decide) (by decide) k) ?_
      exact own_ret (t := .boolean) X15 hx Bd.returns hlk rfl (Or.inl ⟨rfl, by simp, _, rfl⟩) (hb hby at_64) (by decide) (by decide) ⟨rfl, Fr.nil _⟩
    · refine own_via (T' := T12) (g' := (mkF m 10 #[.val (.int p1), .val (.int p2), .val (.int (1 : Int32)), .val (.int (1 : Int32)), .unset, .unset, .unset, .unset] [])) (fun t k => XS.istoreN X12.here hx rfl (hb hby at_9) rfl (l' := #[.val (.int p1), .val (.int p2), .val (.int (1 : Int32)), .val (.int (1 : Int32)), .unset, .unset, .unset, .unset]) rfl k) ?_
      refine own_via (T' := T12) (g' := (mkF m 11 #[.val (.int p1), .val (.int p2), .val (.int (1 : Int32)), .val (.int (1 : Int32)), .unset, .unset, .unset, .unset] [(.int (1 : Int32))])) (fun t k => XS.iloadN X12.here hx rfl (hb hby at_10) rfl k) ?_
      obtain ⟨T16, X16, e16, st16⟩ := own_callS (W := 0) (r := (some (.ref w_INT))) (y := (⟨"com/example/end_component/endcomponent/language/TypeAcceptsPinLaw", "pick", "(I)Lcom/example/end_component/endcomponent/language/Type;"⟩ : MethodName)) X12 hx hZ hown (hw _ (List.mem_of_getElem? (i := 5) rfl)) (hw _ (List.mem_of_getElem? (i := 6) rfl)) (hw _ (List.mem_of_getElem? (i := 2) rfl)) (hw _ (List.mem_of_getElem? (i := 7) rfl)) (by decide) (own_c2 l Z a0 hw (1 : Int32) w_BOOL w_INT w_DOUBLE w_INT h0 S_BOOL S_INT S_DOUBLE (by simp [own_pick])) e12 (by decide) (by decide) (by decide) (by decide) (g := (mkF m 11 #[.val (.int p1), .val (.int p2), .val (.int (1 : Int32)), .val (.int (1 : Int32)), .unset, .unset, .unset, .unset] [(.int (1 : Int32))])) rfl (by rw [hml]; rfl) (argsL := [(.int (1 : Int32))]) (rest := []) (lenOf pd_31 rfl) rfl (by show 2 * 0 + _ ≤ _; exact Nat.le_of_eq rfl) (hb hby at_11) rfl
      refine own_via (T' := T16) (g' := (mkF m 14 #[.val (.int p1), .val (.int p2), .val (.int (1 : Int32)), .val (.int (1 : Int32)), .unset, .unset, .unset, .unset] [(.ref w_INT)])) st16 ?_
      refine own_via (T' := T16) (g' := (mkF m 16 #[.val (.int p1), .val (.int p2), .val (.int (1 : Int32)), .val (.int (1 : Int32)), .val (.ref w_INT), .unset, .unset, .unset] [])) (fun t k => XS.astore X16.here hx rfl (hb hby at_14) rfl rfl (l' := #[.val (.int p1), .val (.int p2), .val (.int (1 : Int32)), .val (.int (1 : Int32)), .val (.ref w_INT), .unset, .unset, .unset]) rfl k) ?_
      refine own_via (T' := T16) (g' := (mkF m 17 #[.val (.int p1), .val (.int p2), .val (.int (1 : Int32)), .val (.int (1 : Int32)), .val (.ref w_INT), .unset, .unset, .unset] [(.int (1 : Int32))])) (fun t k => XS.iloadN X16.here hx rfl (hb hby at_16) rfl k) ?_
      obtain ⟨T17, X17, e17, st17⟩ := own_callS (W := 0) (r := (some (.ref w_INT))) (y := (⟨"com/example/end_component/endcomponent/language/TypeAcceptsPinLaw", "pick", "(I)Lcom/example/end_component/endcomponent/language/Type;"⟩ : MethodName)) X16 hx hZ hown (hw _ (List.mem_of_getElem? (i := 5) rfl)) (hw _ (List.mem_of_getElem? (i := 6) rfl)) (hw _ (List.mem_of_getElem? (i := 2) rfl)) (hw _ (List.mem_of_getElem? (i := 7) rfl)) (by decide) (own_c2 l Z a0 hw (1 : Int32) w_BOOL w_INT w_DOUBLE w_INT h0 S_BOOL S_INT S_DOUBLE (by simp [own_pick])) e16 (by decide) (by decide) (by decide) (by decide) (g := (mkF m 17 #[.val (.int p1), .val (.int p2), .val (.int (1 : Int32)), .val (.int (1 : Int32)), .val (.ref w_INT), .unset, .unset, .unset] [(.int (1 : Int32))])) rfl (by rw [hml]; rfl) (argsL := [(.int (1 : Int32))]) (rest := []) (lenOf pd_31 rfl) rfl (by show 2 * 0 + _ ≤ _; exact Nat.le_of_eq rfl) (hb hby at_17) rfl
      refine own_via (T' := T17) (g' := (mkF m 20 #[.val (.int p1), .val (.int p2), .val (.int (1 : Int32)), .val (.int (1 : Int32)), .val (.ref w_INT), .unset, .unset, .unset] [(.ref w_INT)])) st17 ?_
      refine own_via (T' := T17) (g' := (mkF m 22 #[.val (.int p1), .val (.int p2), .val (.int (1 : Int32)), .val (.int (1 : Int32)), .val (.ref w_INT), .val (.ref w_INT), .unset, .unset] [])) (fun t k => XS.astore X17.here hx rfl (hb hby at_20) rfl rfl (l' := #[.val (.int p1), .val (.int p2), .val (.int (1 : Int32)), .val (.int (1 : Int32)), .val (.ref w_INT), .val (.ref w_INT), .unset, .unset]) rfl k) ?_
      refine own_via (T' := T17) (g' := (mkF m 25 #[.val (.int p1), .val (.int p2), .val (.int (1 : Int32)), .val (.int (1 : Int32)), .val (.ref w_INT), .val (.ref w_INT), .unset, .unset] [(.int (401 : Int32))])) (fun t k => XS.sipush X17.here hx rfl (hb hby at_22) k) ?_
      refine own_via (T' := T17) (g' := (mkF m 27 #[.val (.int p1), .val (.int p2), .val (.int (1 : Int32)), .val (.int (1 : Int32)), .val (.ref w_INT), .val (.ref w_INT), .val (.int (401 : Int32)), .unset] [])) (fun t k => XS.istore X17.here hx rfl (hb hby at_25) rfl (l' := #[.val (.int p1), .val (.int p2), .val (.int (1 : Int32)), .val (.int (1 : Int32)), .val (.ref w_INT), .val (.ref w_INT), .val (.int (401 : Int32)), .unset]) rfl k) ?_
      refine own_via (T' := T17) (g' := (mkF m 29 #[.val (.int p1), .val (.int p2), .val (.int (1 : Int32)), .val (.int (1 : Int32)), .val (.ref w_INT), .val (.ref w_INT), .val (.int (401 : Int32)), .unset] [(.int (401 : Int32))])) (fun t k => XS.iload X17.here hx rfl (hb hby at_27) rfl k) ?_
      refine own_via (T' := T17) (g' := (mkF m 30 #[.val (.int p1), .val (.int p2), .val (.int (1 : Int32)), .val (.int (1 : Int32)), .val (.ref w_INT), .val (.ref w_INT), .val (.int (401 : Int32)), .unset] [(.int (3 : Int32)), (.int (401 : Int32))])) (fun t k => XS.iconst X17.here hx rfl (hb hby at_29) k) ?_
      refine own_via (T' := T17) (g' := (mkF m 31 #[.val (.int p1), .val (.int p2), .val (.int (1 : Int32)), .val (.int (1 : Int32)), .val (.ref w_INT), .val (.ref w_INT), .val (.int (401 : Int32)), .unset] [(.int (1 : Int32)), (.int (3 : Int32)), (.int (401 : Int32))])) (fun t k => XS.iloadN X17.here hx rfl (hb hby at_30) rfl k) ?_
      refine own_via (T' := T17) (g' := (mkF m 32 #[.val (.int p1), .val (.int p2), .val (.int (1 : Int32)), .val (.int (1 : Int32)), .val (.ref w_INT), .val (.ref w_INT), .val (.int (401 : Int32)), .unset] [(.int ((3 : Int32) * (1 : Int32))), (.int (401 : Int32))])) (fun t k => XS.imul X17.here hx rfl (hb hby at_31) rfl k) ?_
      rw [show ((3 : Int32) * (1 : Int32)) = (3 : Int32) from by decide]
      refine own_via (T' := T17) (g' := (mkF m 33 #[.val (.int p1), .val (.int p2), .val (.int (1 : Int32)), .val (.int (1 : Int32)), .val (.ref w_INT), .val (.ref w_INT), .val (.int (401 : Int32)), .unset] [(.int (1 : Int32)), (.int (3 : Int32)), (.int (401 : Int32))])) (fun t k => XS.iloadN X17.here hx rfl (hb hby at_32) rfl k) ?_
      refine own_via (T' := T17) (g' := (mkF m 34 #[.val (.int p1), .val (.int p2), .val (.int (1 : Int32)), .val (.int (1 : Int32)), .val (.ref w_INT), .val (.ref w_INT), .val (.int (401 : Int32)), .unset] [(.int ((3 : Int32) + (1 : Int32))), (.int (401 : Int32))])) (fun t k => XS.iadd X17.here hx rfl (hb hby at_33) rfl k) ?_
      rw [show ((3 : Int32) + (1 : Int32)) = (4 : Int32) from by decide]
      refine own_via (T' := T17) (g' := (mkF m 35 #[.val (.int p1), .val (.int p2), .val (.int (1 : Int32)), .val (.int (1 : Int32)), .val (.ref w_INT), .val (.ref w_INT), .val (.int (401 : Int32)), .unset] [(.int ((401 : Int32) >>> ((4 : Int32) &&& 31)))])) (fun t k => XS.ishr X17.here hx rfl (hb hby at_34) rfl k) ?_
      rw [show ((401 : Int32) >>> ((4 : Int32) &&& 31)) = (25 : Int32) from by decide]
      refine own_via (T' := T17) (g' := (mkF m 36 #[.val (.int p1), .val (.int p2), .val (.int (1 : Int32)), .val (.int (1 : Int32)), .val (.ref w_INT), .val (.ref w_INT), .val (.int (401 : Int32)), .unset] [(.int (1 : Int32)), (.int (25 : Int32))])) (fun t k => XS.iconst X17.here hx rfl (hb hby at_35) k) ?_
      refine own_via (T' := T17) (g' := (mkF m 37 #[.val (.int p1), .val (.int p2), .val (.int (1 : Int32)), .val (.int (1 : Int32)), .val (.ref w_INT), .val (.ref w_INT), .val (.int (401 : Int32)), .unset] [(.int ((25 : Int32) &&& (1 : Int32)))])) (fun t k => XS.iand X17.here hx rfl (hb hby at_36) rfl k) ?_
      rw [show ((25 : Int32) &&& (1 : Int32)) = (1 : Int32) from by decide]
      refine own_via (T' := T17) (g' := (mkF m 40 #[.val (.int p1), .val (.int p2), .val (.int (1 : Int32)), .val (.int (1 : Int32)), .val (.ref w_INT), .val (.ref w_INT), .val (.int (401 : Int32)), .unset] [])) (fun t k => XS.ifNo X17.here hx rfl (hb hby at_37) rfl ((if0 _ _).trans (feq (by decide)).1) k) ?_
      refine own_via (T' := T17) (g' := (mkF m 41 #[.val (.int p1), .val (.int p2), .val (.int (1 : Int32)), .val (.int (1 : Int32)), .val (.ref w_INT), .val (.ref w_INT), .val (.int (401 : Int32)), .unset] [(.int (1 : Int32))])) (fun t k => XS.iconst X17.here hx rfl (hb hby at_40) k) ?_
      refine own_via (T' := T17) (g' := (mkF m 45 #[.val (.int p1), .val (.int p2), .val (.int (1 : Int32)), .val (.int (1 : Int32)), .val (.ref w_INT), .val (.ref w_INT), .val (.int (401 : Int32)), .unset] [(.int (1 : Int32))])) (fun t k => XS.goto X17.here hx rfl (pc0 := 41) (pc' := 45) rfl (hb hby at_41) (by decide) (by decide) k) ?_
      refine own_via (T' := T17) (g' := (mkF m 47 #[.val (.int p1), .val (.int p2), .val (.int (1 : Int32)), .val (.int (1 : Int32)), .val (.ref w_INT), .val (.ref w_INT), .val (.int (401 : Int32)), .val (.int (1 : Int32))] [])) (fun t k => XS.istore X17.here hx rfl (hb hby at_45) rfl (l' := #[.val (.int p1), .val (.int p2), .val (.int (1 : Int32)), .val (.int (1 : Int32)), .val (.ref w_INT), .val (.ref w_INT), .val (.int (401 : Int32)), .val (.int (1 : Int32))]) rfl k) ?_
      refine own_via (T' := T17) (g' := (mkF m 49 #[.val (.int p1), .val (.int p2), .val (.int (1 : Int32)), .val (.int (1 : Int32)), .val (.ref w_INT), .val (.ref w_INT), .val (.int (401 : Int32)), .val (.int (1 : Int32))] [(.ref w_INT)])) (fun t k => XS.aload X17.here hx rfl (hb hby at_47) rfl rfl k) ?_
      refine own_via (T' := T17) (g' := (mkF m 51 #[.val (.int p1), .val (.int p2), .val (.int (1 : Int32)), .val (.int (1 : Int32)), .val (.ref w_INT), .val (.ref w_INT), .val (.int (401 : Int32)), .val (.int (1 : Int32))] [(.ref w_INT), (.ref w_INT)])) (fun t k => XS.aload X17.here hx rfl (hb hby at_49) rfl rfl k) ?_
      obtain ⟨T18, X18, e18, st18⟩ := own_callV (W := 0) (r := (some (.int (1 : Int32)))) (y := (⟨"com/example/end_component/endcomponent/language/Type", "accepts", "(Lcom/example/end_component/endcomponent/language/Type;)Z"⟩ : MethodName)) (z := (⟨"com/example/end_component/endcomponent/language/Type", "accepts", "(Lcom/example/end_component/endcomponent/language/Type;)Z"⟩ : MethodName)) X17 hx hZ hown (hw _ (List.mem_of_getElem? (i := 11) rfl)) (hw _ (List.mem_of_getElem? (i := 12) rfl)) (notFace_of_selects (args := #[]) (mvT hZ (hw _ (List.mem_of_getElem? (i := 14) rfl)))) (hw _ (List.mem_of_getElem? (i := 14) rfl)) (hw _ (List.mem_of_getElem? (i := 13) rfl)) (by decide) (hw _ (List.mem_of_getElem? (i := 15) rfl)) (hw _ (List.mem_of_getElem? (i := 9) rfl)) (own_c3 l Z a0 hw w_INT w_INT w_INT w_DOUBLE (1 : Int32) h0 S_INT S_DOUBLE (by simp [own_acc, ne_BOOL_INT, ne_BOOL_DOUBLE, ne_INT_BOOL, ne_INT_DOUBLE, ne_DOUBLE_BOOL, ne_DOUBLE_INT])) e17 E_INT (by decide) (by decide) (by decide) (by decide) (g := (mkF m 51 #[.val (.int p1), .val (.int p2), .val (.int (1 : Int32)), .val (.int (1 : Int32)), .val (.ref w_INT), .val (.ref w_INT), .val (.int (401 : Int32)), .val (.int (1 : Int32))] [(.ref w_INT), (.ref w_INT)])) rfl (by rw [hml]; rfl) (argsL := [(.ref w_INT)]) (rest := []) (lenOf pd_32 rfl) rfl (by show 2 * 0 + _ ≤ _; exact Nat.le_of_eq rfl) (hb hby at_51) rfl
      refine own_via (T' := T18) (g' := (mkF m 54 #[.val (.int p1), .val (.int p2), .val (.int (1 : Int32)), .val (.int (1 : Int32)), .val (.ref w_INT), .val (.ref w_INT), .val (.int (401 : Int32)), .val (.int (1 : Int32))] [(.int (1 : Int32))])) st18 ?_
      refine own_via (T' := T18) (g' := (mkF m 56 #[.val (.int p1), .val (.int p2), .val (.int (1 : Int32)), .val (.int (1 : Int32)), .val (.ref w_INT), .val (.ref w_INT), .val (.int (401 : Int32)), .val (.int (1 : Int32))] [(.int (1 : Int32)), (.int (1 : Int32))])) (fun t k => XS.iload X18.here hx rfl (hb hby at_54) rfl k) ?_
      refine own_via (T' := T18) (g' := (mkF m 59 #[.val (.int p1), .val (.int p2), .val (.int (1 : Int32)), .val (.int (1 : Int32)), .val (.ref w_INT), .val (.ref w_INT), .val (.int (401 : Int32)), .val (.int (1 : Int32))] [])) (fun t k => XS.icmpNo X18.here hx rfl (hb hby at_56) rfl (teq rfl).2 k) ?_
      refine own_via (T' := T18) (g' := (mkF m 60 #[.val (.int p1), .val (.int p2), .val (.int (1 : Int32)), .val (.int (1 : Int32)), .val (.ref w_INT), .val (.ref w_INT), .val (.int (401 : Int32)), .val (.int (1 : Int32))] [(.int (1 : Int32))])) (fun t k => XS.iconst X18.here hx rfl (hb hby at_59) k) ?_
      refine own_via (T' := T18) (g' := (mkF m 64 #[.val (.int p1), .val (.int p2), .val (.int (1 : Int32)), .val (.int (1 : Int32)), .val (.ref w_INT), .val (.ref w_INT), .val (.int (401 : Int32)), .val (.int (1 : Int32))] [(.int (1 : Int32))])) (fun t k => XS.goto X18.here hx rfl (pc0 := 60) (pc' := 64) rfl (hb hby at_60) (by decide) (by decide) k) ?_
      exact own_ret (t := .boolean) X18 hx Bd.returns hlk rfl (Or.inl ⟨rfl, by simp, _, rfl⟩) (hb hby at_64) (by decide) (by decide) ⟨rfl, Fr.nil _⟩
    · refine own_via (T' := T12) (g' := (mkF m 10 #[.val (.int p1), .val (.int p2), .val (.int (1 : Int32)), .val (.int (2 : Int32)), .unset, .unset, .unset, .unset] [])) (fun t k => XS.istoreN X12.here hx rfl (hb hby at_9) rfl (l' := #[.val (.int p1), .val (.int p2), .val (.int (1 : Int32)), .val (.int (2 : Int32)), .unset, .unset, .unset, .unset]) rfl k) ?_
      refine own_via (T' := T12) (g' := (mkF m 11 #[.val (.int p1), .val (.int p2), .val (.int (1 : Int32)), .val (.int (2 : Int32)), .unset, .unset, .unset, .unset] [(.int (1 : Int32))])) (fun t k => XS.iloadN X12.here hx rfl (hb hby at_10) rfl k) ?_
      obtain ⟨T19, X19, e19, st19⟩ := own_callS (W := 0) (r := (some (.ref w_INT))) (y := (⟨"com/example/end_component/endcomponent/language/TypeAcceptsPinLaw", "pick", "(I)Lcom/example/end_component/endcomponent/language/Type;"⟩ : MethodName)) X12 hx hZ hown (hw _ (List.mem_of_getElem? (i := 5) rfl)) (hw _ (List.mem_of_getElem? (i := 6) rfl)) (hw _ (List.mem_of_getElem? (i := 2) rfl)) (hw _ (List.mem_of_getElem? (i := 7) rfl)) (by decide) (own_c2 l Z a0 hw (1 : Int32) w_BOOL w_INT w_DOUBLE w_INT h0 S_BOOL S_INT S_DOUBLE (by simp [own_pick])) e12 (by decide) (by decide) (by decide) (by decide) (g := (mkF m 11 #[.val (.int p1), .val (.int p2), .val (.int (1 : Int32)), .val (.int (2 : Int32)), .unset, .unset, .unset, .unset] [(.int (1 : Int32))])) rfl (by rw [hml]; rfl) (argsL := [(.int (1 : Int32))]) (rest := []) (lenOf pd_31 rfl) rfl (by show 2 * 0 + _ ≤ _; exact Nat.le_of_eq rfl) (hb hby at_11) rfl
      refine own_via (T' := T19) (g' := (mkF m 14 #[.val (.int p1), .val (.int p2), .val (.int (1 : Int32)), .val (.int (2 : Int32)), .unset, .unset, .unset, .unset] [(.ref w_INT)])) st19 ?_
      refine own_via (T' := T19) (g' := (mkF m 16 #[.val (.int p1), .val (.int p2), .val (.int (1 : Int32)), .val (.int (2 : Int32)), .val (.ref w_INT), .unset, .unset, .unset] [])) (fun t k => XS.astore X19.here hx rfl (hb hby at_14) rfl rfl (l' := #[.val (.int p1), .val (.int p2), .val (.int (1 : Int32)), .val (.int (2 : Int32)), .val (.ref w_INT), .unset, .unset, .unset]) rfl k) ?_
      refine own_via (T' := T19) (g' := (mkF m 17 #[.val (.int p1), .val (.int p2), .val (.int (1 : Int32)), .val (.int (2 : Int32)), .val (.ref w_INT), .unset, .unset, .unset] [(.int (2 : Int32))])) (fun t k => XS.iloadN X19.here hx rfl (hb hby at_16) rfl k) ?_
      obtain ⟨T20, X20, e20, st20⟩ := own_callS (W := 0) (r := (some (.ref w_DOUBLE))) (y := (⟨"com/example/end_component/endcomponent/language/TypeAcceptsPinLaw", "pick", "(I)Lcom/example/end_component/endcomponent/language/Type;"⟩ : MethodName)) X19 hx hZ hown (hw _ (List.mem_of_getElem? (i := 5) rfl)) (hw _ (List.mem_of_getElem? (i := 6) rfl)) (hw _ (List.mem_of_getElem? (i := 2) rfl)) (hw _ (List.mem_of_getElem? (i := 7) rfl)) (by decide) (own_c2 l Z a0 hw (2 : Int32) w_BOOL w_INT w_DOUBLE w_DOUBLE h0 S_BOOL S_INT S_DOUBLE (by simp [own_pick])) e19 (by decide) (by decide) (by decide) (by decide) (g := (mkF m 17 #[.val (.int p1), .val (.int p2), .val (.int (1 : Int32)), .val (.int (2 : Int32)), .val (.ref w_INT), .unset, .unset, .unset] [(.int (2 : Int32))])) rfl (by rw [hml]; rfl) (argsL := [(.int (2 : Int32))]) (rest := []) (lenOf pd_31 rfl) rfl (by show 2 * 0 + _ ≤ _; exact Nat.le_of_eq rfl) (hb hby at_17) rfl
      refine own_via (T' := T20) (g' := (mkF m 20 #[.val (.int p1), .val (.int p2), .val (.int (1 : Int32)), .val (.int (2 : Int32)), .val (.ref w_INT), .unset, .unset, .unset] [(.ref w_DOUBLE)])) st20 ?_
      refine own_via (T' := T20) (g' := (mkF m 22 #[.val (.int p1), .val (.int p2), .val (.int (1 : Int32)), .val (.int (2 : Int32)), .val (.ref w_INT), .val (.ref w_DOUBLE), .unset, .unset] [])) (fun t k => XS.astore X20.here hx rfl (hb hby at_20) rfl rfl (l' := #[.val (.int p1), .val (.int p2), .val (.int (1 : Int32)), .val (.int (2 : Int32)), .val (.ref w_INT), .val (.ref w_DOUBLE), .unset, .unset]) rfl k) ?_
      refine own_via (T' := T20) (g' := (mkF m 25 #[.val (.int p1), .val (.int p2), .val (.int (1 : Int32)), .val (.int (2 : Int32)), .val (.ref w_INT), .val (.ref w_DOUBLE), .unset, .unset] [(.int (401 : Int32))])) (fun t k => XS.sipush X20.here hx rfl (hb hby at_22) k) ?_
      refine own_via (T' := T20) (g' := (mkF m 27 #[.val (.int p1), .val (.int p2), .val (.int (1 : Int32)), .val (.int (2 : Int32)), .val (.ref w_INT), .val (.ref w_DOUBLE), .val (.int (401 : Int32)), .unset] [])) (fun t k => XS.istore X20.here hx rfl (hb hby at_25) rfl (l' := #[.val (.int p1), .val (.int p2), .val (.int (1 : Int32)), .val (.int (2 : Int32)), .val (.ref w_INT), .val (.ref w_DOUBLE), .val (.int (401 : Int32)), .unset]) rfl k) ?_
      refine own_via (T' := T20) (g' := (mkF m 29 #[.val (.int p1), .val (.int p2), .val (.int (1 : Int32)), .val (.int (2 : Int32)), .val (.ref w_INT), .val (.ref w_DOUBLE), .val (.int (401 : Int32)), .unset] [(.int (401 : Int32))])) (fun t k => XS.iload X20.here hx rfl (hb hby at_27) rfl k) ?_
      refine own_via (T' := T20) (g' := (mkF m 30 #[.val (.int p1), .val (.int p2), .val (.int (1 : Int32)), .val (.int (2 : Int32)), .val (.ref w_INT), .val (.ref w_DOUBLE), .val (.int (401 : Int32)), .unset] [(.int (3 : Int32)), (.int (401 : Int32))])) (fun t k => XS.iconst X20.here hx rfl (hb hby at_29) k) ?_
      refine own_via (T' := T20) (g' := (mkF m 31 #[.val (.int p1), .val (.int p2), .val (.int (1 : Int32)), .val (.int (2 : Int32)), .val (.ref w_INT), .val (.ref w_DOUBLE), .val (.int (401 : Int32)), .unset] [(.int (1 : Int32)), (.int (3 : Int32)), (.int (401 : Int32))])) (fun t k => XS.iloadN X20.here hx rfl (hb hby at_30) rfl k) ?_
      refine own_via (T' := T20) (g' := (mkF m 32 #[.val (.int p1), .val (.int p2), .val (.int (1 : Int32)), .val (.int (2 : Int32)), .val (.ref w_INT), .val (.ref w_DOUBLE), .val (.int (401 : Int32)), .unset] [(.int ((3 : Int32) * (1 : Int32))), (.int (401 : Int32))])) (fun t k => XS.imul X20.here hx rfl (hb hby at_31) rfl k) ?_
      rw [show ((3 : Int32) * (1 : Int32)) = (3 : Int32) from by decide]
      refine own_via (T' := T20) (g' := (mkF m 33 #[.val (.int p1), .val (.int p2), .val (.int (1 : Int32)), .val (.int (2 : Int32)), .val (.ref w_INT), .val (.ref w_DOUBLE), .val (.int (401 : Int32)), .unset] [(.int (2 : Int32)), (.int (3 : Int32)), (.int (401 : Int32))])) (fun t k => XS.iloadN X20.here hx rfl (hb hby at_32) rfl k) ?_
      refine own_via (T' := T20) (g' := (mkF m 34 #[.val (.int p1), .val (.int p2), .val (.int (1 : Int32)), .val (.int (2 : Int32)), .val (.ref w_INT), .val (.ref w_DOUBLE), .val (.int (401 : Int32)), .unset] [(.int ((3 : Int32) + (2 : Int32))), (.int (401 : Int32))])) (fun t k => XS.iadd X20.here hx rfl (hb hby at_33) rfl k) ?_
      rw [show ((3 : Int32) + (2 : Int32)) = (5 : Int32) from by decide]
      refine own_via (T' := T20) (g' := (mkF m 35 #[.val (.int p1), .val (.int p2), .val (.int (1 : Int32)), .val (.int (2 : Int32)), .val (.ref w_INT), .val (.ref w_DOUBLE), .val (.int (401 : Int32)), .unset] [(.int ((401 : Int32) >>> ((5 : Int32) &&& 31)))])) (fun t k => XS.ishr X20.here hx rfl (hb hby at_34) rfl k) ?_
      rw [show ((401 : Int32) >>> ((5 : Int32) &&& 31)) = (12 : Int32) from by decide]
      refine own_via (T' := T20) (g' := (mkF m 36 #[.val (.int p1), .val (.int p2), .val (.int (1 : Int32)), .val (.int (2 : Int32)), .val (.ref w_INT), .val (.ref w_DOUBLE), .val (.int (401 : Int32)), .unset] [(.int (1 : Int32)), (.int (12 : Int32))])) (fun t k => XS.iconst X20.here hx rfl (hb hby at_35) k) ?_
      refine own_via (T' := T20) (g' := (mkF m 37 #[.val (.int p1), .val (.int p2), .val (.int (1 : Int32)), .val (.int (2 : Int32)), .val (.ref w_INT), .val (.ref w_DOUBLE), .val (.int (401 : Int32)), .unset] [(.int ((12 : Int32) &&& (1 : Int32)))])) (fun t k => XS.iand X20.here hx rfl (hb hby at_36) rfl k) ?_
      rw [show ((12 : Int32) &&& (1 : Int32)) = (0 : Int32) from by decide]
      refine own_via (T' := T20) (g' := (mkF m 44 #[.val (.int p1), .val (.int p2), .val (.int (1 : Int32)), .val (.int (2 : Int32)), .val (.ref w_INT), .val (.ref w_DOUBLE), .val (.int (401 : Int32)), .unset] [])) (fun t k => XS.ifYes X20.here hx rfl (pc0 := 37) (pc' := 44) rfl (hb hby at_37) rfl ((if0 _ _).trans (teq rfl).1) (by decide) (by decide) k) ?_
      refine own_via (T' := T20) (g' := (mkF m 45 #[.val (.int p1), .val (.int p2), .val (.int (1 : Int32)), .val (.int (2 : Int32)), .val (.ref w_INT), .val (.ref w_DOUBLE), .val (.int (401 : Int32)), .unset] [(.int (0 : Int32))])) (fun t k => XS.iconst X20.here hx rfl (hb hby at_44) k) ?_
      refine own_via (T' := T20) (g' := (mkF m 47 #[.val (.int p1), .val (.int p2), .val (.int (1 : Int32)), .val (.int (2 : Int32)), .val (.ref w_INT), .val (.ref w_DOUBLE), .val (.int (401 : Int32)), .val (.int (0 : Int32))] [])) (fun t k => XS.istore X20.here hx rfl (hb hby at_45) rfl (l' := #[.val (.int p1), .val (.int p2), .val (.int (1 : Int32)), .val (.int (2 : Int32)), .val (.ref w_INT), .val (.ref w_DOUBLE), .val (.int (401 : Int32)), .val (.int (0 : Int32))]) rfl k) ?_
      refine own_via (T' := T20) (g' := (mkF m 49 #[.val (.int p1), .val (.int p2), .val (.int (1 : Int32)), .val (.int (2 : Int32)), .val (.ref w_INT), .val (.ref w_DOUBLE), .val (.int (401 : Int32)), .val (.int (0 : Int32))] [(.ref w_INT)])) (fun t k => XS.aload X20.here hx rfl (hb hby at_47) rfl rfl k) ?_
      refine own_via (T' := T20) (g' := (mkF m 51 #[.val (.int p1), .val (.int p2), .val (.int (1 : Int32)), .val (.int (2 : Int32)), .val (.ref w_INT), .val (.ref w_DOUBLE), .val (.int (401 : Int32)), .val (.int (0 : Int32))] [(.ref w_DOUBLE), (.ref w_INT)])) (fun t k => XS.aload X20.here hx rfl (hb hby at_49) rfl rfl k) ?_
      obtain ⟨T21, X21, e21, st21⟩ := own_callV (W := 0) (r := (some (.int (0 : Int32)))) (y := (⟨"com/example/end_component/endcomponent/language/Type", "accepts", "(Lcom/example/end_component/endcomponent/language/Type;)Z"⟩ : MethodName)) (z := (⟨"com/example/end_component/endcomponent/language/Type", "accepts", "(Lcom/example/end_component/endcomponent/language/Type;)Z"⟩ : MethodName)) X20 hx hZ hown (hw _ (List.mem_of_getElem? (i := 11) rfl)) (hw _ (List.mem_of_getElem? (i := 12) rfl)) (notFace_of_selects (args := #[]) (mvT hZ (hw _ (List.mem_of_getElem? (i := 14) rfl)))) (hw _ (List.mem_of_getElem? (i := 14) rfl)) (hw _ (List.mem_of_getElem? (i := 13) rfl)) (by decide) (hw _ (List.mem_of_getElem? (i := 15) rfl)) (hw _ (List.mem_of_getElem? (i := 9) rfl)) (own_c3 l Z a0 hw w_INT w_DOUBLE w_INT w_DOUBLE (0 : Int32) h0 S_INT S_DOUBLE (by simp [own_acc, ne_BOOL_INT, ne_BOOL_DOUBLE, ne_INT_BOOL, ne_INT_DOUBLE, ne_DOUBLE_BOOL, ne_DOUBLE_INT])) e20 E_INT (by decide) (by decide) (by decide) (by decide) (g := (mkF m 51 #[.val (.int p1), .val (.int p2), .val (.int (1 : Int32)), .val (.int (2 : Int32)), .val (.ref w_INT), .val (.ref w_DOUBLE), .val (.int (401 : Int32)), .val (.int (0 : Int32))] [(.ref w_DOUBLE), (.ref w_INT)])) rfl (by rw [hml]; rfl) (argsL := [(.ref w_DOUBLE)]) (rest := []) (lenOf pd_32 rfl) rfl (by show 2 * 0 + _ ≤ _; exact Nat.le_of_eq rfl) (hb hby at_51) rfl
      refine own_via (T' := T21) (g' := (mkF m 54 #[.val (.int p1), .val (.int p2), .val (.int (1 : Int32)), .val (.int (2 : Int32)), .val (.ref w_INT), .val (.ref w_DOUBLE), .val (.int (401 : Int32)), .val (.int (0 : Int32))] [(.int (0 : Int32))])) st21 ?_
      refine own_via (T' := T21) (g' := (mkF m 56 #[.val (.int p1), .val (.int p2), .val (.int (1 : Int32)), .val (.int (2 : Int32)), .val (.ref w_INT), .val (.ref w_DOUBLE), .val (.int (401 : Int32)), .val (.int (0 : Int32))] [(.int (0 : Int32)), (.int (0 : Int32))])) (fun t k => XS.iload X21.here hx rfl (hb hby at_54) rfl k) ?_
      refine own_via (T' := T21) (g' := (mkF m 59 #[.val (.int p1), .val (.int p2), .val (.int (1 : Int32)), .val (.int (2 : Int32)), .val (.ref w_INT), .val (.ref w_DOUBLE), .val (.int (401 : Int32)), .val (.int (0 : Int32))] [])) (fun t k => XS.icmpNo X21.here hx rfl (hb hby at_56) rfl (teq rfl).2 k) ?_
      refine own_via (T' := T21) (g' := (mkF m 60 #[.val (.int p1), .val (.int p2), .val (.int (1 : Int32)), .val (.int (2 : Int32)), .val (.ref w_INT), .val (.ref w_DOUBLE), .val (.int (401 : Int32)), .val (.int (0 : Int32))] [(.int (1 : Int32))])) (fun t k => XS.iconst X21.here hx rfl (hb hby at_59) k) ?_
      refine own_via (T' := T21) (g' := (mkF m 64 #[.val (.int p1), .val (.int p2), .val (.int (1 : Int32)), .val (.int (2 : Int32)), .val (.ref w_INT), .val (.ref w_DOUBLE), .val (.int (401 : Int32)), .val (.int (0 : Int32))] [(.int (1 : Int32))])) (fun t k => XS.goto X21.here hx rfl (pc0 := 60) (pc' := 64) rfl (hb hby at_60) (by decide) (by decide) k) ?_
      exact own_ret (t := .boolean) X21 hx Bd.returns hlk rfl (Or.inl ⟨rfl, by simp, _, rfl⟩) (hb hby at_64) (by decide) (by decide) ⟨rfl, Fr.nil _⟩
  · refine own_via (T' := T1) (g' := (mkF m 5 #[.val (.int p1), .val (.int p2), .val (.int (2 : Int32)), .unset, .unset, .unset, .unset, .unset] [])) (fun t k => XS.istoreN X1.here hx rfl (hb hby at_4) rfl (l' := #[.val (.int p1), .val (.int p2), .val (.int (2 : Int32)), .unset, .unset, .unset, .unset, .unset]) rfl k) ?_
    refine own_via (T' := T1) (g' := (mkF m 6 #[.val (.int p1), .val (.int p2), .val (.int (2 : Int32)), .unset, .unset, .unset, .unset, .unset] [(.int p2)])) (fun t k => XS.iloadN X1.here hx rfl (hb hby at_5) rfl k) ?_
    obtain ⟨T22, X22, e22, st22⟩ := own_callS (W := 0) (r := (some (.int ((p2 &&& (2147483647 : Int32)) % (3 : Int32))))) (y := (⟨"com/example/end_component/endcomponent/language/TypeAcceptsPinLaw", "index", "(I)I"⟩ : MethodName)) X1 hx hZ hown (hw _ (List.mem_of_getElem? (i := 0) rfl)) (hw _ (List.mem_of_getElem? (i := 1) rfl)) (hw _ (List.mem_of_getElem? (i := 2) rfl)) (hw _ (List.mem_of_getElem? (i := 3) rfl)) (by decide) (own_c1 l Z a0 hw p2 h0) e1 (by decide) (by decide) (by decide) (by decide) (g := (mkF m 6 #[.val (.int p1), .val (.int p2), .val (.int (2 : Int32)), .unset, .unset, .unset, .unset, .unset] [(.int p2)])) rfl (by rw [hml]; rfl) (argsL := [(.int p2)]) (rest := []) (lenOf pd_30 rfl) rfl (by show 2 * 0 + _ ≤ _; exact Nat.le_of_eq rfl) (hb hby at_6) rfl
    refine own_via (T' := T22) (g' := (mkF m 9 #[.val (.int p1), .val (.int p2), .val (.int (2 : Int32)), .unset, .unset, .unset, .unset, .unset] [(.int ((p2 &&& (2147483647 : Int32)) % (3 : Int32)))])) st22 ?_
    generalize hj : ((p2 &&& (2147483647 : Int32)) % (3 : Int32)) = j
    rcases own_mod3 p2 j hj with rfl | rfl | rfl
    · refine own_via (T' := T22) (g' := (mkF m 10 #[.val (.int p1), .val (.int p2), .val (.int (2 : Int32)), .val (.int (0 : Int32)), .unset, .unset, .unset, .unset] [])) (fun t k => XS.istoreN X22.here hx rfl (hb hby at_9) rfl (l' := #[.val (.int p1), .val (.int p2), .val (.int (2 : Int32)), .val (.int (0 : Int32)), .unset, .unset, .unset, .unset]) rfl k) ?_
      refine own_via (T' := T22) (g' := (mkF m 11 #[.val (.int p1), .val (.int p2), .val (.int (2 : Int32)), .val (.int (0 : Int32)), .unset, .unset, .unset, .unset] [(.int (2 : Int32))])) (fun t k => XS.iloadN X22.here hx rfl (hb hby at_10) rfl k) ?_
      obtain ⟨T23, X23, e23, st23⟩ := own_callS (W := 0) (r := (some (.ref w_DOUBLE))) (y := (⟨"com/example/end_component/endcomponent/language/TypeAcceptsPinLaw", "pick", "(I)Lcom/example/end_component/endcomponent/language/Type;"⟩ : MethodName)) X22 hx hZ hown (hw _ (List.mem_of_getElem? (i := 5) rfl)) (hw _ (List.mem_of_getElem? (i := 6) rfl)) (hw _ (List.mem_of_getElem? (i := 2) rfl)) (hw _ (List.mem_of_getElem? (i := 7) rfl)) (by decide) (own_c2 l Z a0 hw (2 : Int32) w_BOOL w_INT w_DOUBLE w_DOUBLE h0 S_BOOL S_INT S_DOUBLE (by simp [own_pick])) e22 (by decide) (by decide) (by decide) (by decide) (g := (mkF m 11 #[.val (.int p1), .val (.int p2), .val (.int (2 : Int32)), .val (.int (0 : Int32)), .unset, .unset, .unset, .unset] [(.int (2 : Int32))])) rfl (by rw [hml]; rfl) (argsL := [(.int (2 : Int32))]) (rest := []) (lenOf pd_31 rfl) rfl (by show 2 * 0 + _ ≤ _; exact Nat.le_of_eq rfl) (hb hby at_11) rfl
      refine own_via (T' := T23) (g' := (mkF m 14 #[.val (.int p1), .val (.int p2), .val (.int (2 : Int32)), .val (.int (0 : Int32)), .unset, .unset, .unset, .unset] [(.ref w_DOUBLE)])) st23 ?_
      refine own_via (T' := T23) (g' := (mkF m 16 #[.val (.int p1), .val (.int p2), .val (.int (2 : Int32)), .val (.int (0 : Int32)), .val (.ref w_DOUBLE), .unset, .unset, .unset] [])) (fun t k => XS.astore X23.here hx rfl (hb hby at_14) rfl rfl (l' := #[.val (.int p1), .val (.int p2), .val (.int (2 : Int32)), .val (.int (0 : Int32)), .val (.ref w_DOUBLE), .unset, .unset, .unset]) rfl k) ?_
      refine own_via (T' := T23) (g' := (mkF m 17 #[.val (.int p1), .val (.int p2), .val (.int (2 : Int32)), .val (.int (0 : Int32)), .val (.ref w_DOUBLE), .unset, .unset, .unset] [(.int (0 : Int32))])) (fun t k => XS.iloadN X23.here hx rfl (hb hby at_16) rfl k) ?_
      obtain ⟨T24, X24, e24, st24⟩ := own_callS (W := 0) (r := (some (.ref w_BOOL))) (y := (⟨"com/example/end_component/endcomponent/language/TypeAcceptsPinLaw", "pick", "(I)Lcom/example/end_component/endcomponent/language/Type;"⟩ : MethodName)) X23 hx hZ hown (hw _ (List.mem_of_getElem? (i := 5) rfl)) (hw _ (List.mem_of_getElem? (i := 6) rfl)) (hw _ (List.mem_of_getElem? (i := 2) rfl)) (hw _ (List.mem_of_getElem? (i := 7) rfl)) (by decide) (own_c2 l Z a0 hw (0 : Int32) w_BOOL w_INT w_DOUBLE w_BOOL h0 S_BOOL S_INT S_DOUBLE (by simp [own_pick])) e23 (by decide) (by decide) (by decide) (by decide) (g := (mkF m 17 #[.val (.int p1), .val (.int p2), .val (.int (2 : Int32)), .val (.int (0 : Int32)), .val (.ref w_DOUBLE), .unset, .unset, .unset] [(.int (0 : Int32))])) rfl (by rw [hml]; rfl) (argsL := [(.int (0 : Int32))]) (rest := []) (lenOf pd_31 rfl) rfl (by show 2 * 0 + _ ≤ _; exact Nat.le_of_eq rfl) (hb hby at_17) rfl
      refine own_via (T' := T24) (g' := (mkF m 20 #[.val (.int p1), .val (.int p2), .val (.int (2 : Int32)), .val (.int (0 : Int32)), .val (.ref w_DOUBLE), .unset, .unset, .unset] [(.ref w_BOOL)])) st24 ?_
      refine own_via (T' := T24) (g' := (mkF m 22 #[.val (.int p1), .val (.int p2), .val (.int (2 : Int32)), .val (.int (0 : Int32)), .val (.ref w_DOUBLE), .val (.ref w_BOOL), .unset, .unset] [])) (fun t k => XS.astore X24.here hx rfl (hb hby at_20) rfl rfl (l' := #[.val (.int p1), .val (.int p2), .val (.int (2 : Int32)), .val (.int (0 : Int32)), .val (.ref w_DOUBLE), .val (.ref w_BOOL), .unset, .unset]) rfl k) ?_
      refine own_via (T' := T24) (g' := (mkF m 25 #[.val (.int p1), .val (.int p2), .val (.int (2 : Int32)), .val (.int (0 : Int32)), .val (.ref w_DOUBLE), .val (.ref w_BOOL), .unset, .unset] [(.int (401 : Int32))])) (fun t k => XS.sipush X24.here hx rfl (hb hby at_22) k) ?_
      refine own_via (T' := T24) (g' := (mkF m 27 #[.val (.int p1), .val (.int p2), .val (.int (2 : Int32)), .val (.int (0 : Int32)), .val (.ref w_DOUBLE), .val (.ref w_BOOL), .val (.int (401 : Int32)), .unset] [])) (fun t k => XS.istore X24.here hx rfl (hb hby at_25) rfl (l' := #[.val (.int p1), .val (.int p2), .val (.int (2 : Int32)), .val (.int (0 : Int32)), .val (.ref w_DOUBLE), .val (.ref w_BOOL), .val (.int (401 : Int32)), .unset]) rfl k) ?_
      refine own_via (T' := T24) (g' := (mkF m 29 #[.val (.int p1), .val (.int p2), .val (.int (2 : Int32)), .val (.int (0 : Int32)), .val (.ref w_DOUBLE), .val (.ref w_BOOL), .val (.int (401 : Int32)), .unset] [(.int (401 : Int32))])) (fun t k => XS.iload X24.here hx rfl (hb hby at_27) rfl k) ?_
      refine own_via (T' := T24) (g' := (mkF m 30 #[.val (.int p1), .val (.int p2), .val (.int (2 : Int32)), .val (.int (0 : Int32)), .val (.ref w_DOUBLE), .val (.ref w_BOOL), .val (.int (401 : Int32)), .unset] [(.int (3 : Int32)), (.int (401 : Int32))])) (fun t k => XS.iconst X24.here hx rfl (hb hby at_29) k) ?_
      refine own_via (T' := T24) (g' := (mkF m 31 #[.val (.int p1), .val (.int p2), .val (.int (2 : Int32)), .val (.int (0 : Int32)), .val (.ref w_DOUBLE), .val (.ref w_BOOL), .val (.int (401 : Int32)), .unset] [(.int (2 : Int32)), (.int (3 : Int32)), (.int (401 : Int32))])) (fun t k => XS.iloadN X24.here hx rfl (hb hby at_30) rfl k) ?_
      refine own_via (T' := T24) (g' := (mkF m 32 #[.val (.int p1), .val (.int p2), .val (.int (2 : Int32)), .val (.int (0 : Int32)), .val (.ref w_DOUBLE), .val (.ref w_BOOL), .val (.int (401 : Int32)), .unset] [(.int ((3 : Int32) * (2 : Int32))), (.int (401 : Int32))])) (fun t k => XS.imul X24.here hx rfl (hb hby at_31) rfl k) ?_
      rw [show ((3 : Int32) * (2 : Int32)) = (6 : Int32) from by decide]
      refine own_via (T' := T24) (g' := (mkF m 33 #[.val (.int p1), .val (.int p2), .val (.int (2 : Int32)), .val (.int (0 : Int32)), .val (.ref w_DOUBLE), .val (.ref w_BOOL), .val (.int (401 : Int32)), .unset] [(.int (0 : Int32)), (.int (6 : Int32)), (.int (401 : Int32))])) (fun t k => XS.iloadN X24.here hx rfl (hb hby at_32) rfl k) ?_
      refine own_via (T' := T24) (g' := (mkF m 34 #[.val (.int p1), .val (.int p2), .val (.int (2 : Int32)), .val (.int (0 : Int32)), .val (.ref w_DOUBLE), .val (.ref w_BOOL), .val (.int (401 : Int32)), .unset] [(.int ((6 : Int32) + (0 : Int32))), (.int (401 : Int32))])) (fun t k => XS.iadd X24.here hx rfl (hb hby at_33) rfl k) ?_
      rw [show ((6 : Int32) + (0 : Int32)) = (6 : Int32) from by decide]
      refine own_via (T' := T24) (g' := (mkF m 35 #[.val (.int p1), .val (.int p2), .val (.int (2 : Int32)), .val (.int (0 : Int32)), .val (.ref w_DOUBLE), .val (.ref w_BOOL), .val (.int (401 : Int32)), .unset] [(.int ((401 : Int32) >>> ((6 : Int32) &&& 31)))])) (fun t k => XS.ishr X24.here hx rfl (hb hby at_34) rfl k) ?_
      rw [show ((401 : Int32) >>> ((6 : Int32) &&& 31)) = (6 : Int32) from by decide]
      refine own_via (T' := T24) (g' := (mkF m 36 #[.val (.int p1), .val (.int p2), .val (.int (2 : Int32)), .val (.int (0 : Int32)), .val (.ref w_DOUBLE), .val (.ref w_BOOL), .val (.int (401 : Int32)), .unset] [(.int (1 : Int32)), (.int (6 : Int32))])) (fun t k => XS.iconst X24.here hx rfl (hb hby at_35) k) ?_
      refine own_via (T' := T24) (g' := (mkF m 37 #[.val (.int p1), .val (.int p2), .val (.int (2 : Int32)), .val (.int (0 : Int32)), .val (.ref w_DOUBLE), .val (.ref w_BOOL), .val (.int (401 : Int32)), .unset] [(.int ((6 : Int32) &&& (1 : Int32)))])) (fun t k => XS.iand X24.here hx rfl (hb hby at_36) rfl k) ?_
      rw [show ((6 : Int32) &&& (1 : Int32)) = (0 : Int32) from by decide]
      refine own_via (T' := T24) (g' := (mkF m 44 #[.val (.int p1), .val (.int p2), .val (.int (2 : Int32)), .val (.int (0 : Int32)), .val (.ref w_DOUBLE), .val (.ref w_BOOL), .val (.int (401 : Int32)), .unset] [])) (fun t k => XS.ifYes X24.here hx rfl (pc0 := 37) (pc' := 44) rfl (hb hby at_37) rfl ((if0 _ _).trans (teq rfl).1) (by decide) (by decide) k) ?_
      refine own_via (T' := T24) (g' := (mkF m 45 #[.val (.int p1), .val (.int p2), .val (.int (2 : Int32)), .val (.int (0 : Int32)), .val (.ref w_DOUBLE), .val (.ref w_BOOL), .val (.int (401 : Int32)), .unset] [(.int (0 : Int32))])) (fun t k => XS.iconst X24.here hx rfl (hb hby at_44) k) ?_
      refine own_via (T' := T24) (g' := (mkF m 47 #[.val (.int p1), .val (.int p2), .val (.int (2 : Int32)), .val (.int (0 : Int32)), .val (.ref w_DOUBLE), .val (.ref w_BOOL), .val (.int (401 : Int32)), .val (.int (0 : Int32))] [])) (fun t k => XS.istore X24.here hx rfl (hb hby at_45) rfl (l' := #[.val (.int p1), .val (.int p2), .val (.int (2 : Int32)), .val (.int (0 : Int32)), .val (.ref w_DOUBLE), .val (.ref w_BOOL), .val (.int (401 : Int32)), .val (.int (0 : Int32))]) rfl k) ?_
      refine own_via (T' := T24) (g' := (mkF m 49 #[.val (.int p1), .val (.int p2), .val (.int (2 : Int32)), .val (.int (0 : Int32)), .val (.ref w_DOUBLE), .val (.ref w_BOOL), .val (.int (401 : Int32)), .val (.int (0 : Int32))] [(.ref w_DOUBLE)])) (fun t k => XS.aload X24.here hx rfl (hb hby at_47) rfl rfl k) ?_
      refine own_via (T' := T24) (g' := (mkF m 51 #[.val (.int p1), .val (.int p2), .val (.int (2 : Int32)), .val (.int (0 : Int32)), .val (.ref w_DOUBLE), .val (.ref w_BOOL), .val (.int (401 : Int32)), .val (.int (0 : Int32))] [(.ref w_BOOL), (.ref w_DOUBLE)])) (fun t k => XS.aload X24.here hx rfl (hb hby at_49) rfl rfl k) ?_
      obtain ⟨T25, X25, e25, st25⟩ := own_callV (W := 0) (r := (some (.int (0 : Int32)))) (y := (⟨"com/example/end_component/endcomponent/language/Type", "accepts", "(Lcom/example/end_component/endcomponent/language/Type;)Z"⟩ : MethodName)) (z := (⟨"com/example/end_component/endcomponent/language/Type", "accepts", "(Lcom/example/end_component/endcomponent/language/Type;)Z"⟩ : MethodName)) X24 hx hZ hown (hw _ (List.mem_of_getElem? (i := 11) rfl)) (hw _ (List.mem_of_getElem? (i := 12) rfl)) (notFace_of_selects (args := #[]) (mvT hZ (hw _ (List.mem_of_getElem? (i := 14) rfl)))) (hw _ (List.mem_of_getElem? (i := 14) rfl)) (hw _ (List.mem_of_getElem? (i := 13) rfl)) (by decide) (hw _ (List.mem_of_getElem? (i := 15) rfl)) (hw _ (List.mem_of_getElem? (i := 9) rfl)) (own_c3 l Z a0 hw w_DOUBLE w_BOOL w_INT w_DOUBLE (0 : Int32) h0 S_INT S_DOUBLE (by simp [own_acc, ne_BOOL_INT, ne_BOOL_DOUBLE, ne_INT_BOOL, ne_INT_DOUBLE, ne_DOUBLE_BOOL, ne_DOUBLE_INT])) e24 E_DOUBLE (by decide) (by decide) (by decide) (by decide) (g := (mkF m 51 #[.val (.int p1), .val (.int p2), .val (.int (2 : Int32)), .val (.int (0 : Int32)), .val (.ref w_DOUBLE), .val (.ref w_BOOL), .val (.int (401 : Int32)), .val (.int (0 : Int32))] [(.ref w_BOOL), (.ref w_DOUBLE)])) rfl (by rw [hml]; rfl) (argsL := [(.ref w_BOOL)]) (rest := []) (lenOf pd_32 rfl) rfl (by show 2 * 0 + _ ≤ _; exact Nat.le_of_eq rfl) (hb hby at_51) rfl
      refine own_via (T' := T25) (g' := (mkF m 54 #[.val (.int p1), .val (.int p2), .val (.int (2 : Int32)), .val (.int (0 : Int32)), .val (.ref w_DOUBLE), .val (.ref w_BOOL), .val (.int (401 : Int32)), .val (.int (0 : Int32))] [(.int (0 : Int32))])) st25 ?_
      refine own_via (T' := T25) (g' := (mkF m 56 #[.val (.int p1), .val (.int p2), .val (.int (2 : Int32)), .val (.int (0 : Int32)), .val (.ref w_DOUBLE), .val (.ref w_BOOL), .val (.int (401 : Int32)), .val (.int (0 : Int32))] [(.int (0 : Int32)), (.int (0 : Int32))])) (fun t k => XS.iload X25.here hx rfl (hb hby at_54) rfl k) ?_
      refine own_via (T' := T25) (g' := (mkF m 59 #[.val (.int p1), .val (.int p2), .val (.int (2 : Int32)), .val (.int (0 : Int32)), .val (.ref w_DOUBLE), .val (.ref w_BOOL), .val (.int (401 : Int32)), .val (.int (0 : Int32))] [])) (fun t k => XS.icmpNo X25.here hx rfl (hb hby at_56) rfl (teq rfl).2 k) ?_
      refine own_via (T' := T25) (g' := (mkF m 60 #[.val (.int p1), .val (.int p2), .val (.int (2 : Int32)), .val (.int (0 : Int32)), .val (.ref w_DOUBLE), .val (.ref w_BOOL), .val (.int (401 : Int32)), .val (.int (0 : Int32))] [(.int (1 : Int32))])) (fun t k => XS.iconst X25.here hx rfl (hb hby at_59) k) ?_
      refine own_via (T' := T25) (g' := (mkF m 64 #[.val (.int p1), .val (.int p2), .val (.int (2 : Int32)), .val (.int (0 : Int32)), .val (.ref w_DOUBLE), .val (.ref w_BOOL), .val (.int (401 : Int32)), .val (.int (0 : Int32))] [(.int (1 : Int32))])) (fun t k => XS.goto X25.here hx rfl (pc0 := 60) (pc' := 64) rfl (hb hby at_60) (by decide) (by decide) k) ?_
      exact own_ret (t := .boolean) X25 hx Bd.returns hlk rfl (Or.inl ⟨rfl, by simp, _, rfl⟩) (hb hby at_64) (by decide) (by decide) ⟨rfl, Fr.nil _⟩
    · refine own_via (T' := T22) (g' := (mkF m 10 #[.val (.int p1), .val (.int p2), .val (.int (2 : Int32)), .val (.int (1 : Int32)), .unset, .unset, .unset, .unset] [])) (fun t k => XS.istoreN X22.here hx rfl (hb hby at_9) rfl (l' := #[.val (.int p1), .val (.int p2), .val (.int (2 : Int32)), .val (.int (1 : Int32)), .unset, .unset, .unset, .unset]) rfl k) ?_
      refine own_via (T' := T22) (g' := (mkF m 11 #[.val (.int p1), .val (.int p2), .val (.int (2 : Int32)), .val (.int (1 : Int32)), .unset, .unset, .unset, .unset] [(.int (2 : Int32))])) (fun t k => XS.iloadN X22.here hx rfl (hb hby at_10) rfl k) ?_
      obtain ⟨T26, X26, e26, st26⟩ := own_callS (W := 0) (r := (some (.ref w_DOUBLE))) (y := (⟨"com/example/end_component/endcomponent/language/TypeAcceptsPinLaw", "pick", "(I)Lcom/example/end_component/endcomponent/language/Type;"⟩ : MethodName)) X22 hx hZ hown (hw _ (List.mem_of_getElem? (i := 5) rfl)) (hw _ (List.mem_of_getElem? (i := 6) rfl)) (hw _ (List.mem_of_getElem? (i := 2) rfl)) (hw _ (List.mem_of_getElem? (i := 7) rfl)) (by decide) (own_c2 l Z a0 hw (2 : Int32) w_BOOL w_INT w_DOUBLE w_DOUBLE h0 S_BOOL S_INT S_DOUBLE (by simp [own_pick])) e22 (by decide) (by decide) (by decide) (by decide) (g := (mkF m 11 #[.val (.int p1), .val (.int p2), .val (.int (2 : Int32)), .val (.int (1 : Int32)), .unset, .unset, .unset, .unset] [(.int (2 : Int32))])) rfl (by rw [hml]; rfl) (argsL := [(.int (2 : Int32))]) (rest := []) (lenOf pd_31 rfl) rfl (by show 2 * 0 + _ ≤ _; exact Nat.le_of_eq rfl) (hb hby at_11) rfl
      refine own_via (T' := T26) (g' := (mkF m 14 #[.val (.int p1), .val (.int p2), .val (.int (2 : Int32)), .val (.int (1 : Int32)), .unset, .unset, .unset, .unset] [(.ref w_DOUBLE)])) st26 ?_
      refine own_via (T' := T26) (g' := (mkF m 16 #[.val (.int p1), .val (.int p2), .val (.int (2 : Int32)), .val (.int (1 : Int32)), .val (.ref w_DOUBLE), .unset, .unset, .unset] [])) (fun t k => XS.astore X26.here hx rfl (hb hby at_14) rfl rfl (l' := #[.val (.int p1), .val (.int p2), .val (.int (2 : Int32)), .val (.int (1 : Int32)), .val (.ref w_DOUBLE), .unset, .unset, .unset]) rfl k) ?_
      refine own_via (T' := T26) (g' := (mkF m 17 #[.val (.int p1), .val (.int p2), .val (.int (2 : Int32)), .val (.int (1 : Int32)), .val (.ref w_DOUBLE), .unset, .unset, .unset] [(.int (1 : Int32))])) (fun t k => XS.iloadN X26.here hx rfl (hb hby at_16) rfl k) ?_
      obtain ⟨T27, X27, e27, st27⟩ := own_callS (W := 0) (r := (some (.ref w_INT))) (y := (⟨"com/example/end_component/endcomponent/language/TypeAcceptsPinLaw", "pick", "(I)Lcom/example/end_component/endcomponent/language/Type;"⟩ : MethodName)) X26 hx hZ hown (hw _ (List.mem_of_getElem? (i := 5) rfl)) (hw _ (List.mem_of_getElem? (i := 6) rfl)) (hw _ (List.mem_of_getElem? (i := 2) rfl)) (hw _ (List.mem_of_getElem? (i := 7) rfl)) (by decide) (own_c2 l Z a0 hw (1 : Int32) w_BOOL w_INT w_DOUBLE w_INT h0 S_BOOL S_INT S_DOUBLE (by simp [own_pick])) e26 (by decide) (by decide) (by decide) (by decide) (g := (mkF m 17 #[.val (.int p1), .val (.int p2), .val (.int (2 : Int32)), .val (.int (1 : Int32)), .val (.ref w_DOUBLE), .unset, .unset, .unset] [(.int (1 : Int32))])) rfl (by rw [hml]; rfl) (argsL := [(.int (1 : Int32))]) (rest := []) (lenOf pd_31 rfl) rfl (by show 2 * 0 + _ ≤ _; exact Nat.le_of_eq rfl) (hb hby at_17) rfl
      refine own_via (T' := T27) (g' := (mkF m 20 #[.val (.int p1), .val (.int p2), .val (.int (2 : Int32)), .val (.int (1 : Int32)), .val (.ref w_DOUBLE), .unset, .unset, .unset] [(.ref w_INT)])) st27 ?_
      refine own_via (T' := T27) (g' := (mkF m 22 #[.val (.int p1), .val (.int p2), .val (.int (2 : Int32)), .val (.int (1 : Int32)), .val (.ref w_DOUBLE), .val (.ref w_INT), .unset, .unset] [])) (fun t k => XS.astore X27.here hx rfl (hb hby at_20) rfl rfl (l' := #[.val (.int p1), .val (.int p2), .val (.int (2 : Int32)), .val (.int (1 : Int32)), .val (.ref w_DOUBLE), .val (.ref w_INT), .unset, .unset]) rfl k) ?_
      refine own_via (T' := T27) (g' := (mkF m 25 #[.val (.int p1), .val (.int p2), .val (.int (2 : Int32)), .val (.int (1 : Int32)), .val (.ref w_DOUBLE), .val (.ref w_INT), .unset, .unset] [(.int (401 : Int32))])) (fun t k => XS.sipush X27.here hx rfl (hb hby at_22) k) ?_
      refine own_via (T' := T27) (g' := (mkF m 27 #[.val (.int p1), .val (.int p2), .val (.int (2 : Int32)), .val (.int (1 : Int32)), .val (.ref w_DOUBLE), .val (.ref w_INT), .val (.int (401 : Int32)), .unset] [])) (fun t k => XS.istore X27.here hx rfl (hb hby at_25) rfl (l' := #[.val (.int p1), .val (.int p2), .val (.int (2 : Int32)), .val (.int (1 : Int32)), .val (.ref w_DOUBLE), .val (.ref w_INT), .val (.int (401 : Int32)), .unset]) rfl k) ?_
      refine own_via (T' := T27) (g' := (mkF m 29 #[.val (.int p1), .val (.int p2), .val (.int (2 : Int32)), .val (.int (1 : Int32)), .val (.ref w_DOUBLE), .val (.ref w_INT), .val (.int (401 : Int32)), .unset] [(.int (401 : Int32))])) (fun t k => XS.iload X27.here hx rfl (hb hby at_27) rfl k) ?_
      refine own_via (T' := T27) (g' := (mkF m 30 #[.val (.int p1), .val (.int p2), .val (.int (2 : Int32)), .val (.int (1 : Int32)), .val (.ref w_DOUBLE), .val (.ref w_INT), .val (.int (401 : Int32)), .unset] [(.int (3 : Int32)), (.int (401 : Int32))])) (fun t k => XS.iconst X27.here hx rfl (hb hby at_29) k) ?_
      refine own_via (T' := T27) (g' := (mkF m 31 #[.val (.int p1), .val (.int p2), .val (.int (2 : Int32)), .val (.int (1 : Int32)), .val (.ref w_DOUBLE), .val (.ref w_INT), .val (.int (401 : Int32)), .unset] [(.int (2 : Int32)), (.int (3 : Int32)), (.int (401 : Int32))])) (fun t k => XS.iloadN X27.here hx rfl (hb hby at_30) rfl k) ?_
      refine own_via (T' := T27) (g' := (mkF m 32 #[.val (.int p1), .val (.int p2), .val (.int (2 : Int32)), .val (.int (1 : Int32)), .val (.ref w_DOUBLE), .val (.ref w_INT), .val (.int (401 : Int32)), .unset] [(.int ((3 : Int32) * (2 : Int32))), (.int (401 : Int32))])) (fun t k => XS.imul X27.here hx rfl (hb hby at_31) rfl k) ?_
      rw [show ((3 : Int32) * (2 : Int32)) = (6 : Int32) from by decide]
      refine own_via (T' := T27) (g' := (mkF m 33 #[.val (.int p1), .val (.int p2), .val (.int (2 : Int32)), .val (.int (1 : Int32)), .val (.ref w_DOUBLE), .val (.ref w_INT), .val (.int (401 : Int32)), .unset] [(.int (1 : Int32)), (.int (6 : Int32)), (.int (401 : Int32))])) (fun t k => XS.iloadN X27.here hx rfl (hb hby at_32) rfl k) ?_
      refine own_via (T' := T27) (g' := (mkF m 34 #[.val (.int p1), .val (.int p2), .val (.int (2 : Int32)), .val (.int (1 : Int32)), .val (.ref w_DOUBLE), .val (.ref w_INT), .val (.int (401 : Int32)), .unset] [(.int ((6 : Int32) + (1 : Int32))), (.int (401 : Int32))])) (fun t k => XS.iadd X27.here hx rfl (hb hby at_33) rfl k) ?_
      rw [show ((6 : Int32) + (1 : Int32)) = (7 : Int32) from by decide]
      refine own_via (T' := T27) (g' := (mkF m 35 #[.val (.int p1), .val (.int p2), .val (.int (2 : Int32)), .val (.int (1 : Int32)), .val (.ref w_DOUBLE), .val (.ref w_INT), .val (.int (401 : Int32)), .unset] [(.int ((401 : Int32) >>> ((7 : Int32) &&& 31)))])) (fun t k => XS.ishr X27.here hx rfl (hb hby at_34) rfl k) ?_
      rw [show ((401 : Int32) >>> ((7 : Int32) &&& 31)) = (3 : Int32) from by decide]
      refine own_via (T' := T27) (g' := (mkF m 36 #[.val (.int p1), .val (.int p2), .val (.int (2 : Int32)), .val (.int (1 : Int32)), .val (.ref w_DOUBLE), .val (.ref w_INT), .val (.int (401 : Int32)), .unset] [(.int (1 : Int32)), (.int (3 : Int32))])) (fun t k => XS.iconst X27.here hx rfl (hb hby at_35) k) ?_
      refine own_via (T' := T27) (g' := (mkF m 37 #[.val (.int p1), .val (.int p2), .val (.int (2 : Int32)), .val (.int (1 : Int32)), .val (.ref w_DOUBLE), .val (.ref w_INT), .val (.int (401 : Int32)), .unset] [(.int ((3 : Int32) &&& (1 : Int32)))])) (fun t k => XS.iand X27.here hx rfl (hb hby at_36) rfl k) ?_
      rw [show ((3 : Int32) &&& (1 : Int32)) = (1 : Int32) from by decide]
      refine own_via (T' := T27) (g' := (mkF m 40 #[.val (.int p1), .val (.int p2), .val (.int (2 : Int32)), .val (.int (1 : Int32)), .val (.ref w_DOUBLE), .val (.ref w_INT), .val (.int (401 : Int32)), .unset] [])) (fun t k => XS.ifNo X27.here hx rfl (hb hby at_37) rfl ((if0 _ _).trans (feq (by decide)).1) k) ?_
      refine own_via (T' := T27) (g' := (mkF m 41 #[.val (.int p1), .val (.int p2), .val (.int (2 : Int32)), .val (.int (1 : Int32)), .val (.ref w_DOUBLE), .val (.ref w_INT), .val (.int (401 : Int32)), .unset] [(.int (1 : Int32))])) (fun t k => XS.iconst X27.here hx rfl (hb hby at_40) k) ?_
      refine own_via (T' := T27) (g' := (mkF m 45 #[.val (.int p1), .val (.int p2), .val (.int (2 : Int32)), .val (.int (1 : Int32)), .val (.ref w_DOUBLE), .val (.ref w_INT), .val (.int (401 : Int32)), .unset] [(.int (1 : Int32))])) (fun t k => XS.goto X27.here hx rfl (pc0 := 41) (pc' := 45) rfl (hb hby at_41) (by decide) (by decide) k) ?_
      refine own_via (T' := T27) (g' := (mkF m 47 #[.val (.int p1), .val (.int p2), .val (.int (2 : Int32)), .val (.int (1 : Int32)), .val (.ref w_DOUBLE), .val (.ref w_INT), .val (.int (401 : Int32)), .val (.int (1 : Int32))] [])) (fun t k => XS.istore X27.here hx rfl (hb hby at_45) rfl (l' := #[.val (.int p1), .val (.int p2), .val (.int (2 : Int32)), .val (.int (1 : Int32)), .val (.ref w_DOUBLE), .val (.ref w_INT), .val (.int (401 : Int32)), .val (.int (1 : Int32))]) rfl k) ?_
      refine own_via (T' := T27) (g' := (mkF m 49 #[.val (.int p1), .val (.int p2), .val (.int (2 : Int32)), .val (.int (1 : Int32)), .val (.ref w_DOUBLE), .val (.ref w_INT), .val (.int (401 : Int32)), .val (.int (1 : Int32))] [(.ref w_DOUBLE)])) (fun t k => XS.aload X27.here hx rfl (hb hby at_47) rfl rfl k) ?_
      refine own_via (T' := T27) (g' := (mkF m 51 #[.val (.int p1), .val (.int p2), .val (.int (2 : Int32)), .val (.int (1 : Int32)), .val (.ref w_DOUBLE), .val (.ref w_INT), .val (.int (401 : Int32)), .val (.int (1 : Int32))] [(.ref w_INT), (.ref w_DOUBLE)])) (fun t k => XS.aload X27.here hx rfl (hb hby at_49) rfl rfl k) ?_
      obtain ⟨T28, X28, e28, st28⟩ := own_callV (W := 0) (r := (some (.int (1 : Int32)))) (y := (⟨"com/example/end_component/endcomponent/language/Type", "accepts", "(Lcom/example/end_component/endcomponent/language/Type;)Z"⟩ : MethodName)) (z := (⟨"com/example/end_component/endcomponent/language/Type", "accepts", "(Lcom/example/end_component/endcomponent/language/Type;)Z"⟩ : MethodName)) X27 hx hZ hown (hw _ (List.mem_of_getElem? (i := 11) rfl)) (hw _ (List.mem_of_getElem? (i := 12) rfl)) (notFace_of_selects (args := #[]) (mvT hZ (hw _ (List.mem_of_getElem? (i := 14) rfl)))) (hw _ (List.mem_of_getElem? (i := 14) rfl)) (hw _ (List.mem_of_getElem? (i := 13) rfl)) (by decide) (hw _ (List.mem_of_getElem? (i := 15) rfl)) (hw _ (List.mem_of_getElem? (i := 9) rfl)) (own_c3 l Z a0 hw w_DOUBLE w_INT w_INT w_DOUBLE (1 : Int32) h0 S_INT S_DOUBLE (by simp [own_acc, ne_BOOL_INT, ne_BOOL_DOUBLE, ne_INT_BOOL, ne_INT_DOUBLE, ne_DOUBLE_BOOL, ne_DOUBLE_INT])) e27 E_DOUBLE (by decide) (by decide) (by decide) (by decide) (g := (mkF m 51 #[.val (.int p1), .val (.int p2), .val (.int (2 : Int32)), .val (.int (1 : Int32)), .val (.ref w_DOUBLE), .val (.ref w_INT), .val (.int (401 : Int32)), .val (.int (1 : Int32))] [(.ref w_INT), (.ref w_DOUBLE)])) rfl (by rw [hml]; rfl) (argsL := [(.ref w_INT)]) (rest := []) (lenOf pd_32 rfl) rfl (by show 2 * 0 + _ ≤ _; exact Nat.le_of_eq rfl) (hb hby at_51) rfl
      refine own_via (T' := T28) (g' := (mkF m 54 #[.val (.int p1), .val (.int p2), .val (.int (2 : Int32)), .val (.int (1 : Int32)), .val (.ref w_DOUBLE), .val (.ref w_INT), .val (.int (401 : Int32)), .val (.int (1 : Int32))] [(.int (1 : Int32))])) st28 ?_
      refine own_via (T' := T28) (g' := (mkF m 56 #[.val (.int p1), .val (.int p2), .val (.int (2 : Int32)), .val (.int (1 : Int32)), .val (.ref w_DOUBLE), .val (.ref w_INT), .val (.int (401 : Int32)), .val (.int (1 : Int32))] [(.int (1 : Int32)), (.int (1 : Int32))])) (fun t k => XS.iload X28.here hx rfl (hb hby at_54) rfl k) ?_
      refine own_via (T' := T28) (g' := (mkF m 59 #[.val (.int p1), .val (.int p2), .val (.int (2 : Int32)), .val (.int (1 : Int32)), .val (.ref w_DOUBLE), .val (.ref w_INT), .val (.int (401 : Int32)), .val (.int (1 : Int32))] [])) (fun t k => XS.icmpNo X28.here hx rfl (hb hby at_56) rfl (teq rfl).2 k) ?_
      refine own_via (T' := T28) (g' := (mkF m 60 #[.val (.int p1), .val (.int p2), .val (.int (2 : Int32)), .val (.int (1 : Int32)), .val (.ref w_DOUBLE), .val (.ref w_INT), .val (.int (401 : Int32)), .val (.int (1 : Int32))] [(.int (1 : Int32))])) (fun t k => XS.iconst X28.here hx rfl (hb hby at_59) k) ?_
      refine own_via (T' := T28) (g' := (mkF m 64 #[.val (.int p1), .val (.int p2), .val (.int (2 : Int32)), .val (.int (1 : Int32)), .val (.ref w_DOUBLE), .val (.ref w_INT), .val (.int (401 : Int32)), .val (.int (1 : Int32))] [(.int (1 : Int32))])) (fun t k => XS.goto X28.here hx rfl (pc0 := 60) (pc' := 64) rfl (hb hby at_60) (by decide) (by decide) k) ?_
      exact own_ret (t := .boolean) X28 hx Bd.returns hlk rfl (Or.inl ⟨rfl, by simp, _, rfl⟩) (hb hby at_64) (by decide) (by decide) ⟨rfl, Fr.nil _⟩
    · refine own_via (T' := T22) (g' := (mkF m 10 #[.val (.int p1), .val (.int p2), .val (.int (2 : Int32)), .val (.int (2 : Int32)), .unset, .unset, .unset, .unset] [])) (fun t k => XS.istoreN X22.here hx rfl (hb hby at_9) rfl (l' := #[.val (.int p1), .val (.int p2), .val (.int (2 : Int32)), .val (.int (2 : Int32)), .unset, .unset, .unset, .unset]) rfl k) ?_
      refine own_via (T' := T22) (g' := (mkF m 11 #[.val (.int p1), .val (.int p2), .val (.int (2 : Int32)), .val (.int (2 : Int32)), .unset, .unset, .unset, .unset] [(.int (2 : Int32))])) (fun t k => XS.iloadN X22.here hx rfl (hb hby at_10) rfl k) ?_
      obtain ⟨T29, X29, e29, st29⟩ := own_callS (W := 0) (r := (some (.ref w_DOUBLE))) (y := (⟨"com/example/end_component/endcomponent/language/TypeAcceptsPinLaw", "pick", "(I)Lcom/example/end_component/endcomponent/language/Type;"⟩ : MethodName)) X22 hx hZ hown (hw _ (List.mem_of_getElem? (i := 5) rfl)) (hw _ (List.mem_of_getElem? (i := 6) rfl)) (hw _ (List.mem_of_getElem? (i := 2) rfl)) (hw _ (List.mem_of_getElem? (i := 7) rfl)) (by decide) (own_c2 l Z a0 hw (2 : Int32) w_BOOL w_INT w_DOUBLE w_DOUBLE h0 S_BOOL S_INT S_DOUBLE (by simp [own_pick])) e22 (by decide) (by decide) (by decide) (by decide) (g := (mkF m 11 #[.val (.int p1), .val (.int p2), .val (.int (2 : Int32)), .val (.int (2 : Int32)), .unset, .unset, .unset, .unset] [(.int (2 : Int32))])) rfl (by rw [hml]; rfl) (argsL := [(.int (2 : Int32))]) (rest := []) (lenOf pd_31 rfl) rfl (by show 2 * 0 + _ ≤ _; exact Nat.le_of_eq rfl) (hb hby at_11) rfl
      refine own_via (T' := T29) (g' := (mkF m 14 #[.val (.int p1), .val (.int p2), .val (.int (2 : Int32)), .val (.int (2 : Int32)), .unset, .unset, .unset, .unset] [(.ref w_DOUBLE)])) st29 ?_
      refine own_via (T' := T29) (g' := (mkF m 16 #[.val (.int p1), .val (.int p2), .val (.int (2 : Int32)), .val (.int (2 : Int32)), .val (.ref w_DOUBLE), .unset, .unset, .unset] [])) (fun t k => XS.astore X29.here hx rfl (hb hby at_14) rfl rfl (l' := #[.val (.int p1), .val (.int p2), .val (.int (2 : Int32)), .val (.int (2 : Int32)), .val (.ref w_DOUBLE), .unset, .unset, .unset]) rfl k) ?_
      refine own_via (T' := T29) (g' := (mkF m 17 #[.val (.int p1), .val (.int p2), .val (.int (2 : Int32)), .val (.int (2 : Int32)), .val (.ref w_DOUBLE), .unset, .unset, .unset] [(.int (2 : Int32))])) (fun t k => XS.iloadN X29.here hx rfl (hb hby at_16) rfl k) ?_
      obtain ⟨T30, X30, e30, st30⟩ := own_callS (W := 0) (r := (some (.ref w_DOUBLE))) (y := (⟨"com/example/end_component/endcomponent/language/TypeAcceptsPinLaw", "pick", "(I)Lcom/example/end_component/endcomponent/language/Type;"⟩ : MethodName)) X29 hx hZ hown (hw _ (List.mem_of_getElem? (i := 5) rfl)) (hw _ (List.mem_of_getElem? (i := 6) rfl)) (hw _ (List.mem_of_getElem? (i := 2) rfl)) (hw _ (List.mem_of_getElem? (i := 7) rfl)) (by decide) (own_c2 l Z a0 hw (2 : Int32) w_BOOL w_INT w_DOUBLE w_DOUBLE h0 S_BOOL S_INT S_DOUBLE (by simp [own_pick])) e29 (by decide) (by decide) (by decide) (by decide) (g := (mkF m 17 #[.val (.int p1), .val (.int p2), .val (.int (2 : Int32)), .val (.int (2 : Int32)), .val (.ref w_DOUBLE), .unset, .unset, .unset] [(.int (2 : Int32))])) rfl (by rw [hml]; rfl) (argsL := [(.int (2 : Int32))]) (rest := []) (lenOf pd_31 rfl) rfl (by show 2 * 0 + _ ≤ _; exact Nat.le_of_eq rfl) (hb hby at_17) rfl
      refine own_via (T' := T30) (g' := (mkF m 20 #[.val (.int p1), .val (.int p2), .val (.int (2 : Int32)), .val (.int (2 : Int32)), .val (.ref w_DOUBLE), .unset, .unset, .unset] [(.ref w_DOUBLE)])) st30 ?_
      refine own_via (T' := T30) (g' := (mkF m 22 #[.val (.int p1), .val (.int p2), .val (.int (2 : Int32)), .val (.int (2 : Int32)), .val (.ref w_DOUBLE), .val (.ref w_DOUBLE), .unset, .unset] [])) (fun t k => XS.astore X30.here hx rfl (hb hby at_20) rfl rfl (l' := #[.val (.int p1), .val (.int p2), .val (.int (2 : Int32)), .val (.int (2 : Int32)), .val (.ref w_DOUBLE), .val (.ref w_DOUBLE), .unset, .unset]) rfl k) ?_
      refine own_via (T' := T30) (g' := (mkF m 25 #[.val (.int p1), .val (.int p2), .val (.int (2 : Int32)), .val (.int (2 : Int32)), .val (.ref w_DOUBLE), .val (.ref w_DOUBLE), .unset, .unset] [(.int (401 : Int32))])) (fun t k => XS.sipush X30.here hx rfl (hb hby at_22) k) ?_
      refine own_via (T' := T30) (g' := (mkF m 27 #[.val (.int p1), .val (.int p2), .val (.int (2 : Int32)), .val (.int (2 : Int32)), .val (.ref w_DOUBLE), .val (.ref w_DOUBLE), .val (.int (401 : Int32)), .unset] [])) (fun t k => XS.istore X30.here hx rfl (hb hby at_25) rfl (l' := #[.val (.int p1), .val (.int p2), .val (.int (2 : Int32)), .val (.int (2 : Int32)), .val (.ref w_DOUBLE), .val (.ref w_DOUBLE), .val (.int (401 : Int32)), .unset]) rfl k) ?_
      refine own_via (T' := T30) (g' := (mkF m 29 #[.val (.int p1), .val (.int p2), .val (.int (2 : Int32)), .val (.int (2 : Int32)), .val (.ref w_DOUBLE), .val (.ref w_DOUBLE), .val (.int (401 : Int32)), .unset] [(.int (401 : Int32))])) (fun t k => XS.iload X30.here hx rfl (hb hby at_27) rfl k) ?_
      refine own_via (T' := T30) (g' := (mkF m 30 #[.val (.int p1), .val (.int p2), .val (.int (2 : Int32)), .val (.int (2 : Int32)), .val (.ref w_DOUBLE), .val (.ref w_DOUBLE), .val (.int (401 : Int32)), .unset] [(.int (3 : Int32)), (.int (401 : Int32))])) (fun t k => XS.iconst X30.here hx rfl (hb hby at_29) k) ?_
      refine own_via (T' := T30) (g' := (mkF m 31 #[.val (.int p1), .val (.int p2), .val (.int (2 : Int32)), .val (.int (2 : Int32)), .val (.ref w_DOUBLE), .val (.ref w_DOUBLE), .val (.int (401 : Int32)), .unset] [(.int (2 : Int32)), (.int (3 : Int32)), (.int (401 : Int32))])) (fun t k => XS.iloadN X30.here hx rfl (hb hby at_30) rfl k) ?_
      refine own_via (T' := T30) (g' := (mkF m 32 #[.val (.int p1), .val (.int p2), .val (.int (2 : Int32)), .val (.int (2 : Int32)), .val (.ref w_DOUBLE), .val (.ref w_DOUBLE), .val (.int (401 : Int32)), .unset] [(.int ((3 : Int32) * (2 : Int32))), (.int (401 : Int32))])) (fun t k => XS.imul X30.here hx rfl (hb hby at_31) rfl k) ?_
      rw [show ((3 : Int32) * (2 : Int32)) = (6 : Int32) from by decide]
      refine own_via (T' := T30) (g' := (mkF m 33 #[.val (.int p1), .val (.int p2), .val (.int (2 : Int32)), .val (.int (2 : Int32)), .val (.ref w_DOUBLE), .val (.ref w_DOUBLE), .val (.int (401 : Int32)), .unset] [(.int (2 : Int32)), (.int (6 : Int32)), (.int (401 : Int32))])) (fun t k => XS.iloadN X30.here hx rfl (hb hby at_32) rfl k) ?_
      refine own_via (T' := T30) (g' := (mkF m 34 #[.val (.int p1), .val (.int p2), .val (.int (2 : Int32)), .val (.int (2 : Int32)), .val (.ref w_DOUBLE), .val (.ref w_DOUBLE), .val (.int (401 : Int32)), .unset] [(.int ((6 : Int32) + (2 : Int32))), (.int (401 : Int32))])) (fun t k => XS.iadd X30.here hx rfl (hb hby at_33) rfl k) ?_
      rw [show ((6 : Int32) + (2 : Int32)) = (8 : Int32) from by decide]
      refine own_via (T' := T30) (g' := (mkF m 35 #[.val (.int p1), .val (.int p2), .val (.int (2 : Int32)), .val (.int (2 : Int32)), .val (.ref w_DOUBLE), .val (.ref w_DOUBLE), .val (.int (401 : Int32)), .unset] [(.int ((401 : Int32) >>> ((8 : Int32) &&& 31)))])) (fun t k => XS.ishr X30.here hx rfl (hb hby at_34) rfl k) ?_
      rw [show ((401 : Int32) >>> ((8 : Int32) &&& 31)) = (1 : Int32) from by decide]
      refine own_via (T' := T30) (g' := (mkF m 36 #[.val (.int p1), .val (.int p2), .val (.int (2 : Int32)), .val (.int (2 : Int32)), .val (.ref w_DOUBLE), .val (.ref w_DOUBLE), .val (.int (401 : Int32)), .unset] [(.int (1 : Int32)), (.int (1 : Int32))])) (fun t k => XS.iconst X30.here hx rfl (hb hby at_35) k) ?_
      refine own_via (T' := T30) (g' := (mkF m 37 #[.val (.int p1), .val (.int p2), .val (.int (2 : Int32)), .val (.int (2 : Int32)), .val (.ref w_DOUBLE), .val (.ref w_DOUBLE), .val (.int (401 : Int32)), .unset] [(.int ((1 : Int32) &&& (1 : Int32)))])) (fun t k => XS.iand X30.here hx rfl (hb hby at_36) rfl k) ?_
      rw [show ((1 : Int32) &&& (1 : Int32)) = (1 : Int32) from by decide]
      refine own_via (T' := T30) (g' := (mkF m 40 #[.val (.int p1), .val (.int p2), .val (.int (2 : Int32)), .val (.int (2 : Int32)), .val (.ref w_DOUBLE), .val (.ref w_DOUBLE), .val (.int (401 : Int32)), .unset] [])) (fun t k => XS.ifNo X30.here hx rfl (hb hby at_37) rfl ((if0 _ _).trans (feq (by decide)).1) k) ?_
      refine own_via (T' := T30) (g' := (mkF m 41 #[.val (.int p1), .val (.int p2), .val (.int (2 : Int32)), .val (.int (2 : Int32)), .val (.ref w_DOUBLE), .val (.ref w_DOUBLE), .val (.int (401 : Int32)), .unset] [(.int (1 : Int32))])) (fun t k => XS.iconst X30.here hx rfl (hb hby at_40) k) ?_
      refine own_via (T' := T30) (g' := (mkF m 45 #[.val (.int p1), .val (.int p2), .val (.int (2 : Int32)), .val (.int (2 : Int32)), .val (.ref w_DOUBLE), .val (.ref w_DOUBLE), .val (.int (401 : Int32)), .unset] [(.int (1 : Int32))])) (fun t k => XS.goto X30.here hx rfl (pc0 := 41) (pc' := 45) rfl (hb hby at_41) (by decide) (by decide) k) ?_
      refine own_via (T' := T30) (g' := (mkF m 47 #[.val (.int p1), .val (.int p2), .val (.int (2 : Int32)), .val (.int (2 : Int32)), .val (.ref w_DOUBLE), .val (.ref w_DOUBLE), .val (.int (401 : Int32)), .val (.int (1 : Int32))] [])) (fun t k => XS.istore X30.here hx rfl (hb hby at_45) rfl (l' := #[.val (.int p1), .val (.int p2), .val (.int (2 : Int32)), .val (.int (2 : Int32)), .val (.ref w_DOUBLE), .val (.ref w_DOUBLE), .val (.int (401 : Int32)), .val (.int (1 : Int32))]) rfl k) ?_
      refine own_via (T' := T30) (g' := (mkF m 49 #[.val (.int p1), .val (.int p2), .val (.int (2 : Int32)), .val (.int (2 : Int32)), .val (.ref w_DOUBLE), .val (.ref w_DOUBLE), .val (.int (401 : Int32)), .val (.int (1 : Int32))] [(.ref w_DOUBLE)])) (fun t k => XS.aload X30.here hx rfl (hb hby at_47) rfl rfl k) ?_
      refine own_via (T' := T30) (g' := (mkF m 51 #[.val (.int p1), .val (.int p2), .val (.int (2 : Int32)), .val (.int (2 : Int32)), .val (.ref w_DOUBLE), .val (.ref w_DOUBLE), .val (.int (401 : Int32)), .val (.int (1 : Int32))] [(.ref w_DOUBLE), (.ref w_DOUBLE)])) (fun t k => XS.aload X30.here hx rfl (hb hby at_49) rfl rfl k) ?_
      obtain ⟨T31, X31, e31, st31⟩ := own_callV (W := 0) (r := (some (.int (1 : Int32)))) (y := (⟨"com/example/end_component/endcomponent/language/Type", "accepts", "(Lcom/example/end_component/endcomponent/language/Type;)Z"⟩ : MethodName)) (z := (⟨"com/example/end_component/endcomponent/language/Type", "accepts", "(Lcom/example/end_component/endcomponent/language/Type;)Z"⟩ : MethodName)) X30 hx hZ hown (hw _ (List.mem_of_getElem? (i := 11) rfl)) (hw _ (List.mem_of_getElem? (i := 12) rfl)) (notFace_of_selects (args := #[]) (mvT hZ (hw _ (List.mem_of_getElem? (i := 14) rfl)))) (hw _ (List.mem_of_getElem? (i := 14) rfl)) (hw _ (List.mem_of_getElem? (i := 13) rfl)) (by decide) (hw _ (List.mem_of_getElem? (i := 15) rfl)) (hw _ (List.mem_of_getElem? (i := 9) rfl)) (own_c3 l Z a0 hw w_DOUBLE w_DOUBLE w_INT w_DOUBLE (1 : Int32) h0 S_INT S_DOUBLE (by simp [own_acc, ne_BOOL_INT, ne_BOOL_DOUBLE, ne_INT_BOOL, ne_INT_DOUBLE, ne_DOUBLE_BOOL, ne_DOUBLE_INT])) e30 E_DOUBLE (by decide) (by decide) (by decide) (by decide) (g := (mkF m 51 #[.val (.int p1), .val (.int p2), .val (.int (2 : Int32)), .val (.int (2 : Int32)), .val (.ref w_DOUBLE), .val (.ref w_DOUBLE), .val (.int (401 : Int32)), .val (.int (1 : Int32))] [(.ref w_DOUBLE), (.ref w_DOUBLE)])) rfl (by rw [hml]; rfl) (argsL := [(.ref w_DOUBLE)]) (rest := []) (lenOf pd_32 rfl) rfl (by show 2 * 0 + _ ≤ _; exact Nat.le_of_eq rfl) (hb hby at_51) rfl
      refine own_via (T' := T31) (g' := (mkF m 54 #[.val (.int p1), .val (.int p2), .val (.int (2 : Int32)), .val (.int (2 : Int32)), .val (.ref w_DOUBLE), .val (.ref w_DOUBLE), .val (.int (401 : Int32)), .val (.int (1 : Int32))] [(.int (1 : Int32))])) st31 ?_
      refine own_via (T' := T31) (g' := (mkF m 56 #[.val (.int p1), .val (.int p2), .val (.int (2 : Int32)), .val (.int (2 : Int32)), .val (.ref w_DOUBLE), .val (.ref w_DOUBLE), .val (.int (401 : Int32)), .val (.int (1 : Int32))] [(.int (1 : Int32)), (.int (1 : Int32))])) (fun t k => XS.iload X31.here hx rfl (hb hby at_54) rfl k) ?_
      refine own_via (T' := T31) (g' := (mkF m 59 #[.val (.int p1), .val (.int p2), .val (.int (2 : Int32)), .val (.int (2 : Int32)), .val (.ref w_DOUBLE), .val (.ref w_DOUBLE), .val (.int (401 : Int32)), .val (.int (1 : Int32))] [])) (fun t k => XS.icmpNo X31.here hx rfl (hb hby at_56) rfl (teq rfl).2 k) ?_
      refine own_via (T' := T31) (g' := (mkF m 60 #[.val (.int p1), .val (.int p2), .val (.int (2 : Int32)), .val (.int (2 : Int32)), .val (.ref w_DOUBLE), .val (.ref w_DOUBLE), .val (.int (401 : Int32)), .val (.int (1 : Int32))] [(.int (1 : Int32))])) (fun t k => XS.iconst X31.here hx rfl (hb hby at_59) k) ?_
      refine own_via (T' := T31) (g' := (mkF m 64 #[.val (.int p1), .val (.int p2), .val (.int (2 : Int32)), .val (.int (2 : Int32)), .val (.ref w_DOUBLE), .val (.ref w_DOUBLE), .val (.int (401 : Int32)), .val (.int (1 : Int32))] [(.int (1 : Int32))])) (fun t k => XS.goto X31.here hx rfl (pc0 := 60) (pc' := 64) rfl (hb hby at_60) (by decide) (by decide) k) ?_
      exact own_ret (t := .boolean) X31 hx Bd.returns hlk rfl (Or.inl ⟨rfl, by simp, _, rfl⟩) (hb hby at_64) (by decide) (by decide) ⟨rfl, Fr.nil _⟩
set_option maxRecDepth 65536 in
set_option maxHeartbeats 40000000 in
theorem comes_1 {Post : Tables → Env → Array Value → State → Outcome → State → Prop} (hpost : ∀ tb e args s v u, (limb_1_1.after args s (.returned v) u = true ∧ limb_1_2.after args s (.returned v) u = true ∧ True) → FrameEnd s (.returned v) u (Jvm.fieldLocs frame_1_writes args s ++ Jvm.arrayLocs frame_1_arrays args s ++ Jvm.staticLocs frame_1_statics s) 0 0 → Post tb e args s (.returned v) u) :
    ArmFor flags0 classFile x code maxLocals ret World_1 tables_1 room_1 Calls_1 rest_1 Pre_1 Post := by
  intro l hfl _ _ p e ha hc hk s m args below hf hA hF happ hP
  obtain ⟨hcalls, hrest, hpre⟩ := hP
  obtain ⟨-, -, -, hnamed, -, -, -, hat⟩ := (Spec.applies_iff hf).mp happ
  obtain ⟨hg, hn⟩ := and_e (Cond.before_iff.mp (show (Jvm.Cond.and given_1 narrow_1).before args s = true from hpre))
  obtain ⟨g1a, g1b⟩ := and_e hg
  obtain ⟨g2a, g2b⟩ := and_e g1b
  obtain ⟨w0, w1, rfl⟩ : ∃ w0 w1 : Value, args = #[w0, w1] := by
    have hs : args.size = 2 := by simpa [Cond.value, given_1] using g1a
    obtain ⟨L⟩ := args
    match L, hs with
    | [w0, w1], _ => exact ⟨w0, w1, rfl⟩
  have hw := fun d (hd : d ∈ tables_1) => atoms_spec (ws := Jvm.Cond.code x code maxLocals ret :: tables_1) hat d (List.mem_cons_of_mem _ hd)
  have hfit : Fit s := fun {y c} hc i hi => by
    obtain ⟨ha, rfl⟩ := Array.getElem?_eq_some_iff.mp hc
    have q := List.all_eq_true.mp ((Array.all_eq_true_iff_forall_mem.mp hF) _ (Array.getElem_mem ha)) i (List.mem_range.mpr hi)
    simpa [Array.getElem?_eq_getElem hi] using q
  obtain ⟨i0, ei0⟩ := is_v g2a
  obtain rfl : w0 = (.int i0) := Option.some.inj ei0
  obtain ⟨i1, ei1⟩ := is_v g2b
  obtain rfl : w1 = (.int i1) := Option.some.inj ei1
  obtain ⟨g3a, g3b⟩ := and_e hn
  obtain ⟨g4a, g4b⟩ := and_e g3b
  obtain ⟨g5a, g5b⟩ := and_e g4b
  obtain ⟨g6a, g6b⟩ := and_e g5b
  obtain ⟨g7a, g7b⟩ := and_e g6b
  obtain ⟨w_BOOL, ev_BOOL⟩ := exa_v g3a
  have E_BOOL := Exa.start ev_BOOL g3a
  have S_BOOL := Sta.start ev_BOOL (Or.inr ⟨(hw _ (List.mem_of_getElem? (i := 9) rfl)), (hw _ (List.mem_of_getElem? (i := 10) rfl))⟩)
  obtain ⟨w_DOUBLE, ev_DOUBLE⟩ := exa_v g4a
  have E_DOUBLE := Exa.start ev_DOUBLE g4a
  have S_DOUBLE := Sta.start ev_DOUBLE (Or.inr ⟨(hw _ (List.mem_of_getElem? (i := 9) rfl)), (hw _ (List.mem_of_getElem? (i := 17) rfl))⟩)
  obtain ⟨w_INT, ev_INT⟩ := exa_v g5a
  have E_INT := Exa.start ev_INT g5a
  have S_INT := Sta.start ev_INT (Or.inr ⟨(hw _ (List.mem_of_getElem? (i := 9) rfl)), (hw _ (List.mem_of_getElem? (i := 19) rfl))⟩)
  have O_DOUBLE := own_fld g6a ev_DOUBLE
  have O_INT := own_fld g7a ev_INT
  have O_BOOL := own_fld g7b ev_BOOL
  obtain ⟨n, o, h1, h2, h3, _, L, rfl, hQ, hq⟩ := own_c0 l s _ hw i0 i1 w_BOOL w_INT w_DOUBLE s.heap S_BOOL E_BOOL O_BOOL S_INT E_INT O_INT S_DOUBLE E_DOUBLE O_DOUBLE p e ha hc hk s m _ below hf ((Spec.applies_iff_loose hf).mp happ).1 ⟨rfl, State.Warmed39.refl s, rfl⟩ trivial
  obtain ⟨rfl, N⟩ := own_fin hQ
  refine ⟨n, _, h1, h2, h3, hpost _ _ _ _ _ _ ⟨Cond.after_iff.mpr rfl, Cond.after_iff.mpr (eq_i res_at (Term.int_eval (1)) rfl), trivial⟩ ⟨hq.1, hq.2.1, (hq.2.2.sift fun y hy => Or.inr (N y hy)).mono (by decide) (by decide)⟩⟩
theorem main_1_1 : Claimed_1_1 := comes_1 fun _ _ _ _ _ _ h hF => ⟨h.1, hF⟩
theorem main_1_2 : Claimed_1_2 := comes_1 fun _ _ _ _ _ _ h hF => ⟨h.2.1, hF⟩
end Jvm.Pilot.@@N@@
namespace Jvm.Pilot.@@N@@
open Jvm Jvm.ClassFile Sem Op Lib Jvm.Free Jvm.Stand Jvm.Pilot.@@N@@.Jvm.D
/-! MADE BY PROGRAM (witnessworld.py) out of the Statement's table words and the real class files: 12 classes; the members and pool entries that the words name. The judged class is class 1, her method 3. -/
namespace start1
open Jvm.ClassFile
def u (s : String) : CpInfo := .utf8 (stringToUtf16 s)
/-- a pool by its gaps: so many unusable entries, then the entry; so many at the end -/
def gap : Nat → List CpInfo → List CpInfo
  | 0, r => r
  | n + 1, r => .unusable :: gap n r
def poolList (es : List (Nat × CpInfo)) (last : Nat) : List CpInfo := es.foldr (fun e r => gap e.1 (e.2 :: r)) (gap last [])
def pool (es : List (Nat × CpInfo)) (last : Nat) : Array CpInfo := ⟨poolList es last⟩
def fileOf (pool : Array CpInfo) (this : Nat) (attrs : Array Attribute := #[]) (ms : Array MethodInfo := #[]) (fl : Nat := 33) (sup : Nat := 0) (ifs : Array Nat := #[]) (fds : Array FieldInfo := #[]) : ClassFile where
  minorVersion := 0
  majorVersion := 65
  constantPool := pool
  accessFlags := fl
  thisClass := this
  superClass := sup
  interfaces := ifs
  fields := fds
  methods := ms
  attributes := attrs
def plain (name : String) (sup : Option ClassId) : Class where
  name := name
  kind := .ordinary
  loader := none
  accessFlags := 33
  super := sup
  interfaces := #[]
  cf := none
  fields := #[]
  methods := #[]
  instanceTypes := #[]
  staticTypes := #[]
  resolved := #[]
  callSites := []
  init := .initialized
  statics := none
  mirror := none

def pool0 : Array CpInfo := pool [(5, u "<init>"), (0, u "()V"), (1, .class_ 10), (1, u "java/lang/Object")] 113

def k0m0 : Method := { name := "<init>", desc := "()V", sig := { parameters := [], returnType := none }, accessFlags := 1, code := none }
/-- java/lang/Object -/
def k0 : Class := { plain "java/lang/Object" none with
  accessFlags := 33
  interfaces := #[]
  cf := some (fileOf pool0 8 #[] #[{ accessFlags := 1, nameIndex := 5, descriptorIndex := 6, attributes := #[] }] 33 0 #[] #[])
  fields := #[]
  methods := #[k0m0]
  instanceTypes := #[]
  staticTypes := #[]
  resolved := Array.replicate 124 none
  statics := none }

def pool1 : Array CpInfo := pool [(2, .class_ 4), (1, u "java/lang/Object"), (0, u "<init>"), (0, u "()V"), (0, .integer 2147483647), (0, .fieldref 9 10), (0, .class_ 11), (0, .nameAndType 12 13), (0, u "com/example/end_component/endcomponent/language/Type"), (0, u "BOOL"), (0, u "Lcom/example/end_component/endcomponent/language/Type;"), (0, .fieldref 9 15), (0, .nameAndType 16 13), (0, u "INT"), (0, .fieldref 9 18), (0, .nameAndType 19 13), (0, u "DOUBLE"), (0, .methodref 21 22), (0, .class_ 23), (0, .nameAndType 24 25), (0, u "com/example/end_component/endcomponent/language/TypeAcceptsPinLaw"), (0, u "index"), (0, u "(I)I"), (0, .methodref 21 27), (0, .nameAndType 28 29), (0, u "pick"), (0, u "(I)Lcom/example/end_component/endcomponent/language/Type;"), (0, .methodref 9 31), (0, .nameAndType 32 33), (0, u "accepts"), (0, u "(Lcom/example/end_component/endcomponent/language/Type;)Z"), (3, u "law"), (0, u "(II)Z")] 2

def k1m0 : Method := { name := "<init>", desc := "()V", sig := { parameters := [], returnType := none }, accessFlags := 2, code := none }
def k1c1 : Code := { maxStack := 2, maxLocals := 1, code := method_2_code, exceptionTable := #[], attributes := #[] }
def k1m1 : Method := { name := "index", desc := "(I)I", sig := { parameters := [.int], returnType := some .int }, accessFlags := 10, code := some k1c1 }
def k1c2 : Code := { maxStack := 2, maxLocals := 1, code := method_3_code, exceptionTable := #[], attributes := #[] }
def k1m2 : Method := { name := "pick", desc := "(I)Lcom/example/end_component/endcomponent/language/Type;", sig := { parameters := [.int], returnType := some (.object "com/example/end_component/endcomponent/language/Type") }, accessFlags := 10, code := some k1c2 }
def k1c3 : Code := { maxStack := 3, maxLocals := 8, code := code, exceptionTable := #[], attributes := #[] }
def k1m3 : Method := { name := "law", desc := "(II)Z", sig := { parameters := [.int, .int], returnType := some .boolean }, accessFlags := 9, code := some k1c3 }
/-- com/example/end_component/endcomponent/language/TypeAcceptsPinLaw -/
def k1 : Class := { plain "com/example/end_component/endcomponent/language/TypeAcceptsPinLaw" (some 0) with
  accessFlags := 49
  interfaces := #[]
  cf := some (fileOf pool1 21 #[] #[{ accessFlags := 2, nameIndex := 5, descriptorIndex := 6, attributes := #[] }, { accessFlags := 10, nameIndex := 24, descriptorIndex := 25, attributes := #[] }, { accessFlags := 10, nameIndex := 28, descriptorIndex := 29, attributes := #[] }, { accessFlags := 9, nameIndex := 37, descriptorIndex := 38, attributes := #[] }] 49 2 #[] #[])
  fields := #[]
  methods := #[k1m0, k1m1, k1m2, k1m3]
  instanceTypes := #[]
  staticTypes := #[]
  resolved := Array.replicate 41 none
  statics := none }

def pool2 : Array CpInfo := pool [(1, .class_ 2), (0, u "java/lang/constant/Constable"), (0, .class_ 4), (0, u "java/lang/Object")] 6

/-- java/lang/constant/Constable -/
def k2 : Class := { plain "java/lang/constant/Constable" (some 0) with
  accessFlags := 1537
  interfaces := #[]
  cf := some (fileOf pool2 1 #[] #[] 1537 3 #[] #[])
  fields := #[]
  methods := #[]
  instanceTypes := #[]
  staticTypes := #[]
  resolved := Array.replicate 11 none
  statics := none }

def pool3 : Array CpInfo := pool [(1, .class_ 2), (0, u "java/lang/Comparable"), (0, .class_ 4), (0, u "java/lang/Object")] 7

/-- java/lang/Comparable -/
def k3 : Class := { plain "java/lang/Comparable" (some 0) with
  accessFlags := 1537
  interfaces := #[]
  cf := some (fileOf pool3 1 #[] #[] 1537 3 #[] #[])
  fields := #[]
  methods := #[]
  instanceTypes := #[]
  staticTypes := #[]
  resolved := Array.replicate 12 none
  statics := none }

def pool4 : Array CpInfo := pool [(1, .class_ 2), (0, u "java/io/Serializable"), (0, .class_ 4), (0, u "java/lang/Object")] 2

/-- java/io/Serializable -/
def k4 : Class := { plain "java/io/Serializable" (some 0) with
  accessFlags := 1537
  interfaces := #[]
  cf := some (fileOf pool4 1 #[] #[] 1537 3 #[] #[])
  fields := #[]
  methods := #[]
  instanceTypes := #[]
  staticTypes := #[]
  resolved := Array.replicate 7 none
  statics := none }

def pool5 : Array CpInfo := pool [(2, .class_ 4), (1, u "java/lang/Enum"), (0, u "name"), (0, u "Ljava/lang/String;"), (2, u "ordinal"), (0, u "I"), (1, .class_ 14), (1, u "java/lang/Object"), (4, u "hash"), (86, .class_ 108), (1, u "java/lang/Enum$EnumDesc"), (2, .class_ 112), (0, u "java/lang/constant/Constable"), (0, .class_ 114), (0, u "java/lang/Comparable"), (0, .class_ 116), (0, u "java/io/Serializable")] 87

/-- java/lang/Enum -/
def k5 : Class := { plain "java/lang/Enum" (some 0) with
  accessFlags := 1057
  interfaces := #[2, 3, 4]
  cf := some (fileOf pool5 2 #[.nestMembers #[106]] #[] 1057 12 #[111, 113, 115] #[{ accessFlags := 18, nameIndex := 5, descriptorIndex := 6, attributes := #[] }, { accessFlags := 18, nameIndex := 9, descriptorIndex := 10, attributes := #[] }, { accessFlags := 2, nameIndex := 19, descriptorIndex := 10, attributes := #[] }])
  fields := #[{ name := "name", type := (.object "java/lang/String"), accessFlags := 18, slot := 0, constantValue := 0 }, { name := "ordinal", type := .int, accessFlags := 18, slot := 1, constantValue := 0 }, { name := "hash", type := .int, accessFlags := 2, slot := 2, constantValue := 0 }]
  methods := #[]
  instanceTypes := #[(.object "java/lang/String"), .int, .int]
  staticTypes := #[]
  resolved := Array.replicate 204 none
  statics := none }

def pool6 : Array CpInfo := pool [(1, .class_ 2), (0, u "com/example/end_component/endcomponent/language/Type"), (2, u "BOOL"), (0, u "Lcom/example/end_component/endcomponent/language/Type;"), (0, .fieldref 1 8), (0, .nameAndType 9 6), (0, u "INT"), (0, .fieldref 1 11), (0, .nameAndType 12 6), (0, u "DOUBLE"), (2, u "$VALUES"), (0, u "[Lcom/example/end_component/endcomponent/language/Type;"), (6, .class_ 25), (1, u "java/lang/Enum"), (8, u "keyword"), (0, u "Ljava/lang/String;"), (2, u "accepts"), (0, u "(Lcom/example/end_component/endcomponent/language/Type;)Z")] 61

def k6c0 : Code := { maxStack := 2, maxLocals := 2, code := prog_81_method_5_code, exceptionTable := #[], attributes := #[] }
def k6m0 : Method := { name := "accepts", desc := "(Lcom/example/end_component/endcomponent/language/Type;)Z", sig := { parameters := [(.object "com/example/end_component/endcomponent/language/Type")], returnType := some .boolean }, accessFlags := 0, code := some k6c0 }
/-- com/example/end_component/endcomponent/language/Type -/
def k6 : Class := { plain "com/example/end_component/endcomponent/language/Type" (some 5) with
  accessFlags := 16432
  interfaces := #[]
  cf := some (fileOf pool6 1 #[] #[{ accessFlags := 0, nameIndex := 38, descriptorIndex := 39, attributes := #[] }] 16432 23 #[] #[{ accessFlags := 16409, nameIndex := 5, descriptorIndex := 6, attributes := #[] }, { accessFlags := 16409, nameIndex := 9, descriptorIndex := 6, attributes := #[] }, { accessFlags := 16409, nameIndex := 12, descriptorIndex := 6, attributes := #[] }, { accessFlags := 18, nameIndex := 34, descriptorIndex := 35, attributes := #[] }, { accessFlags := 4122, nameIndex := 15, descriptorIndex := 16, attributes := #[] }])
  fields := #[{ name := "BOOL", type := (.object "com/example/end_component/endcomponent/language/Type"), accessFlags := 16409, slot := 0, constantValue := 0 }, { name := "INT", type := (.object "com/example/end_component/endcomponent/language/Type"), accessFlags := 16409, slot := 1, constantValue := 0 }, { name := "DOUBLE", type := (.object "com/example/end_component/endcomponent/language/Type"), accessFlags := 16409, slot := 2, constantValue := 0 }, { name := "keyword", type := (.object "java/lang/String"), accessFlags := 18, slot := 3, constantValue := 0 }, { name := "$VALUES", type := (.array (.object "com/example/end_component/endcomponent/language/Type")), accessFlags := 4122, slot := 3, constantValue := 0 }]
  methods := #[k6m0]
  instanceTypes := #[(.object "java/lang/String"), .int, .int, (.object "java/lang/String")]
  staticTypes := #[(.object "com/example/end_component/endcomponent/language/Type"), (.object "com/example/end_component/endcomponent/language/Type"), (.object "com/example/end_component/endcomponent/language/Type"), (.array (.object "com/example/end_component/endcomponent/language/Type"))]
  resolved := Array.replicate 101 none
  statics := some 0 }

def pool7 : Array CpInfo := pool [(1, u "java/lang/Cloneable"), (0, .class_ 1), (0, u "java/lang/Object"), (0, .class_ 3)] 3

/-- java/lang/Cloneable -/
def k7 : Class := { plain "java/lang/Cloneable" (some 0) with
  accessFlags := 1537
  interfaces := #[]
  cf := some (fileOf pool7 2 #[] #[] 1537 4 #[] #[])
  fields := #[]
  methods := #[]
  instanceTypes := #[]
  staticTypes := #[]
  resolved := Array.replicate 8 none
  statics := none }

/-- the primitive byte -/
def k8 : Class := { plain "byte" none with kind := .primitive 'B', accessFlags := 0x411 }
/-- [B -/
def k9 : Class := { plain "[B" (some 0) with kind := .array 8 .byte, interfaces := #[7, 4], accessFlags := 1041 }

/-- the primitive int -/
def k10 : Class := { plain "int" none with kind := .primitive 'I', accessFlags := 0x411 }
/-- [I -/
def k11 : Class := { plain "[I" (some 0) with kind := .array 10 .int, interfaces := #[7, 4], accessFlags := 1041 }

def heap : Heap := #[{ cls := 6, slots := #[.ref 1, .ref 2, .ref 3, .null], vm := .statics 6 },
  { cls := 6, slots := #[.null, .int 0, .int 0, .null], vm := .none },
  { cls := 6, slots := #[.null, .int 1, .int 0, .null], vm := .none },
  { cls := 6, slots := #[.null, .int 2, .int 0, .null], vm := .none }]
def classes : Array Class := #[k0, k1, k2, k3, k4, k5, k6, k7, k8, k9, k10, k11]
def interned : List (Array UInt16 × Addr) := []
def slotsUsed : Nat := 16
def theMethod : MethodId := ⟨1, 3⟩
def args0 : Array Value := #[.int 5, .int 7]
def aboutOver (below : List Frame) : State where
  vm := { classes := classes, interned := interned.toArray }
  heap := heap
  slotsUsed := slotsUsed
  threads := #[{ frames := .invoking theMethod args0 :: below }]
def below0 : List Frame := [.native { method := ⟨0, 0⟩, args := #[] }]
def about1 : State := aboutOver below0
def p0 : Program := .bare "" "" ""
def e0 : Env := launch0.env 0 0 0
theorem w_frames : about1.frames = Frame.invoking theMethod args0 :: below0 := rfl
set_option maxRecDepth 65536 in
theorem w_args : argsFit about1.vm theMethod args0 = true := by decide +kernel
set_option maxRecDepth 65536 in
theorem w_heap : heapFits about1 = true := by decide +kernel
set_option maxRecDepth 65536 in
theorem w_runnable : about1.curStatus? = some .runnable := by decide +kernel
set_option maxRecDepth 65536 in
theorem w_alone : about1.alone = true := by decide +kernel
set_option maxRecDepth 65536 in
theorem w_named : about1.methodNamed? x = some theMethod := by decide +kernel
set_option maxRecDepth 65536 in
theorem w_hears : about1.hears theMethod below0 = true := by decide +kernel
set_option maxRecDepth 65536 in
theorem w_ripe : about1.ripe theMethod args0 below0 = true := by decide +kernel
theorem w_running : about1.status = .running := rfl
set_option maxRecDepth 65536 in
theorem w_room : about1.hasRoom e0.platform room_1 = true :=
  launch0.hasRoom_least _ room_1 (by decide +kernel) (by decide +kernel) (by decide +kernel) (by decide +kernel) (by decide +kernel) (by decide +kernel)
theorem allAtoms_all (ts : List Jvm.Cond) (a : Array Jvm.Value) (st : Jvm.State) : (allAtoms ts).before a st = ts.all (fun c => c.before a st) := by
  induction ts with
  | nil => rfl
  | cons c t ih =>
    show (Jvm.Cond.and c (allAtoms t)).before a st = _
    rw [Jvm.Cond.before_and, ih, List.all_cons]
def words1 : List Jvm.Cond := Jvm.Cond.code x code maxLocals ret :: tables_1
/-- a 'code' word, met by the world's own term for the bytes: nothing is compared byte by byte -/
theorem code_word {y : MethodName} {bytes : ByteArray} {mx : Nat} {rt : Option FieldType} {a : Array Value} {s : State} {m : MethodId} {meth : Method} {c : Code} (h1 : s.methodNamed? y = some m) (h2 : s.vm.method? m = some meth) (h3 : meth.code = some c) (h4 : c.code = bytes)
    (h5 : (c.maxLocals == mx && c.exceptionTable.isEmpty && decide (c.maxStack ≤ mostOperands) && decide (meth.sig.returnType = rt) && !meth.locks && decide (parseMethodDescriptor y.desc = some meth.sig)) = true) : (Jvm.Cond.code y bytes mx rt).before a s = true := by
  simp only [Bool.and_eq_true, beq_iff_eq, Bool.not_eq_true', decide_eq_true_eq] at h5
  obtain ⟨⟨⟨⟨⟨g1, g2⟩, g3⟩, g4⟩, g5⟩, g6⟩ := h5
  simp [Cond.before, Cond.holds, Cond.value, h1, h2, h3, h4, g1, g2, g3, g4, g5, g6]
def isCode : Jvm.Cond → Bool
  | .code _ _ _ _ => true
  | _ => false
theorem all_split {L : List Jvm.Cond} {P : Jvm.Cond → Bool} (h1 : L.all (fun c => isCode c || P c) = true) (h2 : ∀ c ∈ L.filter isCode, P c = true) : L.all P = true := by
  refine List.all_eq_true.mpr fun c hc => ?_
  have h := List.all_eq_true.mp h1 c hc
  rcases Bool.eq_false_or_eq_true (isCode c) with hi | hi
  · exact h2 c (List.mem_filter.mpr ⟨hc, hi⟩)
  · simpa [hi] using h
set_option maxRecDepth 65536 in
theorem w_c0 : (Jvm.Cond.code x code maxLocals ret).before args0 about1 = true := code_word (m := ⟨1, 3⟩) (meth := k1m3) (c := k1c3) (by decide +kernel) rfl rfl rfl (by decide +kernel)
set_option maxRecDepth 65536 in
theorem w_c1 : (Jvm.Cond.code ({ cls := "com/example/end_component/endcomponent/language/TypeAcceptsPinLaw", name := "index", desc := "(I)I" } : Jvm.MethodName) method_2_code (1 : Nat) (Option.some Jvm.ClassFile.FieldType.int)).before args0 about1 = true := code_word (m := ⟨1, 1⟩) (meth := k1m1) (c := k1c1) (by decide +kernel) rfl rfl rfl (by decide +kernel)
set_option maxRecDepth 65536 in
theorem w_c2 : (Jvm.Cond.code ({ cls := "com/example/end_component/endcomponent/language/TypeAcceptsPinLaw", name := "pick", desc := "(I)Lcom/example/end_component/endcomponent/language/Type;" } : Jvm.MethodName) method_3_code (1 : Nat) (Option.some (Jvm.ClassFile.FieldType.object "com/example/end_component/endcomponent/language/Type"))).before args0 about1 = true := code_word (m := ⟨1, 2⟩) (meth := k1m2) (c := k1c2) (by decide +kernel) rfl rfl rfl (by decide +kernel)
set_option maxRecDepth 65536 in
theorem w_c3 : (Jvm.Cond.code ({ cls := "com/example/end_component/endcomponent/language/Type", name := "accepts", desc := "(Lcom/example/end_component/endcomponent/language/Type;)Z" } : Jvm.MethodName) prog_81_method_5_code (2 : Nat) (Option.some Jvm.ClassFile.FieldType.boolean)).before args0 about1 = true := code_word (m := ⟨6, 0⟩) (meth := k6m0) (c := k6c0) (by decide +kernel) rfl rfl rfl (by decide +kernel)
def codes1 : List Jvm.Cond := [Jvm.Cond.code x code maxLocals ret, Jvm.Cond.code ({ cls := "com/example/end_component/endcomponent/language/TypeAcceptsPinLaw", name := "index", desc := "(I)I" } : Jvm.MethodName) method_2_code (1 : Nat) (Option.some Jvm.ClassFile.FieldType.int), Jvm.Cond.code ({ cls := "com/example/end_component/endcomponent/language/TypeAcceptsPinLaw", name := "pick", desc := "(I)Lcom/example/end_component/endcomponent/language/Type;" } : Jvm.MethodName) method_3_code (1 : Nat) (Option.some (Jvm.ClassFile.FieldType.object "com/example/end_component/endcomponent/language/Type")), Jvm.Cond.code ({ cls := "com/example/end_component/endcomponent/language/Type", name := "accepts", desc := "(Lcom/example/end_component/endcomponent/language/Type;)Z" } : Jvm.MethodName) prog_81_method_5_code (2 : Nat) (Option.some Jvm.ClassFile.FieldType.boolean)]
set_option maxRecDepth 65536 in
theorem codes_eq : words1.filter isCode = codes1 := rfl
theorem w_codes : ∀ c ∈ words1.filter isCode, c.before args0 about1 = true := by
  rw [codes_eq]
  intro c hc
  simp only [codes1, List.mem_cons, List.not_mem_nil, or_false] at hc
  rcases hc with rfl | rfl | rfl | rfl
  · exact w_c0
  · exact w_c1
  · exact w_c2
  · exact w_c3
set_option maxRecDepth 65536 in
theorem w_t1 : words1.all (fun c => isCode c || c.before args0 about1) = true := by decide +kernel
theorem w_tables : (allAtoms (Jvm.Cond.code x code maxLocals ret :: tables_1)).before args0 about1 = true := by
  rw [allAtoms_all]
  show words1.all (fun c => c.before args0 about1) = true
  refine all_split ?_ w_codes
  rw [w_t1]
set_option maxRecDepth 65536 in
theorem w_case : (Jvm.Cond.and given_1 narrow_1).before args0 about1 = true := by decide +kernel
theorem w_applies : (headSpec (Jvm.Cond.code x code maxLocals ret :: tables_1) room_1).applies x e0.platform about1 = true :=
  (Spec.applies_iff w_frames).mpr ⟨w_running, w_runnable, w_alone, w_named, w_hears, w_ripe, w_room, w_tables⟩
theorem atStart : AtStart classFile x code maxLocals ret World_1 tables_1 room_1 Calls_1 rest_1 Pre_1 launch0 p0 e0 about1 theMethod args0 below0 :=
  ⟨lists_1, trivial, launch0.admits_env _ _ _, launch0.least_env, fairChoices_fair.cas, fairChoices_fair.clock, w_frames, w_args, w_heap, w_applies, trivial, trivial, w_case⟩
end start1
theorem witness_1 : WitnessClaimed_1 := ⟨start1.p0, start1.e0, start1.about1, start1.theMethod, start1.args0, start1.below0, start1.atStart⟩
end Jvm.Pilot.@@N@@
